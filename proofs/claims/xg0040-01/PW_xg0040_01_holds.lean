import PyProof.Rows.All
import Wide.All
import OpenK.AllK
import Wide.FinOn
import PySem.Challenge.RW_xg0040_01

section
open PySem PySem.W PyProof.Rows
set_option Elab.async false
set_option maxRecDepth 100000
set_option maxHeartbeats 8000000
set_option linter.unusedVariables false
namespace Mine
noncomputable section
noncomputable abbrev PR : Program := PySem.Challenge.rw_xg0040_01.row.prog
/-! the text's own statements, by their places -/
noncomputable def topS (i : Nat) : Stmt := (PR.main.body[i]?).getD (.Pass default)
noncomputable def inS (i j : Nat) : Stmt := match topS i with
  | .ClassDef _ _ _ b _ _ _ _ _ _ _ => (b[j]?).getD (.Pass default)
  | s => s
noncomputable def astP (s : Stmt) : Arguments := match s with
  | .FunctionDef _ p _ _ _ _ _ _ _ _ => p
  | _ => default
noncomputable def astB (s : Stmt) : FuncBody := match s with
  | .FunctionDef _ _ b _ _ _ _ _ _ _ => .stmts b
  | _ => .stmts []
noncomputable def astS (s : Stmt) : Scope := match s with
  | .FunctionDef _ _ _ _ _ _ sc _ _ _ => sc
  | _ => default
/-! the objects that stand behind the top -/
noncomputable def k1 (P : Params) : Obj :=
{ cls := PySem.Value.type "dict", data := PySem.Data.dict #[{ hash := PySem.PyData.keyHash P (PySem.Str.ofString "builtins"), key := PySem.Value.str (PySem.Str.ofString "builtins") 162, val := PySem.Value.ref 4 }, { hash := PySem.PyData.keyHash P (PySem.Str.ofString "__main__"), key := PySem.Value.str (PySem.Str.ofString "__main__") 163, val := PySem.Value.ref 5 }] 2 }
noncomputable def k2 (P : Params) : Obj :=
{ cls := PySem.Value.none, data := PySem.Data.dict #[] }
noncomputable def k3 (P : Params) : Obj :=
{ cls := PySem.Value.type "dict",
  data :=
    PySem.Data.dict
      #[{ hash := PySem.PyData.keyHash P (PySem.Str.ofString "__name__"), key := PySem.Value.str (PySem.Str.ofString "__name__") 165, val := PySem.Value.str (PySem.Str.ofString "law_xg0040_01") 442 },
        { hash := PySem.PyData.keyHash P (PySem.Str.ofString "__doc__"), key := PySem.Value.str (PySem.Str.ofString "__doc__") 166, val := PySem.Value.none },
        { hash := PySem.PyData.keyHash P (PySem.Str.ofString "__package__"), key := PySem.Value.str (PySem.Str.ofString "__package__") 167, val := PySem.Value.none },
        { hash := PySem.PyData.keyHash P (PySem.Str.ofString "__loader__"), key := PySem.Value.str (PySem.Str.ofString "__loader__") 168, val := PySem.Value.builtin "__main__.__loader__#opaque" },
        { hash := PySem.PyData.keyHash P (PySem.Str.ofString "__spec__"), key := PySem.Value.str (PySem.Str.ofString "__spec__") 169, val := PySem.Value.none },
        { hash := PySem.PyData.keyHash P (PySem.Str.ofString "__annotations__"), key := PySem.Value.str (PySem.Str.ofString "__annotations__") 170, val := PySem.Value.ref 6 },
        { hash := PySem.PyData.keyHash P (PySem.Str.ofString "__builtins__"), key := PySem.Value.str (PySem.Str.ofString "__builtins__") 171, val := PySem.Value.ref 4 },
        { hash := PySem.PyData.keyHash P (PySem.Str.ofString "__file__"), key := PySem.Value.str (PySem.Str.ofString "__file__") 173, val := PySem.Value.str (PySem.Str.ofString "/claim/cut.py") 172 },
        { hash := PySem.PyData.keyHash P (PySem.Str.ofString "__cached__"), key := PySem.Value.str (PySem.Str.ofString "__cached__") 174, val := PySem.Value.none },
        { hash := PySem.PyData.keyHash P (PySem.Str.ofString "_wall"), key := PySem.Value.str (PySem.Str.ofString "_wall") 193, val := PySem.Value.ref 21 }, { hash := PySem.PyData.keyHash P (PySem.Str.ofString "le"), key := PySem.Value.str (PySem.Str.ofString "le") 203, val := PySem.Value.ref 28 },
        { hash := PySem.PyData.keyHash P (PySem.Str.ofString "mul"), key := PySem.Value.str (PySem.Str.ofString "mul") 211, val := PySem.Value.ref 35 }, { hash := PySem.PyData.keyHash P (PySem.Str.ofString "neg"), key := PySem.Value.str (PySem.Str.ofString "neg") 218, val := PySem.Value.ref 42 },
        { hash := PySem.PyData.keyHash P (PySem.Str.ofString "EMPTYSTRING"), key := PySem.Value.str (PySem.Str.ofString "EMPTYSTRING") 222, val := PySem.Value.str (PySem.Str.ofString "") 221 },
        { hash := PySem.PyData.keyHash P (PySem.Str.ofString "_Accumulator"), key := PySem.Value.str (PySem.Str.ofString "_Accumulator") 317, val := PySem.Value.ref 122 },
        { hash := PySem.PyData.keyHash P (PySem.Str.ofString "_netrclex"), key := PySem.Value.str (PySem.Str.ofString "_netrclex") 377, val := PySem.Value.ref 164 },
        { hash := PySem.PyData.keyHash P (PySem.Str.ofString "TupleComp"), key := PySem.Value.str (PySem.Str.ofString "TupleComp") 421, val := PySem.Value.ref 192 },
        { hash := PySem.PyData.keyHash P (PySem.Str.ofString "add_callers"), key := PySem.Value.str (PySem.Str.ofString "add_callers") 432, val := PySem.Value.ref 203 },
        { hash := PySem.PyData.keyHash P (PySem.Str.ofString "count_calls"), key := PySem.Value.str (PySem.Str.ofString "count_calls") 441, val := PySem.Value.ref 210 },
        { hash := PySem.PyData.keyHash P (PySem.Str.ofString "_law_numbers"), key := PySem.Value.str (PySem.Str.ofString "_law_numbers") 449, val := PySem.Value.ref 215 },
        { hash := PySem.PyData.keyHash P (PySem.Str.ofString "_law_profile"), key := PySem.Value.str (PySem.Str.ofString "_law_profile") 460, val := PySem.Value.ref 222 },
        { hash := PySem.PyData.keyHash P (PySem.Str.ofString "_law_rings"), key := PySem.Value.str (PySem.Str.ofString "_law_rings") 466, val := PySem.Value.ref 227 },
        { hash := PySem.PyData.keyHash P (PySem.Str.ofString "_law_calls"), key := PySem.Value.str (PySem.Str.ofString "_law_calls") 477, val := PySem.Value.ref 234 },
        { hash := PySem.PyData.keyHash P (PySem.Str.ofString "_law_determinant"), key := PySem.Value.str (PySem.Str.ofString "_law_determinant") 486, val := PySem.Value.ref 241 },
        { hash := PySem.PyData.keyHash P (PySem.Str.ofString "law"), key := PySem.Value.str (PySem.Str.ofString "law") 492, val := PySem.Value.ref 246 }]
      25 }
noncomputable def k15 (P : Params) : Obj :=
{ cls := PySem.Value.type "tuple", data := PySem.Data.seq #[] }
noncomputable def k17 (P : Params) : Obj :=
{ cls := PySem.Value.type "tuple", data := PySem.Data.seq #[PySem.Value.str (PySem.Str.ofString "k") 190] }
noncomputable def k18 (P : Params) : Obj :=
{ cls := PySem.Value.type "tuple", data := PySem.Data.seq #[] }
noncomputable def k20 (P : Params) : Obj :=
{ cls := PySem.Value.type "code",
  data :=
    PySem.Data.fields
      #[PySem.Value.str (PySem.Str.ofString "_wall") 187, PySem.Value.str (PySem.Str.ofString "_wall") 188, PySem.Value.str (PySem.Str.ofString "/claim/cut.py") 189, PySem.Value.int 1 0, PySem.Value.int 1 0, PySem.Value.int 0 0, PySem.Value.int 0 0, PySem.Value.int 3 0, PySem.Value.ref 15,
        PySem.Value.bool true, PySem.Value.int 181 0, PySem.Value.ref 16, PySem.Value.none, PySem.Value.ref 17, PySem.Value.ref 18, PySem.Value.ref 19, PySem.Value.int 191 0, PySem.Value.int 1 0, PySem.Value.str (PySem.Str.ofString "/claim/cut.py") 192] }
noncomputable def k21 (P : Params) : Obj :=
{ cls := PySem.Value.type "function",
  data :=
    PySem.Data.func
      { name := PySem.Str.ofString "_wall", qualname := PySem.Str.ofString "_wall", params := Mine.astP (Mine.topS 0), body := Mine.astB (Mine.topS 0), scope := Mine.astS (Mine.topS 0), globals := 3, closure := [], defaults := PySem.Value.none, kwdefaults := PySem.Value.none,
        pyModule := PySem.Value.str (PySem.Str.ofString "__main__") 164, code := PySem.Value.ref 20 } }
noncomputable def k22 (P : Params) : Obj :=
{ cls := PySem.Value.type "tuple", data := PySem.Data.seq #[] }
noncomputable def k24 (P : Params) : Obj :=
{ cls := PySem.Value.type "tuple", data := PySem.Data.seq #[PySem.Value.str (PySem.Str.ofString "a") 199, PySem.Value.str (PySem.Str.ofString "b") 200] }
noncomputable def k25 (P : Params) : Obj :=
{ cls := PySem.Value.type "tuple", data := PySem.Data.seq #[] }
noncomputable def k27 (P : Params) : Obj :=
{ cls := PySem.Value.type "code",
  data :=
    PySem.Data.fields
      #[PySem.Value.str (PySem.Str.ofString "le") 196, PySem.Value.str (PySem.Str.ofString "le") 197, PySem.Value.str (PySem.Str.ofString "/claim/cut.py") 198, PySem.Value.int 5 0, PySem.Value.int 2 0, PySem.Value.int 0 0, PySem.Value.int 0 0, PySem.Value.int 3 0, PySem.Value.ref 22,
        PySem.Value.bool true, PySem.Value.int 181 0, PySem.Value.ref 23, PySem.Value.none, PySem.Value.ref 24, PySem.Value.ref 25, PySem.Value.ref 26, PySem.Value.int 201 0, PySem.Value.int 5 0, PySem.Value.str (PySem.Str.ofString "/claim/cut.py") 202] }
noncomputable def k28 (P : Params) : Obj :=
{ cls := PySem.Value.type "function",
  data :=
    PySem.Data.func
      { name := PySem.Str.ofString "le", qualname := PySem.Str.ofString "le", params := Mine.astP (Mine.topS 2), body := Mine.astB (Mine.topS 2), scope := Mine.astS (Mine.topS 2), globals := 3, closure := [], defaults := PySem.Value.none, kwdefaults := PySem.Value.none,
        pyModule := PySem.Value.str (PySem.Str.ofString "cpy313.operator") 194, code := PySem.Value.ref 27 } }
noncomputable def k29 (P : Params) : Obj :=
{ cls := PySem.Value.type "tuple", data := PySem.Data.seq #[] }
noncomputable def k31 (P : Params) : Obj :=
{ cls := PySem.Value.type "tuple", data := PySem.Data.seq #[PySem.Value.str (PySem.Str.ofString "a") 207, PySem.Value.str (PySem.Str.ofString "b") 208] }
noncomputable def k32 (P : Params) : Obj :=
{ cls := PySem.Value.type "tuple", data := PySem.Data.seq #[] }
noncomputable def k34 (P : Params) : Obj :=
{ cls := PySem.Value.type "code",
  data :=
    PySem.Data.fields
      #[PySem.Value.str (PySem.Str.ofString "mul") 204, PySem.Value.str (PySem.Str.ofString "mul") 205, PySem.Value.str (PySem.Str.ofString "/claim/cut.py") 206, PySem.Value.int 7 0, PySem.Value.int 2 0, PySem.Value.int 0 0, PySem.Value.int 0 0, PySem.Value.int 3 0, PySem.Value.ref 29,
        PySem.Value.bool true, PySem.Value.int 181 0, PySem.Value.ref 30, PySem.Value.none, PySem.Value.ref 31, PySem.Value.ref 32, PySem.Value.ref 33, PySem.Value.int 209 0, PySem.Value.int 7 0, PySem.Value.str (PySem.Str.ofString "/claim/cut.py") 210] }
noncomputable def k35 (P : Params) : Obj :=
{ cls := PySem.Value.type "function",
  data :=
    PySem.Data.func
      { name := PySem.Str.ofString "mul", qualname := PySem.Str.ofString "mul", params := Mine.astP (Mine.topS 3), body := Mine.astB (Mine.topS 3), scope := Mine.astS (Mine.topS 3), globals := 3, closure := [], defaults := PySem.Value.none, kwdefaults := PySem.Value.none,
        pyModule := PySem.Value.str (PySem.Str.ofString "cpy313.operator") 194, code := PySem.Value.ref 34 } }
noncomputable def k36 (P : Params) : Obj :=
{ cls := PySem.Value.type "tuple", data := PySem.Data.seq #[] }
noncomputable def k38 (P : Params) : Obj :=
{ cls := PySem.Value.type "tuple", data := PySem.Data.seq #[PySem.Value.str (PySem.Str.ofString "a") 215] }
noncomputable def k39 (P : Params) : Obj :=
{ cls := PySem.Value.type "tuple", data := PySem.Data.seq #[] }
noncomputable def k41 (P : Params) : Obj :=
{ cls := PySem.Value.type "code",
  data :=
    PySem.Data.fields
      #[PySem.Value.str (PySem.Str.ofString "neg") 212, PySem.Value.str (PySem.Str.ofString "neg") 213, PySem.Value.str (PySem.Str.ofString "/claim/cut.py") 214, PySem.Value.int 9 0, PySem.Value.int 1 0, PySem.Value.int 0 0, PySem.Value.int 0 0, PySem.Value.int 3 0, PySem.Value.ref 36,
        PySem.Value.bool true, PySem.Value.int 181 0, PySem.Value.ref 37, PySem.Value.none, PySem.Value.ref 38, PySem.Value.ref 39, PySem.Value.ref 40, PySem.Value.int 216 0, PySem.Value.int 9 0, PySem.Value.str (PySem.Str.ofString "/claim/cut.py") 217] }
noncomputable def k42 (P : Params) : Obj :=
{ cls := PySem.Value.type "function",
  data :=
    PySem.Data.func
      { name := PySem.Str.ofString "neg", qualname := PySem.Str.ofString "neg", params := Mine.astP (Mine.topS 4), body := Mine.astB (Mine.topS 4), scope := Mine.astS (Mine.topS 4), globals := 3, closure := [], defaults := PySem.Value.none, kwdefaults := PySem.Value.none,
        pyModule := PySem.Value.str (PySem.Str.ofString "cpy313.operator") 194, code := PySem.Value.ref 41 } }
noncomputable def k43 (P : Params) : Obj :=
{ cls := PySem.Value.type "tuple", data := PySem.Data.seq #[PySem.Value.type "list"] }
noncomputable def k46 (P : Params) : Obj :=
{ cls := PySem.Value.type "cell", data := PySem.Data.cell (some (PySem.Value.ref 122)) }
noncomputable def k51 (P : Params) : Obj :=
{ cls := PySem.Value.type "tuple", data := PySem.Data.seq #[PySem.Value.int 0 235] }
noncomputable def k52 (P : Params) : Obj :=
{ cls := PySem.Value.type "tuple", data := PySem.Data.seq #[PySem.Value.ref 46] }
noncomputable def k53 (P : Params) : Obj :=
{ cls := PySem.Value.type "tuple", data := PySem.Data.seq #[PySem.Value.str (PySem.Str.ofString "__class__") 239] }
noncomputable def k55 (P : Params) : Obj :=
{ cls := PySem.Value.type "tuple", data := PySem.Data.seq #[PySem.Value.str (PySem.Str.ofString "self") 240, PySem.Value.str (PySem.Str.ofString "initial_size") 241] }
noncomputable def k56 (P : Params) : Obj :=
{ cls := PySem.Value.type "tuple", data := PySem.Data.seq #[] }
noncomputable def k58 (P : Params) : Obj :=
{ cls := PySem.Value.type "code",
  data :=
    PySem.Data.fields
      #[PySem.Value.str (PySem.Str.ofString "__init__") 236, PySem.Value.str (PySem.Str.ofString "_Accumulator.__init__") 237, PySem.Value.str (PySem.Str.ofString "/claim/cut.py") 238, PySem.Value.int 15 0, PySem.Value.int 2 0, PySem.Value.int 0 0, PySem.Value.int 0 0, PySem.Value.int 3 0,
        PySem.Value.ref 53, PySem.Value.bool true, PySem.Value.int 181 0, PySem.Value.ref 54, PySem.Value.none, PySem.Value.ref 55, PySem.Value.ref 56, PySem.Value.ref 57, PySem.Value.int 242 0, PySem.Value.int 15 0, PySem.Value.str (PySem.Str.ofString "/claim/cut.py") 243] }
noncomputable def k59 (P : Params) : Obj :=
{ cls := PySem.Value.type "function",
  data :=
    PySem.Data.func
      { name := PySem.Str.ofString "__init__", qualname := PySem.Str.ofString "_Accumulator.__init__", params := Mine.astP (Mine.inS 7 0), body := Mine.astB (Mine.inS 7 0), scope := Mine.astS (Mine.inS 7 0), globals := 3, closure := [(PySem.Str.ofString "__class__", 46)],
        defaults := PySem.Value.ref 51, kwdefaults := PySem.Value.none, pyModule := PySem.Value.str (PySem.Str.ofString "cpy313.email.header") 219, code := PySem.Value.ref 58, closureTuple := PySem.Value.ref 52 } }
noncomputable def k60 (P : Params) : Obj :=
{ cls := PySem.Value.type "tuple", data := PySem.Data.seq #[] }
noncomputable def k62 (P : Params) : Obj :=
{ cls := PySem.Value.type "tuple", data := PySem.Data.seq #[PySem.Value.str (PySem.Str.ofString "self") 248, PySem.Value.str (PySem.Str.ofString "fws") 249, PySem.Value.str (PySem.Str.ofString "string") 250] }
noncomputable def k63 (P : Params) : Obj :=
{ cls := PySem.Value.type "tuple", data := PySem.Data.seq #[] }
noncomputable def k65 (P : Params) : Obj :=
{ cls := PySem.Value.type "code",
  data :=
    PySem.Data.fields
      #[PySem.Value.str (PySem.Str.ofString "push") 245, PySem.Value.str (PySem.Str.ofString "_Accumulator.push") 246, PySem.Value.str (PySem.Str.ofString "/claim/cut.py") 247, PySem.Value.int 19 0, PySem.Value.int 3 0, PySem.Value.int 0 0, PySem.Value.int 0 0, PySem.Value.int 3 0,
        PySem.Value.ref 60, PySem.Value.bool true, PySem.Value.int 181 0, PySem.Value.ref 61, PySem.Value.none, PySem.Value.ref 62, PySem.Value.ref 63, PySem.Value.ref 64, PySem.Value.int 251 0, PySem.Value.int 19 0, PySem.Value.str (PySem.Str.ofString "/claim/cut.py") 252] }
noncomputable def k66 (P : Params) : Obj :=
{ cls := PySem.Value.type "function",
  data :=
    PySem.Data.func
      { name := PySem.Str.ofString "push", qualname := PySem.Str.ofString "_Accumulator.push", params := Mine.astP (Mine.inS 7 1), body := Mine.astB (Mine.inS 7 1), scope := Mine.astS (Mine.inS 7 1), globals := 3, closure := [], defaults := PySem.Value.none, kwdefaults := PySem.Value.none,
        pyModule := PySem.Value.str (PySem.Str.ofString "cpy313.email.header") 219, code := PySem.Value.ref 65 } }
noncomputable def k67 (P : Params) : Obj :=
{ cls := PySem.Value.type "tuple", data := PySem.Data.seq #[PySem.Value.int 0 254] }
noncomputable def k68 (P : Params) : Obj :=
{ cls := PySem.Value.type "tuple", data := PySem.Data.seq #[] }
noncomputable def k70 (P : Params) : Obj :=
{ cls := PySem.Value.type "tuple", data := PySem.Data.seq #[PySem.Value.str (PySem.Str.ofString "self") 258, PySem.Value.str (PySem.Str.ofString "i") 259] }
noncomputable def k71 (P : Params) : Obj :=
{ cls := PySem.Value.type "tuple", data := PySem.Data.seq #[] }
noncomputable def k73 (P : Params) : Obj :=
{ cls := PySem.Value.type "code",
  data :=
    PySem.Data.fields
      #[PySem.Value.str (PySem.Str.ofString "pop_from") 255, PySem.Value.str (PySem.Str.ofString "_Accumulator.pop_from") 256, PySem.Value.str (PySem.Str.ofString "/claim/cut.py") 257, PySem.Value.int 22 0, PySem.Value.int 2 0, PySem.Value.int 0 0, PySem.Value.int 0 0, PySem.Value.int 3 0,
        PySem.Value.ref 68, PySem.Value.bool true, PySem.Value.int 181 0, PySem.Value.ref 69, PySem.Value.none, PySem.Value.ref 70, PySem.Value.ref 71, PySem.Value.ref 72, PySem.Value.int 260 0, PySem.Value.int 22 0, PySem.Value.str (PySem.Str.ofString "/claim/cut.py") 261] }
noncomputable def k74 (P : Params) : Obj :=
{ cls := PySem.Value.type "function",
  data :=
    PySem.Data.func
      { name := PySem.Str.ofString "pop_from", qualname := PySem.Str.ofString "_Accumulator.pop_from", params := Mine.astP (Mine.inS 7 2), body := Mine.astB (Mine.inS 7 2), scope := Mine.astS (Mine.inS 7 2), globals := 3, closure := [], defaults := PySem.Value.ref 67, kwdefaults := PySem.Value.none,
        pyModule := PySem.Value.str (PySem.Str.ofString "cpy313.email.header") 219, code := PySem.Value.ref 73 } }
noncomputable def k75 (P : Params) : Obj :=
{ cls := PySem.Value.type "tuple", data := PySem.Data.seq #[PySem.Value.ref 46] }
noncomputable def k76 (P : Params) : Obj :=
{ cls := PySem.Value.type "tuple", data := PySem.Data.seq #[PySem.Value.str (PySem.Str.ofString "__class__") 266] }
noncomputable def k78 (P : Params) : Obj :=
{ cls := PySem.Value.type "tuple", data := PySem.Data.seq #[PySem.Value.str (PySem.Str.ofString "self") 267] }
noncomputable def k79 (P : Params) : Obj :=
{ cls := PySem.Value.type "tuple", data := PySem.Data.seq #[] }
noncomputable def k81 (P : Params) : Obj :=
{ cls := PySem.Value.type "code",
  data :=
    PySem.Data.fields
      #[PySem.Value.str (PySem.Str.ofString "pop") 263, PySem.Value.str (PySem.Str.ofString "_Accumulator.pop") 264, PySem.Value.str (PySem.Str.ofString "/claim/cut.py") 265, PySem.Value.int 25 0, PySem.Value.int 1 0, PySem.Value.int 0 0, PySem.Value.int 0 0, PySem.Value.int 3 0, PySem.Value.ref 76,
        PySem.Value.bool true, PySem.Value.int 181 0, PySem.Value.ref 77, PySem.Value.none, PySem.Value.ref 78, PySem.Value.ref 79, PySem.Value.ref 80, PySem.Value.int 268 0, PySem.Value.int 25 0, PySem.Value.str (PySem.Str.ofString "/claim/cut.py") 269] }
noncomputable def k82 (P : Params) : Obj :=
{ cls := PySem.Value.type "function",
  data :=
    PySem.Data.func
      { name := PySem.Str.ofString "pop", qualname := PySem.Str.ofString "_Accumulator.pop", params := Mine.astP (Mine.inS 7 3), body := Mine.astB (Mine.inS 7 3), scope := Mine.astS (Mine.inS 7 3), globals := 3, closure := [(PySem.Str.ofString "__class__", 46)], defaults := PySem.Value.none,
        kwdefaults := PySem.Value.none, pyModule := PySem.Value.str (PySem.Str.ofString "cpy313.email.header") 219, code := PySem.Value.ref 81, closureTuple := PySem.Value.ref 75 } }
noncomputable def k83 (P : Params) : Obj :=
{ cls := PySem.Value.type "tuple", data := PySem.Data.seq #[] }
noncomputable def k85 (P : Params) : Obj :=
{ cls := PySem.Value.type "tuple", data := PySem.Data.seq #[PySem.Value.str (PySem.Str.ofString "self") 274] }
noncomputable def k86 (P : Params) : Obj :=
{ cls := PySem.Value.type "tuple", data := PySem.Data.seq #[] }
noncomputable def k88 (P : Params) : Obj :=
{ cls := PySem.Value.type "code",
  data :=
    PySem.Data.fields
      #[PySem.Value.str (PySem.Str.ofString "__len__") 271, PySem.Value.str (PySem.Str.ofString "_Accumulator.__len__") 272, PySem.Value.str (PySem.Str.ofString "/claim/cut.py") 273, PySem.Value.int 30 0, PySem.Value.int 1 0, PySem.Value.int 0 0, PySem.Value.int 0 0, PySem.Value.int 3 0,
        PySem.Value.ref 83, PySem.Value.bool true, PySem.Value.int 181 0, PySem.Value.ref 84, PySem.Value.none, PySem.Value.ref 85, PySem.Value.ref 86, PySem.Value.ref 87, PySem.Value.int 275 0, PySem.Value.int 30 0, PySem.Value.str (PySem.Str.ofString "/claim/cut.py") 276] }
noncomputable def k89 (P : Params) : Obj :=
{ cls := PySem.Value.type "function",
  data :=
    PySem.Data.func
      { name := PySem.Str.ofString "__len__", qualname := PySem.Str.ofString "_Accumulator.__len__", params := Mine.astP (Mine.inS 7 4), body := Mine.astB (Mine.inS 7 4), scope := Mine.astS (Mine.inS 7 4), globals := 3, closure := [], defaults := PySem.Value.none, kwdefaults := PySem.Value.none,
        pyModule := PySem.Value.str (PySem.Str.ofString "cpy313.email.header") 219, code := PySem.Value.ref 88 } }
noncomputable def k90 (P : Params) : Obj :=
{ cls := PySem.Value.type "tuple", data := PySem.Data.seq #[] }
noncomputable def k92 (P : Params) : Obj :=
{ cls := PySem.Value.type "tuple", data := PySem.Data.seq #[PySem.Value.str (PySem.Str.ofString "self") 281] }
noncomputable def k93 (P : Params) : Obj :=
{ cls := PySem.Value.type "tuple", data := PySem.Data.seq #[] }
noncomputable def k95 (P : Params) : Obj :=
{ cls := PySem.Value.type "code",
  data :=
    PySem.Data.fields
      #[PySem.Value.str (PySem.Str.ofString "__str__") 278, PySem.Value.str (PySem.Str.ofString "_Accumulator.__str__") 279, PySem.Value.str (PySem.Str.ofString "/claim/cut.py") 280, PySem.Value.int 33 0, PySem.Value.int 1 0, PySem.Value.int 0 0, PySem.Value.int 0 0, PySem.Value.int 3 0,
        PySem.Value.ref 90, PySem.Value.bool true, PySem.Value.int 181 0, PySem.Value.ref 91, PySem.Value.none, PySem.Value.ref 92, PySem.Value.ref 93, PySem.Value.ref 94, PySem.Value.int 282 0, PySem.Value.int 33 0, PySem.Value.str (PySem.Str.ofString "/claim/cut.py") 283] }
noncomputable def k96 (P : Params) : Obj :=
{ cls := PySem.Value.type "function",
  data :=
    PySem.Data.func
      { name := PySem.Str.ofString "__str__", qualname := PySem.Str.ofString "_Accumulator.__str__", params := Mine.astP (Mine.inS 7 5), body := Mine.astB (Mine.inS 7 5), scope := Mine.astS (Mine.inS 7 5), globals := 3, closure := [], defaults := PySem.Value.none, kwdefaults := PySem.Value.none,
        pyModule := PySem.Value.str (PySem.Str.ofString "cpy313.email.header") 219, code := PySem.Value.ref 95 } }
noncomputable def k97 (P : Params) : Obj :=
{ cls := PySem.Value.type "tuple", data := PySem.Data.seq #[PySem.Value.none] }
noncomputable def k98 (P : Params) : Obj :=
{ cls := PySem.Value.type "tuple", data := PySem.Data.seq #[] }
noncomputable def k100 (P : Params) : Obj :=
{ cls := PySem.Value.type "tuple", data := PySem.Data.seq #[PySem.Value.str (PySem.Str.ofString "self") 288, PySem.Value.str (PySem.Str.ofString "startval") 289] }
noncomputable def k101 (P : Params) : Obj :=
{ cls := PySem.Value.type "tuple", data := PySem.Data.seq #[] }
noncomputable def k103 (P : Params) : Obj :=
{ cls := PySem.Value.type "code",
  data :=
    PySem.Data.fields
      #[PySem.Value.str (PySem.Str.ofString "reset") 285, PySem.Value.str (PySem.Str.ofString "_Accumulator.reset") 286, PySem.Value.str (PySem.Str.ofString "/claim/cut.py") 287, PySem.Value.int 36 0, PySem.Value.int 2 0, PySem.Value.int 0 0, PySem.Value.int 0 0, PySem.Value.int 3 0,
        PySem.Value.ref 98, PySem.Value.bool true, PySem.Value.int 181 0, PySem.Value.ref 99, PySem.Value.none, PySem.Value.ref 100, PySem.Value.ref 101, PySem.Value.ref 102, PySem.Value.int 290 0, PySem.Value.int 36 0, PySem.Value.str (PySem.Str.ofString "/claim/cut.py") 291] }
noncomputable def k104 (P : Params) : Obj :=
{ cls := PySem.Value.type "function",
  data :=
    PySem.Data.func
      { name := PySem.Str.ofString "reset", qualname := PySem.Str.ofString "_Accumulator.reset", params := Mine.astP (Mine.inS 7 6), body := Mine.astB (Mine.inS 7 6), scope := Mine.astS (Mine.inS 7 6), globals := 3, closure := [], defaults := PySem.Value.ref 97, kwdefaults := PySem.Value.none,
        pyModule := PySem.Value.str (PySem.Str.ofString "cpy313.email.header") 219, code := PySem.Value.ref 103 } }
noncomputable def k105 (P : Params) : Obj :=
{ cls := PySem.Value.type "tuple", data := PySem.Data.seq #[] }
noncomputable def k107 (P : Params) : Obj :=
{ cls := PySem.Value.type "tuple", data := PySem.Data.seq #[PySem.Value.str (PySem.Str.ofString "self") 296] }
noncomputable def k108 (P : Params) : Obj :=
{ cls := PySem.Value.type "tuple", data := PySem.Data.seq #[] }
noncomputable def k110 (P : Params) : Obj :=
{ cls := PySem.Value.type "code",
  data :=
    PySem.Data.fields
      #[PySem.Value.str (PySem.Str.ofString "is_onlyws") 293, PySem.Value.str (PySem.Str.ofString "_Accumulator.is_onlyws") 294, PySem.Value.str (PySem.Str.ofString "/claim/cut.py") 295, PySem.Value.int 39 0, PySem.Value.int 1 0, PySem.Value.int 0 0, PySem.Value.int 0 0, PySem.Value.int 3 0,
        PySem.Value.ref 105, PySem.Value.bool true, PySem.Value.int 181 0, PySem.Value.ref 106, PySem.Value.none, PySem.Value.ref 107, PySem.Value.ref 108, PySem.Value.ref 109, PySem.Value.int 297 0, PySem.Value.int 39 0, PySem.Value.str (PySem.Str.ofString "/claim/cut.py") 298] }
noncomputable def k111 (P : Params) : Obj :=
{ cls := PySem.Value.type "function",
  data :=
    PySem.Data.func
      { name := PySem.Str.ofString "is_onlyws", qualname := PySem.Str.ofString "_Accumulator.is_onlyws", params := Mine.astP (Mine.inS 7 7), body := Mine.astB (Mine.inS 7 7), scope := Mine.astS (Mine.inS 7 7), globals := 3, closure := [], defaults := PySem.Value.none, kwdefaults := PySem.Value.none,
        pyModule := PySem.Value.str (PySem.Str.ofString "cpy313.email.header") 219, code := PySem.Value.ref 110 } }
noncomputable def k112 (P : Params) : Obj :=
{ cls := PySem.Value.type "tuple", data := PySem.Data.seq #[PySem.Value.ref 46] }
noncomputable def k113 (P : Params) : Obj :=
{ cls := PySem.Value.type "tuple", data := PySem.Data.seq #[PySem.Value.str (PySem.Str.ofString "__class__") 303] }
noncomputable def k115 (P : Params) : Obj :=
{ cls := PySem.Value.type "tuple", data := PySem.Data.seq #[PySem.Value.str (PySem.Str.ofString "self") 304] }
noncomputable def k116 (P : Params) : Obj :=
{ cls := PySem.Value.type "tuple", data := PySem.Data.seq #[] }
noncomputable def k118 (P : Params) : Obj :=
{ cls := PySem.Value.type "code",
  data :=
    PySem.Data.fields
      #[PySem.Value.str (PySem.Str.ofString "part_count") 300, PySem.Value.str (PySem.Str.ofString "_Accumulator.part_count") 301, PySem.Value.str (PySem.Str.ofString "/claim/cut.py") 302, PySem.Value.int 42 0, PySem.Value.int 1 0, PySem.Value.int 0 0, PySem.Value.int 0 0, PySem.Value.int 3 0,
        PySem.Value.ref 113, PySem.Value.bool true, PySem.Value.int 181 0, PySem.Value.ref 114, PySem.Value.none, PySem.Value.ref 115, PySem.Value.ref 116, PySem.Value.ref 117, PySem.Value.int 305 0, PySem.Value.int 42 0, PySem.Value.str (PySem.Str.ofString "/claim/cut.py") 306] }
noncomputable def k119 (P : Params) : Obj :=
{ cls := PySem.Value.type "function",
  data :=
    PySem.Data.func
      { name := PySem.Str.ofString "part_count", qualname := PySem.Str.ofString "_Accumulator.part_count", params := Mine.astP (Mine.inS 7 8), body := Mine.astB (Mine.inS 7 8), scope := Mine.astS (Mine.inS 7 8), globals := 3, closure := [(PySem.Str.ofString "__class__", 46)],
        defaults := PySem.Value.none, kwdefaults := PySem.Value.none, pyModule := PySem.Value.str (PySem.Str.ofString "cpy313.email.header") 219, code := PySem.Value.ref 118, closureTuple := PySem.Value.ref 112 } }
noncomputable def k120 (P : Params) : Obj :=
{ cls := PySem.Value.type "tuple", data := PySem.Data.seq #[PySem.Value.str (PySem.Str.ofString "_initial_size") 308] }
noncomputable def k121 (P : Params) : Obj :=
{ cls := PySem.Value.type "dict",
  data :=
    PySem.Data.dict
      #[{ hash := PySem.PyData.keyHash P (PySem.Str.ofString "__module__"), key := PySem.Value.str (PySem.Str.ofString "__module__") 230, val := PySem.Value.str (PySem.Str.ofString "cpy313.email.header") 219 },
        { hash := PySem.PyData.keyHash P (PySem.Str.ofString "__firstlineno__"), key := PySem.Value.str (PySem.Str.ofString "__firstlineno__") 234, val := PySem.Value.int 13 233 },
        { hash := PySem.PyData.keyHash P (PySem.Str.ofString "__init__"), key := PySem.Value.str (PySem.Str.ofString "__init__") 244, val := PySem.Value.ref 59 },
        { hash := PySem.PyData.keyHash P (PySem.Str.ofString "push"), key := PySem.Value.str (PySem.Str.ofString "push") 253, val := PySem.Value.ref 66 },
        { hash := PySem.PyData.keyHash P (PySem.Str.ofString "pop_from"), key := PySem.Value.str (PySem.Str.ofString "pop_from") 262, val := PySem.Value.ref 74 },
        { hash := PySem.PyData.keyHash P (PySem.Str.ofString "pop"), key := PySem.Value.str (PySem.Str.ofString "pop") 270, val := PySem.Value.ref 82 },
        { hash := PySem.PyData.keyHash P (PySem.Str.ofString "__len__"), key := PySem.Value.str (PySem.Str.ofString "__len__") 277, val := PySem.Value.ref 89 },
        { hash := PySem.PyData.keyHash P (PySem.Str.ofString "__str__"), key := PySem.Value.str (PySem.Str.ofString "__str__") 284, val := PySem.Value.ref 96 },
        { hash := PySem.PyData.keyHash P (PySem.Str.ofString "reset"), key := PySem.Value.str (PySem.Str.ofString "reset") 292, val := PySem.Value.ref 104 },
        { hash := PySem.PyData.keyHash P (PySem.Str.ofString "is_onlyws"), key := PySem.Value.str (PySem.Str.ofString "is_onlyws") 299, val := PySem.Value.ref 111 },
        { hash := PySem.PyData.keyHash P (PySem.Str.ofString "part_count"), key := PySem.Value.str (PySem.Str.ofString "part_count") 307, val := PySem.Value.ref 119 },
        { hash := PySem.PyData.keyHash P (PySem.Str.ofString "__static_attributes__"), key := PySem.Value.str (PySem.Str.ofString "__static_attributes__") 309, val := PySem.Value.ref 120 },
        { hash := PySem.PyData.keyHash P (PySem.Str.ofString "__dict__"), key := PySem.Value.str (PySem.Str.ofString "__dict__") 312, val := PySem.Value.ref 123 },
        { hash := PySem.PyData.keyHash P (PySem.Str.ofString "__weakref__"), key := PySem.Value.str (PySem.Str.ofString "__weakref__") 314, val := PySem.Value.ref 124 },
        { hash := PySem.PyData.keyHash P (PySem.Str.ofString "__doc__"), key := PySem.Value.str (PySem.Str.ofString "__doc__") 315, val := PySem.Value.none }]
      5 }
noncomputable def k122 (P : Params) : Obj :=
{ cls := PySem.Value.type "type", data := PySem.Data.cls { name := PySem.Str.ofString "_Accumulator", bases := [PySem.Value.type "list"], mro := [PySem.Value.ref 122, PySem.Value.type "list", PySem.Value.type "object"], ns := 121, qualname := PySem.Str.ofString "_Accumulator" },
  slots := #[some (PySem.Value.ref 43), none, some (PySem.Value.str (PySem.Str.ofString "_Accumulator") 223), some (PySem.Value.str (PySem.Str.ofString "_Accumulator") 231), some (PySem.Value.builtin "list.__new__"), some (PySem.Value.bool true)] }
noncomputable def k123 (P : Params) : Obj :=
{ cls := PySem.Value.type "getset_descriptor", data := PySem.Data.fields #[PySem.Value.str (PySem.Str.ofString "__dict__") 311, PySem.Value.ref 122, PySem.Value.builtin "function.__dict__", PySem.Value.builtin "function.__dict__#set"] }
noncomputable def k124 (P : Params) : Obj :=
{ cls := PySem.Value.type "getset_descriptor", data := PySem.Data.fields #[PySem.Value.str (PySem.Str.ofString "__weakref__") 313, PySem.Value.ref 122, PySem.Value.builtin "ExceptionGroup.__weakref__", PySem.Value.none] }
noncomputable def k134 (P : Params) : Obj :=
{ cls := PySem.Value.type "tuple", data := PySem.Data.seq #[] }
noncomputable def k136 (P : Params) : Obj :=
{ cls := PySem.Value.type "tuple", data := PySem.Data.seq #[PySem.Value.str (PySem.Str.ofString "self") 335, PySem.Value.str (PySem.Str.ofString "fp") 336] }
noncomputable def k137 (P : Params) : Obj :=
{ cls := PySem.Value.type "tuple", data := PySem.Data.seq #[] }
noncomputable def k139 (P : Params) : Obj :=
{ cls := PySem.Value.type "code",
  data :=
    PySem.Data.fields
      #[PySem.Value.str (PySem.Str.ofString "__init__") 332, PySem.Value.str (PySem.Str.ofString "_netrclex.__init__") 333, PySem.Value.str (PySem.Str.ofString "/claim/cut.py") 334, PySem.Value.int 47 0, PySem.Value.int 2 0, PySem.Value.int 0 0, PySem.Value.int 0 0, PySem.Value.int 3 0,
        PySem.Value.ref 134, PySem.Value.bool true, PySem.Value.int 181 0, PySem.Value.ref 135, PySem.Value.none, PySem.Value.ref 136, PySem.Value.ref 137, PySem.Value.ref 138, PySem.Value.int 337 0, PySem.Value.int 47 0, PySem.Value.str (PySem.Str.ofString "/claim/cut.py") 338] }
noncomputable def k140 (P : Params) : Obj :=
{ cls := PySem.Value.type "function",
  data :=
    PySem.Data.func
      { name := PySem.Str.ofString "__init__", qualname := PySem.Str.ofString "_netrclex.__init__", params := Mine.astP (Mine.inS 9 0), body := Mine.astB (Mine.inS 9 0), scope := Mine.astS (Mine.inS 9 0), globals := 3, closure := [], defaults := PySem.Value.none, kwdefaults := PySem.Value.none,
        pyModule := PySem.Value.str (PySem.Str.ofString "cpy313.netrc") 318, code := PySem.Value.ref 139 } }
noncomputable def k141 (P : Params) : Obj :=
{ cls := PySem.Value.type "tuple", data := PySem.Data.seq #[] }
noncomputable def k143 (P : Params) : Obj :=
{ cls := PySem.Value.type "tuple", data := PySem.Data.seq #[PySem.Value.str (PySem.Str.ofString "self") 343, PySem.Value.str (PySem.Str.ofString "ch") 344] }
noncomputable def k144 (P : Params) : Obj :=
{ cls := PySem.Value.type "tuple", data := PySem.Data.seq #[] }
noncomputable def k146 (P : Params) : Obj :=
{ cls := PySem.Value.type "code",
  data :=
    PySem.Data.fields
      #[PySem.Value.str (PySem.Str.ofString "_read_char") 340, PySem.Value.str (PySem.Str.ofString "_netrclex._read_char") 341, PySem.Value.str (PySem.Str.ofString "/claim/cut.py") 342, PySem.Value.int 53 0, PySem.Value.int 1 0, PySem.Value.int 0 0, PySem.Value.int 0 0, PySem.Value.int 3 0,
        PySem.Value.ref 141, PySem.Value.bool true, PySem.Value.int 181 0, PySem.Value.ref 142, PySem.Value.none, PySem.Value.ref 143, PySem.Value.ref 144, PySem.Value.ref 145, PySem.Value.int 345 0, PySem.Value.int 53 0, PySem.Value.str (PySem.Str.ofString "/claim/cut.py") 346] }
noncomputable def k147 (P : Params) : Obj :=
{ cls := PySem.Value.type "function",
  data :=
    PySem.Data.func
      { name := PySem.Str.ofString "_read_char", qualname := PySem.Str.ofString "_netrclex._read_char", params := Mine.astP (Mine.inS 9 1), body := Mine.astB (Mine.inS 9 1), scope := Mine.astS (Mine.inS 9 1), globals := 3, closure := [], defaults := PySem.Value.none, kwdefaults := PySem.Value.none,
        pyModule := PySem.Value.str (PySem.Str.ofString "cpy313.netrc") 318, code := PySem.Value.ref 146 } }
noncomputable def k148 (P : Params) : Obj :=
{ cls := PySem.Value.type "tuple", data := PySem.Data.seq #[] }
noncomputable def k150 (P : Params) : Obj :=
{ cls := PySem.Value.type "tuple", data := PySem.Data.seq #[PySem.Value.str (PySem.Str.ofString "self") 351, PySem.Value.str (PySem.Str.ofString "token") 352, PySem.Value.str (PySem.Str.ofString "fiter") 353, PySem.Value.str (PySem.Str.ofString "ch") 354] }
noncomputable def k151 (P : Params) : Obj :=
{ cls := PySem.Value.type "tuple", data := PySem.Data.seq #[] }
noncomputable def k153 (P : Params) : Obj :=
{ cls := PySem.Value.type "code",
  data :=
    PySem.Data.fields
      #[PySem.Value.str (PySem.Str.ofString "get_token") 348, PySem.Value.str (PySem.Str.ofString "_netrclex.get_token") 349, PySem.Value.str (PySem.Str.ofString "/claim/cut.py") 350, PySem.Value.int 59 0, PySem.Value.int 1 0, PySem.Value.int 0 0, PySem.Value.int 0 0, PySem.Value.int 3 0,
        PySem.Value.ref 148, PySem.Value.bool true, PySem.Value.int 181 0, PySem.Value.ref 149, PySem.Value.none, PySem.Value.ref 150, PySem.Value.ref 151, PySem.Value.ref 152, PySem.Value.int 355 0, PySem.Value.int 59 0, PySem.Value.str (PySem.Str.ofString "/claim/cut.py") 356] }
noncomputable def k154 (P : Params) : Obj :=
{ cls := PySem.Value.type "function",
  data :=
    PySem.Data.func
      { name := PySem.Str.ofString "get_token", qualname := PySem.Str.ofString "_netrclex.get_token", params := Mine.astP (Mine.inS 9 2), body := Mine.astB (Mine.inS 9 2), scope := Mine.astS (Mine.inS 9 2), globals := 3, closure := [], defaults := PySem.Value.none, kwdefaults := PySem.Value.none,
        pyModule := PySem.Value.str (PySem.Str.ofString "cpy313.netrc") 318, code := PySem.Value.ref 153 } }
noncomputable def k155 (P : Params) : Obj :=
{ cls := PySem.Value.type "tuple", data := PySem.Data.seq #[] }
noncomputable def k157 (P : Params) : Obj :=
{ cls := PySem.Value.type "tuple", data := PySem.Data.seq #[PySem.Value.str (PySem.Str.ofString "self") 361, PySem.Value.str (PySem.Str.ofString "token") 362] }
noncomputable def k158 (P : Params) : Obj :=
{ cls := PySem.Value.type "tuple", data := PySem.Data.seq #[] }
noncomputable def k160 (P : Params) : Obj :=
{ cls := PySem.Value.type "code",
  data :=
    PySem.Data.fields
      #[PySem.Value.str (PySem.Str.ofString "push_token") 358, PySem.Value.str (PySem.Str.ofString "_netrclex.push_token") 359, PySem.Value.str (PySem.Str.ofString "/claim/cut.py") 360, PySem.Value.int 86 0, PySem.Value.int 2 0, PySem.Value.int 0 0, PySem.Value.int 0 0, PySem.Value.int 3 0,
        PySem.Value.ref 155, PySem.Value.bool true, PySem.Value.int 181 0, PySem.Value.ref 156, PySem.Value.none, PySem.Value.ref 157, PySem.Value.ref 158, PySem.Value.ref 159, PySem.Value.int 363 0, PySem.Value.int 86 0, PySem.Value.str (PySem.Str.ofString "/claim/cut.py") 364] }
noncomputable def k161 (P : Params) : Obj :=
{ cls := PySem.Value.type "function",
  data :=
    PySem.Data.func
      { name := PySem.Str.ofString "push_token", qualname := PySem.Str.ofString "_netrclex.push_token", params := Mine.astP (Mine.inS 9 3), body := Mine.astB (Mine.inS 9 3), scope := Mine.astS (Mine.inS 9 3), globals := 3, closure := [], defaults := PySem.Value.none, kwdefaults := PySem.Value.none,
        pyModule := PySem.Value.str (PySem.Str.ofString "cpy313.netrc") 318, code := PySem.Value.ref 160 } }
noncomputable def k162 (P : Params) : Obj :=
{ cls := PySem.Value.type "tuple", data := PySem.Data.seq #[PySem.Value.str (PySem.Str.ofString "instream") 366, PySem.Value.str (PySem.Str.ofString "lineno") 367, PySem.Value.str (PySem.Str.ofString "pushback") 368, PySem.Value.str (PySem.Str.ofString "whitespace") 369] }
noncomputable def k163 (P : Params) : Obj :=
{ cls := PySem.Value.type "dict",
  data :=
    PySem.Data.dict
      #[{ hash := PySem.PyData.keyHash P (PySem.Str.ofString "__module__"), key := PySem.Value.str (PySem.Str.ofString "__module__") 327, val := PySem.Value.str (PySem.Str.ofString "cpy313.netrc") 318 },
        { hash := PySem.PyData.keyHash P (PySem.Str.ofString "__firstlineno__"), key := PySem.Value.str (PySem.Str.ofString "__firstlineno__") 331, val := PySem.Value.int 45 330 },
        { hash := PySem.PyData.keyHash P (PySem.Str.ofString "__init__"), key := PySem.Value.str (PySem.Str.ofString "__init__") 339, val := PySem.Value.ref 140 },
        { hash := PySem.PyData.keyHash P (PySem.Str.ofString "_read_char"), key := PySem.Value.str (PySem.Str.ofString "_read_char") 347, val := PySem.Value.ref 147 },
        { hash := PySem.PyData.keyHash P (PySem.Str.ofString "get_token"), key := PySem.Value.str (PySem.Str.ofString "get_token") 357, val := PySem.Value.ref 154 },
        { hash := PySem.PyData.keyHash P (PySem.Str.ofString "push_token"), key := PySem.Value.str (PySem.Str.ofString "push_token") 365, val := PySem.Value.ref 161 },
        { hash := PySem.PyData.keyHash P (PySem.Str.ofString "__static_attributes__"), key := PySem.Value.str (PySem.Str.ofString "__static_attributes__") 370, val := PySem.Value.ref 162 },
        { hash := PySem.PyData.keyHash P (PySem.Str.ofString "__dict__"), key := PySem.Value.str (PySem.Str.ofString "__dict__") 372, val := PySem.Value.ref 165 },
        { hash := PySem.PyData.keyHash P (PySem.Str.ofString "__weakref__"), key := PySem.Value.str (PySem.Str.ofString "__weakref__") 374, val := PySem.Value.ref 166 },
        { hash := PySem.PyData.keyHash P (PySem.Str.ofString "__doc__"), key := PySem.Value.str (PySem.Str.ofString "__doc__") 375, val := PySem.Value.none }]
      4 }
noncomputable def k164 (P : Params) : Obj :=
{ cls := PySem.Value.type "type", data := PySem.Data.cls { name := PySem.Str.ofString "_netrclex", bases := [PySem.Value.type "object"], mro := [PySem.Value.ref 164, PySem.Value.type "object"], ns := 163, qualname := PySem.Str.ofString "_netrclex" },
  slots := #[none, none, some (PySem.Value.str (PySem.Str.ofString "_netrclex") 320), some (PySem.Value.str (PySem.Str.ofString "_netrclex") 328), some (PySem.Value.builtin "object.__new__"), some (PySem.Value.bool true)] }
noncomputable def k165 (P : Params) : Obj :=
{ cls := PySem.Value.type "getset_descriptor", data := PySem.Data.fields #[PySem.Value.str (PySem.Str.ofString "__dict__") 371, PySem.Value.ref 164, PySem.Value.builtin "function.__dict__", PySem.Value.builtin "function.__dict__#set"] }
noncomputable def k166 (P : Params) : Obj :=
{ cls := PySem.Value.type "getset_descriptor", data := PySem.Data.fields #[PySem.Value.str (PySem.Str.ofString "__weakref__") 373, PySem.Value.ref 164, PySem.Value.builtin "ExceptionGroup.__weakref__", PySem.Value.none] }
noncomputable def k176 (P : Params) : Obj :=
{ cls := PySem.Value.type "tuple", data := PySem.Data.seq #[] }
noncomputable def k178 (P : Params) : Obj :=
{ cls := PySem.Value.type "tuple", data := PySem.Data.seq #[PySem.Value.str (PySem.Str.ofString "self") 395, PySem.Value.str (PySem.Str.ofString "comp_select_list") 396] }
noncomputable def k179 (P : Params) : Obj :=
{ cls := PySem.Value.type "tuple", data := PySem.Data.seq #[] }
noncomputable def k181 (P : Params) : Obj :=
{ cls := PySem.Value.type "code",
  data :=
    PySem.Data.fields
      #[PySem.Value.str (PySem.Str.ofString "__init__") 392, PySem.Value.str (PySem.Str.ofString "TupleComp.__init__") 393, PySem.Value.str (PySem.Str.ofString "/claim/cut.py") 394, PySem.Value.int 91 0, PySem.Value.int 2 0, PySem.Value.int 0 0, PySem.Value.int 0 0, PySem.Value.int 3 0,
        PySem.Value.ref 176, PySem.Value.bool true, PySem.Value.int 181 0, PySem.Value.ref 177, PySem.Value.none, PySem.Value.ref 178, PySem.Value.ref 179, PySem.Value.ref 180, PySem.Value.int 397 0, PySem.Value.int 91 0, PySem.Value.str (PySem.Str.ofString "/claim/cut.py") 398] }
noncomputable def k182 (P : Params) : Obj :=
{ cls := PySem.Value.type "function",
  data :=
    PySem.Data.func
      { name := PySem.Str.ofString "__init__", qualname := PySem.Str.ofString "TupleComp.__init__", params := Mine.astP (Mine.inS 11 0), body := Mine.astB (Mine.inS 11 0), scope := Mine.astS (Mine.inS 11 0), globals := 3, closure := [], defaults := PySem.Value.none, kwdefaults := PySem.Value.none,
        pyModule := PySem.Value.str (PySem.Str.ofString "cpy313.pstats") 378, code := PySem.Value.ref 181 } }
noncomputable def k183 (P : Params) : Obj :=
{ cls := PySem.Value.type "tuple", data := PySem.Data.seq #[] }
noncomputable def k185 (P : Params) : Obj :=
{ cls := PySem.Value.type "tuple",
  data :=
    PySem.Data.seq
      #[PySem.Value.str (PySem.Str.ofString "self") 403, PySem.Value.str (PySem.Str.ofString "left") 404, PySem.Value.str (PySem.Str.ofString "right") 405, PySem.Value.str (PySem.Str.ofString "index") 406, PySem.Value.str (PySem.Str.ofString "direction") 407,
        PySem.Value.str (PySem.Str.ofString "l") 408, PySem.Value.str (PySem.Str.ofString "r") 409] }
noncomputable def k186 (P : Params) : Obj :=
{ cls := PySem.Value.type "tuple", data := PySem.Data.seq #[] }
noncomputable def k188 (P : Params) : Obj :=
{ cls := PySem.Value.type "code",
  data :=
    PySem.Data.fields
      #[PySem.Value.str (PySem.Str.ofString "compare") 400, PySem.Value.str (PySem.Str.ofString "TupleComp.compare") 401, PySem.Value.str (PySem.Str.ofString "/claim/cut.py") 402, PySem.Value.int 94 0, PySem.Value.int 3 0, PySem.Value.int 0 0, PySem.Value.int 0 0, PySem.Value.int 3 0,
        PySem.Value.ref 183, PySem.Value.bool true, PySem.Value.int 181 0, PySem.Value.ref 184, PySem.Value.none, PySem.Value.ref 185, PySem.Value.ref 186, PySem.Value.ref 187, PySem.Value.int 410 0, PySem.Value.int 94 0, PySem.Value.str (PySem.Str.ofString "/claim/cut.py") 411] }
noncomputable def k189 (P : Params) : Obj :=
{ cls := PySem.Value.type "function",
  data :=
    PySem.Data.func
      { name := PySem.Str.ofString "compare", qualname := PySem.Str.ofString "TupleComp.compare", params := Mine.astP (Mine.inS 11 1), body := Mine.astB (Mine.inS 11 1), scope := Mine.astS (Mine.inS 11 1), globals := 3, closure := [], defaults := PySem.Value.none, kwdefaults := PySem.Value.none,
        pyModule := PySem.Value.str (PySem.Str.ofString "cpy313.pstats") 378, code := PySem.Value.ref 188 } }
noncomputable def k190 (P : Params) : Obj :=
{ cls := PySem.Value.type "tuple", data := PySem.Data.seq #[PySem.Value.str (PySem.Str.ofString "comp_select_list") 413] }
noncomputable def k191 (P : Params) : Obj :=
{ cls := PySem.Value.type "dict",
  data :=
    PySem.Data.dict
      #[{ hash := PySem.PyData.keyHash P (PySem.Str.ofString "__module__"), key := PySem.Value.str (PySem.Str.ofString "__module__") 387, val := PySem.Value.str (PySem.Str.ofString "cpy313.pstats") 378 },
        { hash := PySem.PyData.keyHash P (PySem.Str.ofString "__firstlineno__"), key := PySem.Value.str (PySem.Str.ofString "__firstlineno__") 391, val := PySem.Value.int 89 390 },
        { hash := PySem.PyData.keyHash P (PySem.Str.ofString "__init__"), key := PySem.Value.str (PySem.Str.ofString "__init__") 399, val := PySem.Value.ref 182 },
        { hash := PySem.PyData.keyHash P (PySem.Str.ofString "compare"), key := PySem.Value.str (PySem.Str.ofString "compare") 412, val := PySem.Value.ref 189 },
        { hash := PySem.PyData.keyHash P (PySem.Str.ofString "__static_attributes__"), key := PySem.Value.str (PySem.Str.ofString "__static_attributes__") 414, val := PySem.Value.ref 190 },
        { hash := PySem.PyData.keyHash P (PySem.Str.ofString "__dict__"), key := PySem.Value.str (PySem.Str.ofString "__dict__") 416, val := PySem.Value.ref 193 },
        { hash := PySem.PyData.keyHash P (PySem.Str.ofString "__weakref__"), key := PySem.Value.str (PySem.Str.ofString "__weakref__") 418, val := PySem.Value.ref 194 },
        { hash := PySem.PyData.keyHash P (PySem.Str.ofString "__doc__"), key := PySem.Value.str (PySem.Str.ofString "__doc__") 419, val := PySem.Value.none }]
      4 }
noncomputable def k192 (P : Params) : Obj :=
{ cls := PySem.Value.type "type", data := PySem.Data.cls { name := PySem.Str.ofString "TupleComp", bases := [PySem.Value.type "object"], mro := [PySem.Value.ref 192, PySem.Value.type "object"], ns := 191, qualname := PySem.Str.ofString "TupleComp" },
  slots := #[none, none, some (PySem.Value.str (PySem.Str.ofString "TupleComp") 380), some (PySem.Value.str (PySem.Str.ofString "TupleComp") 388), some (PySem.Value.builtin "object.__new__"), some (PySem.Value.bool true)] }
noncomputable def k193 (P : Params) : Obj :=
{ cls := PySem.Value.type "getset_descriptor", data := PySem.Data.fields #[PySem.Value.str (PySem.Str.ofString "__dict__") 415, PySem.Value.ref 192, PySem.Value.builtin "function.__dict__", PySem.Value.builtin "function.__dict__#set"] }
noncomputable def k194 (P : Params) : Obj :=
{ cls := PySem.Value.type "getset_descriptor", data := PySem.Data.fields #[PySem.Value.str (PySem.Str.ofString "__weakref__") 417, PySem.Value.ref 192, PySem.Value.builtin "ExceptionGroup.__weakref__", PySem.Value.none] }
noncomputable def k197 (P : Params) : Obj :=
{ cls := PySem.Value.type "tuple", data := PySem.Data.seq #[] }
noncomputable def k199 (P : Params) : Obj :=
{ cls := PySem.Value.type "tuple",
  data := PySem.Data.seq #[PySem.Value.str (PySem.Str.ofString "target") 425, PySem.Value.str (PySem.Str.ofString "source") 426, PySem.Value.str (PySem.Str.ofString "new_callers") 427, PySem.Value.str (PySem.Str.ofString "func") 428, PySem.Value.str (PySem.Str.ofString "caller") 429] }
noncomputable def k200 (P : Params) : Obj :=
{ cls := PySem.Value.type "tuple", data := PySem.Data.seq #[] }
noncomputable def k202 (P : Params) : Obj :=
{ cls := PySem.Value.type "code",
  data :=
    PySem.Data.fields
      #[PySem.Value.str (PySem.Str.ofString "add_callers") 422, PySem.Value.str (PySem.Str.ofString "add_callers") 423, PySem.Value.str (PySem.Str.ofString "/claim/cut.py") 424, PySem.Value.int 103 0, PySem.Value.int 2 0, PySem.Value.int 0 0, PySem.Value.int 0 0, PySem.Value.int 3 0,
        PySem.Value.ref 197, PySem.Value.bool true, PySem.Value.int 181 0, PySem.Value.ref 198, PySem.Value.none, PySem.Value.ref 199, PySem.Value.ref 200, PySem.Value.ref 201, PySem.Value.int 430 0, PySem.Value.int 103 0, PySem.Value.str (PySem.Str.ofString "/claim/cut.py") 431] }
noncomputable def k203 (P : Params) : Obj :=
{ cls := PySem.Value.type "function",
  data :=
    PySem.Data.func
      { name := PySem.Str.ofString "add_callers", qualname := PySem.Str.ofString "add_callers", params := Mine.astP (Mine.topS 12), body := Mine.astB (Mine.topS 12), scope := Mine.astS (Mine.topS 12), globals := 3, closure := [], defaults := PySem.Value.none, kwdefaults := PySem.Value.none,
        pyModule := PySem.Value.str (PySem.Str.ofString "cpy313.pstats") 378, code := PySem.Value.ref 202 } }
noncomputable def k204 (P : Params) : Obj :=
{ cls := PySem.Value.type "tuple", data := PySem.Data.seq #[] }
noncomputable def k206 (P : Params) : Obj :=
{ cls := PySem.Value.type "tuple", data := PySem.Data.seq #[PySem.Value.str (PySem.Str.ofString "callers") 436, PySem.Value.str (PySem.Str.ofString "nc") 437, PySem.Value.str (PySem.Str.ofString "calls") 438] }
noncomputable def k207 (P : Params) : Obj :=
{ cls := PySem.Value.type "tuple", data := PySem.Data.seq #[] }
noncomputable def k209 (P : Params) : Obj :=
{ cls := PySem.Value.type "code",
  data :=
    PySem.Data.fields
      #[PySem.Value.str (PySem.Str.ofString "count_calls") 433, PySem.Value.str (PySem.Str.ofString "count_calls") 434, PySem.Value.str (PySem.Str.ofString "/claim/cut.py") 435, PySem.Value.int 116 0, PySem.Value.int 1 0, PySem.Value.int 0 0, PySem.Value.int 0 0, PySem.Value.int 3 0,
        PySem.Value.ref 204, PySem.Value.bool true, PySem.Value.int 181 0, PySem.Value.ref 205, PySem.Value.none, PySem.Value.ref 206, PySem.Value.ref 207, PySem.Value.ref 208, PySem.Value.int 439 0, PySem.Value.int 116 0, PySem.Value.str (PySem.Str.ofString "/claim/cut.py") 440] }
noncomputable def k210 (P : Params) : Obj :=
{ cls := PySem.Value.type "function",
  data :=
    PySem.Data.func
      { name := PySem.Str.ofString "count_calls", qualname := PySem.Str.ofString "count_calls", params := Mine.astP (Mine.topS 13), body := Mine.astB (Mine.topS 13), scope := Mine.astS (Mine.topS 13), globals := 3, closure := [], defaults := PySem.Value.none, kwdefaults := PySem.Value.none,
        pyModule := PySem.Value.str (PySem.Str.ofString "cpy313.pstats") 378, code := PySem.Value.ref 209 } }
noncomputable def k211 (P : Params) : Obj :=
{ cls := PySem.Value.type "tuple", data := PySem.Data.seq #[] }
noncomputable def k214 (P : Params) : Obj :=
{ cls := PySem.Value.type "code",
  data :=
    PySem.Data.fields
      #[PySem.Value.str (PySem.Str.ofString "_law_numbers") 444, PySem.Value.str (PySem.Str.ofString "_law_numbers") 445, PySem.Value.str (PySem.Str.ofString "/claim/cut.py") 446, PySem.Value.int 122 0, PySem.Value.int 1 0, PySem.Value.int 0 0, PySem.Value.int 0 0, PySem.Value.int 3 0,
        PySem.Value.ref 211, PySem.Value.bool true, PySem.Value.int 181 0, PySem.Value.ref 212, PySem.Value.none, PySem.Value.none, PySem.Value.none, PySem.Value.ref 213, PySem.Value.int 447 0, PySem.Value.int 122 0, PySem.Value.str (PySem.Str.ofString "/claim/cut.py") 448] }
noncomputable def k216 (P : Params) : Obj :=
{ cls := PySem.Value.type "tuple", data := PySem.Data.seq #[] }
noncomputable def k218 (P : Params) : Obj :=
{ cls := PySem.Value.type "tuple",
  data := PySem.Data.seq #[PySem.Value.str (PySem.Str.ofString "numbers") 453, PySem.Value.str (PySem.Str.ofString "profile") 454, PySem.Value.str (PySem.Str.ofString "k") 455, PySem.Value.str (PySem.Str.ofString "number") 456, PySem.Value.str (PySem.Str.ofString "name") 457] }
noncomputable def k219 (P : Params) : Obj :=
{ cls := PySem.Value.type "tuple", data := PySem.Data.seq #[] }
noncomputable def k221 (P : Params) : Obj :=
{ cls := PySem.Value.type "code",
  data :=
    PySem.Data.fields
      #[PySem.Value.str (PySem.Str.ofString "_law_profile") 450, PySem.Value.str (PySem.Str.ofString "_law_profile") 451, PySem.Value.str (PySem.Str.ofString "/claim/cut.py") 452, PySem.Value.int 125 0, PySem.Value.int 1 0, PySem.Value.int 0 0, PySem.Value.int 0 0, PySem.Value.int 3 0,
        PySem.Value.ref 216, PySem.Value.bool true, PySem.Value.int 181 0, PySem.Value.ref 217, PySem.Value.none, PySem.Value.ref 218, PySem.Value.ref 219, PySem.Value.ref 220, PySem.Value.int 458 0, PySem.Value.int 125 0, PySem.Value.str (PySem.Str.ofString "/claim/cut.py") 459] }
noncomputable def k222 (P : Params) : Obj :=
{ cls := PySem.Value.type "function",
  data :=
    PySem.Data.func
      { name := PySem.Str.ofString "_law_profile", qualname := PySem.Str.ofString "_law_profile", params := Mine.astP (Mine.topS 16), body := Mine.astB (Mine.topS 16), scope := Mine.astS (Mine.topS 16), globals := 3, closure := [], defaults := PySem.Value.none, kwdefaults := PySem.Value.none,
        pyModule := PySem.Value.str (PySem.Str.ofString "law_xg0040_01") 442, code := PySem.Value.ref 221 } }
noncomputable def k223 (P : Params) : Obj :=
{ cls := PySem.Value.type "tuple", data := PySem.Data.seq #[] }
noncomputable def k226 (P : Params) : Obj :=
{ cls := PySem.Value.type "code",
  data :=
    PySem.Data.fields
      #[PySem.Value.str (PySem.Str.ofString "_law_rings") 461, PySem.Value.str (PySem.Str.ofString "_law_rings") 462, PySem.Value.str (PySem.Str.ofString "/claim/cut.py") 463, PySem.Value.int 131 0, PySem.Value.int 2 0, PySem.Value.int 0 0, PySem.Value.int 0 0, PySem.Value.int 3 0,
        PySem.Value.ref 223, PySem.Value.bool true, PySem.Value.int 181 0, PySem.Value.ref 224, PySem.Value.none, PySem.Value.none, PySem.Value.none, PySem.Value.ref 225, PySem.Value.int 464 0, PySem.Value.int 131 0, PySem.Value.str (PySem.Str.ofString "/claim/cut.py") 465] }
noncomputable def k227 (P : Params) : Obj :=
{ cls := PySem.Value.type "function",
  data :=
    PySem.Data.func
      { name := PySem.Str.ofString "_law_rings", qualname := PySem.Str.ofString "_law_rings", params := Mine.astP (Mine.topS 17), body := Mine.astB (Mine.topS 17), scope := Mine.astS (Mine.topS 17), globals := 3, closure := [], defaults := PySem.Value.none, kwdefaults := PySem.Value.none,
        pyModule := PySem.Value.str (PySem.Str.ofString "law_xg0040_01") 442, code := PySem.Value.ref 226 } }
noncomputable def k228 (P : Params) : Obj :=
{ cls := PySem.Value.type "tuple", data := PySem.Data.seq #[] }
noncomputable def k230 (P : Params) : Obj :=
{ cls := PySem.Value.type "tuple",
  data := PySem.Data.seq #[PySem.Value.str (PySem.Str.ofString "profile") 470, PySem.Value.str (PySem.Str.ofString "ring") 471, PySem.Value.str (PySem.Str.ofString "worth") 472, PySem.Value.str (PySem.Str.ofString "caller") 473, PySem.Value.str (PySem.Str.ofString "name") 474] }
noncomputable def k231 (P : Params) : Obj :=
{ cls := PySem.Value.type "tuple", data := PySem.Data.seq #[] }
noncomputable def k233 (P : Params) : Obj :=
{ cls := PySem.Value.type "code",
  data :=
    PySem.Data.fields
      #[PySem.Value.str (PySem.Str.ofString "_law_calls") 467, PySem.Value.str (PySem.Str.ofString "_law_calls") 468, PySem.Value.str (PySem.Str.ofString "/claim/cut.py") 469, PySem.Value.int 145 0, PySem.Value.int 2 0, PySem.Value.int 0 0, PySem.Value.int 0 0, PySem.Value.int 3 0,
        PySem.Value.ref 228, PySem.Value.bool true, PySem.Value.int 181 0, PySem.Value.ref 229, PySem.Value.none, PySem.Value.ref 230, PySem.Value.ref 231, PySem.Value.ref 232, PySem.Value.int 475 0, PySem.Value.int 145 0, PySem.Value.str (PySem.Str.ofString "/claim/cut.py") 476] }
noncomputable def k234 (P : Params) : Obj :=
{ cls := PySem.Value.type "function",
  data :=
    PySem.Data.func
      { name := PySem.Str.ofString "_law_calls", qualname := PySem.Str.ofString "_law_calls", params := Mine.astP (Mine.topS 18), body := Mine.astB (Mine.topS 18), scope := Mine.astS (Mine.topS 18), globals := 3, closure := [], defaults := PySem.Value.none, kwdefaults := PySem.Value.none,
        pyModule := PySem.Value.str (PySem.Str.ofString "law_xg0040_01") 442, code := PySem.Value.ref 233 } }
noncomputable def k235 (P : Params) : Obj :=
{ cls := PySem.Value.type "tuple", data := PySem.Data.seq #[] }
noncomputable def k237 (P : Params) : Obj :=
{ cls := PySem.Value.type "tuple", data := PySem.Data.seq #[PySem.Value.str (PySem.Str.ofString "x") 481, PySem.Value.str (PySem.Str.ofString "y") 482, PySem.Value.str (PySem.Str.ofString "z") 483] }
noncomputable def k238 (P : Params) : Obj :=
{ cls := PySem.Value.type "tuple", data := PySem.Data.seq #[] }
noncomputable def k240 (P : Params) : Obj :=
{ cls := PySem.Value.type "code",
  data :=
    PySem.Data.fields
      #[PySem.Value.str (PySem.Str.ofString "_law_determinant") 478, PySem.Value.str (PySem.Str.ofString "_law_determinant") 479, PySem.Value.str (PySem.Str.ofString "/claim/cut.py") 480, PySem.Value.int 152 0, PySem.Value.int 3 0, PySem.Value.int 0 0, PySem.Value.int 0 0, PySem.Value.int 3 0,
        PySem.Value.ref 235, PySem.Value.bool true, PySem.Value.int 181 0, PySem.Value.ref 236, PySem.Value.none, PySem.Value.ref 237, PySem.Value.ref 238, PySem.Value.ref 239, PySem.Value.int 484 0, PySem.Value.int 152 0, PySem.Value.str (PySem.Str.ofString "/claim/cut.py") 485] }
noncomputable def k241 (P : Params) : Obj :=
{ cls := PySem.Value.type "function",
  data :=
    PySem.Data.func
      { name := PySem.Str.ofString "_law_determinant", qualname := PySem.Str.ofString "_law_determinant", params := Mine.astP (Mine.topS 19), body := Mine.astB (Mine.topS 19), scope := Mine.astS (Mine.topS 19), globals := 3, closure := [], defaults := PySem.Value.none,
        kwdefaults := PySem.Value.none, pyModule := PySem.Value.str (PySem.Str.ofString "law_xg0040_01") 442, code := PySem.Value.ref 240 } }
noncomputable def k242 (P : Params) : Obj :=
{ cls := PySem.Value.type "tuple", data := PySem.Data.seq #[] }
noncomputable def k245 (P : Params) : Obj :=
{ cls := PySem.Value.type "code",
  data :=
    PySem.Data.fields
      #[PySem.Value.str (PySem.Str.ofString "law") 487, PySem.Value.str (PySem.Str.ofString "law") 488, PySem.Value.str (PySem.Str.ofString "/claim/cut.py") 489, PySem.Value.int 154 0, PySem.Value.int 1 0, PySem.Value.int 0 0, PySem.Value.int 0 0, PySem.Value.int 3 0, PySem.Value.ref 242,
        PySem.Value.bool true, PySem.Value.int 181 0, PySem.Value.ref 243, PySem.Value.none, PySem.Value.none, PySem.Value.none, PySem.Value.ref 244, PySem.Value.int 490 0, PySem.Value.int 154 0, PySem.Value.str (PySem.Str.ofString "/claim/cut.py") 491] }
noncomputable def k246 (P : Params) : Obj :=
{ cls := PySem.Value.type "function",
  data :=
    PySem.Data.func
      { name := PySem.Str.ofString "law", qualname := PySem.Str.ofString "law", params := Mine.astP (Mine.topS 20), body := Mine.astB (Mine.topS 20), scope := Mine.astS (Mine.topS 20), globals := 3, closure := [], defaults := PySem.Value.none, kwdefaults := PySem.Value.none,
        pyModule := PySem.Value.str (PySem.Str.ofString "law_xg0040_01") 442, code := PySem.Value.ref 245 } }
noncomputable def K39 : Params → Frag := (fun (n215 : Str) (p215 : Arguments) (b215 : List Stmt) (d215 : List Expr) (r215 : Option Expr) (t215 : List TypeParam) (s215 : Scope) (z215 : Option Scope) (x215 : Str) (q215 : Pos)
    (_ : topS 15 = .FunctionDef n215 p215 b215 d215 r215 t215 s215 z215 x215 q215) => fun (P : Params) =>
  (nat_lit 1, k1 P) :: (nat_lit 2, k2 P) :: (nat_lit 3, k3 P) :: (nat_lit 15, k15 P) :: (nat_lit 17, k17 P) :: (nat_lit 18, k18 P) :: (nat_lit 20, k20 P) :: (nat_lit 21, k21 P) ::
  (nat_lit 22, k22 P) :: (nat_lit 24, k24 P) :: (nat_lit 25, k25 P) :: (nat_lit 27, k27 P) :: (nat_lit 28, k28 P) :: (nat_lit 29, k29 P) :: (nat_lit 31, k31 P) :: (nat_lit 32, k32 P) ::
  (nat_lit 34, k34 P) :: (nat_lit 35, k35 P) :: (nat_lit 36, k36 P) :: (nat_lit 38, k38 P) :: (nat_lit 39, k39 P) :: (nat_lit 41, k41 P) :: (nat_lit 42, k42 P) :: (nat_lit 43, k43 P) ::
  (nat_lit 46, k46 P) :: (nat_lit 51, k51 P) :: (nat_lit 52, k52 P) :: (nat_lit 53, k53 P) :: (nat_lit 55, k55 P) :: (nat_lit 56, k56 P) :: (nat_lit 58, k58 P) :: (nat_lit 59, k59 P) ::
  (nat_lit 60, k60 P) :: (nat_lit 62, k62 P) :: (nat_lit 63, k63 P) :: (nat_lit 65, k65 P) :: (nat_lit 66, k66 P) :: (nat_lit 67, k67 P) :: (nat_lit 68, k68 P) :: (nat_lit 70, k70 P) ::
  (nat_lit 71, k71 P) :: (nat_lit 73, k73 P) :: (nat_lit 74, k74 P) :: (nat_lit 75, k75 P) :: (nat_lit 76, k76 P) :: (nat_lit 78, k78 P) :: (nat_lit 79, k79 P) :: (nat_lit 81, k81 P) ::
  (nat_lit 82, k82 P) :: (nat_lit 83, k83 P) :: (nat_lit 85, k85 P) :: (nat_lit 86, k86 P) :: (nat_lit 88, k88 P) :: (nat_lit 89, k89 P) :: (nat_lit 90, k90 P) :: (nat_lit 92, k92 P) ::
  (nat_lit 93, k93 P) :: (nat_lit 95, k95 P) :: (nat_lit 96, k96 P) :: (nat_lit 97, k97 P) :: (nat_lit 98, k98 P) :: (nat_lit 100, k100 P) :: (nat_lit 101, k101 P) :: (nat_lit 103, k103 P) ::
  (nat_lit 104, k104 P) :: (nat_lit 105, k105 P) :: (nat_lit 107, k107 P) :: (nat_lit 108, k108 P) :: (nat_lit 110, k110 P) :: (nat_lit 111, k111 P) :: (nat_lit 112, k112 P) :: (nat_lit 113, k113 P) ::
  (nat_lit 115, k115 P) :: (nat_lit 116, k116 P) :: (nat_lit 118, k118 P) :: (nat_lit 119, k119 P) :: (nat_lit 120, k120 P) :: (nat_lit 121, k121 P) :: (nat_lit 122, k122 P) :: (nat_lit 123, k123 P) ::
  (nat_lit 124, k124 P) :: (nat_lit 134, k134 P) :: (nat_lit 136, k136 P) :: (nat_lit 137, k137 P) :: (nat_lit 139, k139 P) :: (nat_lit 140, k140 P) :: (nat_lit 141, k141 P) :: (nat_lit 143, k143 P) ::
  (nat_lit 144, k144 P) :: (nat_lit 146, k146 P) :: (nat_lit 147, k147 P) :: (nat_lit 148, k148 P) :: (nat_lit 150, k150 P) :: (nat_lit 151, k151 P) :: (nat_lit 153, k153 P) :: (nat_lit 154, k154 P) ::
  (nat_lit 155, k155 P) :: (nat_lit 157, k157 P) :: (nat_lit 158, k158 P) :: (nat_lit 160, k160 P) :: (nat_lit 161, k161 P) :: (nat_lit 162, k162 P) :: (nat_lit 163, k163 P) :: (nat_lit 164, k164 P) ::
  (nat_lit 165, k165 P) :: (nat_lit 166, k166 P) :: (nat_lit 176, k176 P) :: (nat_lit 178, k178 P) :: (nat_lit 179, k179 P) :: (nat_lit 181, k181 P) :: (nat_lit 182, k182 P) :: (nat_lit 183, k183 P) ::
  (nat_lit 185, k185 P) :: (nat_lit 186, k186 P) :: (nat_lit 188, k188 P) :: (nat_lit 189, k189 P) :: (nat_lit 190, k190 P) :: (nat_lit 191, k191 P) :: (nat_lit 192, k192 P) :: (nat_lit 193, k193 P) ::
  (nat_lit 194, k194 P) :: (nat_lit 197, k197 P) :: (nat_lit 199, k199 P) :: (nat_lit 200, k200 P) :: (nat_lit 202, k202 P) :: (nat_lit 203, k203 P) :: (nat_lit 204, k204 P) :: (nat_lit 206, k206 P) ::
  (nat_lit 207, k207 P) :: (nat_lit 209, k209 P) :: (nat_lit 210, k210 P) :: (nat_lit 211, k211 P) :: (nat_lit 214, k214 P) :: (nat_lit 215, { cls := PySem.Value.type "function", data := PySem.Data.func { name := PySem.Str.ofString "_law_numbers", qualname := PySem.Str.ofString "_law_numbers", params := p215, body := .stmts b215, scope := s215, globals := 3, closure := [], defaults := PySem.Value.none, kwdefaults := PySem.Value.none, pyModule := PySem.Value.str (PySem.Str.ofString "law_xg0040_01") 442, code := PySem.Value.ref 214 } }) :: (nat_lit 216, k216 P) :: (nat_lit 218, k218 P) ::
  (nat_lit 219, k219 P) :: (nat_lit 221, k221 P) :: (nat_lit 222, k222 P) :: (nat_lit 223, k223 P) :: (nat_lit 226, k226 P) :: (nat_lit 227, k227 P) :: (nat_lit 228, k228 P) :: (nat_lit 230, k230 P) ::
  (nat_lit 231, k231 P) :: (nat_lit 233, k233 P) :: (nat_lit 234, k234 P) :: (nat_lit 235, k235 P) :: (nat_lit 237, k237 P) :: (nat_lit 238, k238 P) :: (nat_lit 240, k240 P) :: (nat_lit 241, k241 P) ::
  (nat_lit 242, k242 P) :: (nat_lit 245, k245 P) :: (nat_lit 246, k246 P) :: []) _ _ _ _ _ _ _ _ _ _ rfl
noncomputable def viewQ : Program := { PR with main := { PR.main with body := [topS 0, topS 2, topS 3, topS 4, topS 6, topS 7, topS 9, topS 11, topS 12, topS 13, topS 15, topS 16, topS 17, topS 18, topS 19, topS 20] } }
/-- the same, its statements opened -/
noncomputable def viewP : Program := (⟨{ PR with main := { PR.main with body := [.FunctionDef _ _ _ _ _ _ _ _ _ _, .FunctionDef _ _ _ _ _ _ _ _ _ _, .FunctionDef _ _ _ _ _ _ _ _ _ _, .FunctionDef _ _ _ _ _ _ _ _ _ _, .Assign _ _ _, .ClassDef _ _ _ _ _ _ _ _ _ _ _, .ClassDef _ _ _ _ _ _ _ _ _ _ _, .ClassDef _ _ _ _ _ _ _ _ _ _ _, .FunctionDef _ _ _ _ _ _ _ _ _ _, .FunctionDef _ _ _ _ _ _ _ _ _ _, .FunctionDef _ _ _ _ _ _ _ _ _ _, .FunctionDef _ _ _ _ _ _ _ _ _ _, .FunctionDef _ _ _ _ _ _ _ _ _ _, .FunctionDef _ _ _ _ _ _ _ _ _ _, .FunctionDef _ _ _ _ _ _ _ _ _ _, .FunctionDef _ _ _ _ _ _ _ _ _ _] } }, rfl⟩ : { p : Program // viewQ = p }).1
noncomputable abbrev KH := kHook K39 [1, 2, 3, 15, 17, 18, 20, 21, 22, 24, 25, 27, 28, 29, 31, 32, 34, 35, 36, 38, 39, 41, 42, 43, 46, 51, 52, 53, 55, 56, 58, 59, 60, 62, 63, 65, 66, 67, 68, 70, 71, 73, 74, 75, 76, 78, 79, 81, 82, 83, 85, 86, 88, 89, 90, 92, 93, 95, 96, 97, 98, 100, 101, 103, 104, 105, 107, 108, 110, 111, 112, 113, 115, 116, 118, 119, 120, 121, 122, 123, 124, 134, 136, 137, 139, 140, 141, 143, 144, 146, 147, 148, 150, 151, 153, 154, 155, 157, 158, 160, 161, 162, 163, 164, 165, 166, 176, 178, 179, 181, 182, 183, 185, 186, 188, 189, 190, 191, 192, 193, 194, 197, 199, 200, 202, 203, 204, 206, 207, 209, 210, 211, 214, 215, 216, 218, 219, 221, 222, 223, 226, 227, 228, 230, 231, 233, 234, 235, 237, 238, 240, 241, 242, 245, 246] (fun _ => by kernel_rfl)
theorem said : OpenLaw.wellSaid PySem.Challenge.rw_xg0040_01 = true := by decide +kernel
/-! the head: the top's run over a tree of objects, by the library's laid twins of stepT, stepOk, denote, treeTable and openSeen -/
noncomputable def topRunT (den : Code → Sem Fin) (p : Program) (w : World) (n₀ : Nat) (ann : Option Value) : Nat → SharedT → Thread → Option SharedT
  | 0, _, _ => none
  | n + 1, s, t => match through t with
    | true => some s
    | false => match Fast.tw6613529449190102663 n₀ ann t with
      | false => none
      | true => match Fast.tw10156331382660048174 den p w s t with
        | some r => topRunT den p w n₀ ann n r.1 r.2
        | none => none
theorem topRunT_of {tb : String → Option Builtin} {p : Program} {w : World} {n₀ : Nat} {ann : Option Value} : ∀ {n : Nat} {s s' : SharedT} {t : Thread}, topRunT (Fast.tw11892475500146522536 tb) p w n₀ ann n s t = some s' → topRun tb p w n₀ ann n s.abs t = some s'.abs
  | 0, _, _, _, h => by cases h
  | n + 1, s, s', t, h => by
    unfold topRunT at h
    unfold topRun
    cases he : through t with
    | true => rw [he] at h; cases h; rfl
    | false =>
      rw [he] at h
      rw [← Fast.te6613529449190102663, ← Fast.te10156331382660048174] at h
      cases hk : stepOk n₀ ann t with
      | false => rw [hk] at h; cases h
      | true =>
        rw [hk] at h
        cases hs : stepT (Fast.tw11892475500146522536 tb) p w s t with
        | none => rw [hs] at h; cases h
        | some r =>
          rw [hs] at h
          rw [← Fast.te11892475500146522536] at hs
          rw [stepT_spec (s' := r.1) (t' := r.2) hs]
          exact topRunT_of h
noncomputable def treeOf : List Obj → Nat → BT → BT
  | [], _, t => t
  | o :: r, i, t => treeOf r (i + 1) (t.ins i o)
noncomputable def bootT (w : World) (os : OsState) : SharedT := ⟨treeOf (boot_heap w.params).objs.toList 0 .nil, (boot_heap w.params).objs.size, (boot_heap w.params).life, #[], boot_drawn, boot_toks, os⟩
noncomputable def bootS (w : World) (os : OsState) : Shared := ⟨boot_heap w.params, #[], boot_drawn, boot_toks, os⟩
theorem boot_abs (w : World) (os : OsState) : (bootT w os).abs = bootS w os := by kernel_rfl
noncomputable def chkH (p : Program) (w : World) (s : Shared) : Bool := staticsOk (importedModules p.main.body) (boot_heap w.params) s.heap && namesBound p s.heap && gensDone s && laidKept (boot_heap w.params) s.heap
theorem left_of {p q : Program} {loose : List Str} {Xt : Shared → Bool} {α : Type} {Yf : Shared → α} {Ya : World → α} {N : Nat} (o : opening p = plainProg p.main.scope.names) (hN : Nat.ble 600 N = true) (f : ∀ s, fenceModules? p s = some s)
    (z : ∀ w : World, ((boot_heap w.params).isNs mainGlobals && (#[] : Array GenState).size == 0) = true)
    (head : ∀ (w : World) (os : OsState), (topRunT (Fast.tw11892475500146522536 Fast.tw14364793385576792824) p w (boot_heap w.params).objs.size ((boot_heap w.params).nsMap mainGlobals "__annotations__") N (bootT w os) (topStub p)).map (fun s => (chkH p w s.abs, Fast.tw4187177175401517315 q loose (importedModules p.main.body) Xt true s.abs, Yf s.abs)) =
      some (true, openGood q loose, Ya w)) : LeftO p q loose Xt Yf Ya N := by
  intro w
  obtain ⟨⟨h, gs, d, k, os⟩, e, e'⟩ := Option.map_eq_some_iff.mp (boot_open o hN f w)
  cases e'
  obtain ⟨s₁, h1, h2⟩ := Option.map_eq_some_iff.mp (head w os)
  rw [← Fast.te14364793385576792824] at h1
  rw [← Fast.te4187177175401517315] at h2
  have r := topRunT_of h1
  rw [boot_abs] at r
  obtain ⟨c1, c2⟩ := Prod.mk.inj h2
  have t : topFrom treeTable p w N (bootS w os) = some s₁.abs := by
    unfold topFrom
    rw [show ((bootS w os).heap.isNs mainGlobals && (bootS w os).gens.size == 0) = true from z w]
    dsimp only
    rw [show topRun treeTable p w (bootS w os).heap.objs.size ((bootS w os).heap.nsMap mainGlobals "__annotations__") N (bootS w os) (topStub p) = some s₁.abs from r]
    show (match chkH p w s₁.abs with | true => some s₁.abs | false => none) = _
    rw [c1]
  unfold openEnds
  rw [e]
  show (topFrom treeTable p w N (bootS w os)).map _ = _
  rw [t]
  exact congrArg some c2
noncomputable abbrev XtH (s : Shared) : Bool := xlAt viewP [] s && recOk PySem.Challenge.rw_xg0040_01.row.records s
theorem bootZ (w : World) : ((boot_heap w.params).isNs mainGlobals && (#[] : Array GenState).size == 0) = true := by kernel_rfl
theorem opens : opening PR = plainProg PR.main.scope.names := by kernel_rfl
theorem headT (w : World) (os : OsState) : (topRunT (Fast.tw11892475500146522536 Fast.tw14364793385576792824) PR w (boot_heap w.params).objs.size ((boot_heap w.params).nsMap mainGlobals "__annotations__") 3118 (bootT w os) (topStub PR)).map (fun s => (chkH PR w s.abs, Fast.tw4187177175401517315 viewP [PySem.Str.ofString "_Accumulator"] (importedModules PR.main.body) XtH true s.abs, KH.obs s.abs)) =
    some (true, openGood viewP [PySem.Str.ofString "_Accumulator"], KH.val w) := by kernel_rfl
theorem hl : LeftO PR viewP [PySem.Str.ofString "_Accumulator"] XtH KH.obs KH.val 3118 := left_of opens rfl (fun _ => rfl) bootZ headT
end
end Mine
end

section
open PySem PySem.Spec PySem.Calls PyProof.Rows PySem.W
set_option Elab.async false
set_option genSizeOf false
set_option genInjectivity false
namespace Mine

/-! symbolic ints -/
inductive IE where
  | c (n : Int)
  | v (i : Nat)
  | add (a b : IE)
  | sub (a b : IE)
  | mul (a b : IE)
  | neg (a : IE)

noncomputable def IE.den (θ : Nat → Int) : IE → Int
  | .c n => n
  | .v i => θ i
  | .add a b => a.den θ + b.den θ
  | .sub a b => a.den θ - b.den θ
  | .mul a b => a.den θ * b.den θ
  | .neg a => - a.den θ

noncomputable def iAdd : IE → IE → IE
  | .c a, .c b => .c (a + b)
  | a, b => .add a b
noncomputable def iSub : IE → IE → IE
  | .c a, .c b => .c (a - b)
  | a, b => .sub a b
noncomputable def iMul : IE → IE → IE
  | .c a, .c b => .c (a * b)
  | a, b => .mul a b
noncomputable def iNeg : IE → IE
  | .c a => .c (-a)
  | a => .neg a
theorem iAdd_den (θ : Nat → Int) (a b : IE) : (iAdd a b).den θ = a.den θ + b.den θ := by
  unfold iAdd; split <;> rfl
theorem iSub_den (θ : Nat → Int) (a b : IE) : (iSub a b).den θ = a.den θ - b.den θ := by
  unfold iSub; split <;> rfl
theorem iMul_den (θ : Nat → Int) (a b : IE) : (iMul a b).den θ = a.den θ * b.den θ := by
  unfold iMul; split <;> rfl
theorem iNeg_den (θ : Nat → Int) (a : IE) : (iNeg a).den θ = - a.den θ := by
  unfold iNeg; split <;> rfl

/-- a bound for the size, each letter below B -/
noncomputable def IE.bnd (B : Nat) : IE → Nat
  | .c n => n.natAbs
  | .v _ => B
  | .add a b => a.bnd B + b.bnd B
  | .sub a b => a.bnd B + b.bnd B
  | .mul a b => a.bnd B * b.bnd B
  | .neg a => a.bnd B
theorem IE.bnd_le {θ : Nat → Int} {B : Nat} (hB : ∀ i, (θ i).natAbs ≤ B) : ∀ e : IE, (e.den θ).natAbs ≤ e.bnd B
  | .c _ => Nat.le_refl _
  | .v i => hB i
  | .add a b => by
    have := bnd_le hB a; have := bnd_le hB b
    simp only [IE.den, IE.bnd]; omega
  | .sub a b => by
    have := bnd_le hB a; have := bnd_le hB b
    simp only [IE.den, IE.bnd]; omega
  | .mul a b => by
    have h1 := bnd_le hB a; have h2 := bnd_le hB b
    simp only [IE.den, IE.bnd, Int.natAbs_mul]
    exact Nat.mul_le_mul h1 h2
  | .neg a => by
    have := bnd_le hB a
    simp only [IE.den, IE.bnd]; omega

/-! abstract values -/
inductive AV where
  | none
  | bool (b : Bool)
  | int (e : IE)
  | str (s : List Nat)
  | val (v : Value)
  | tup (its : List AV)
  | lst (its : List AV)
  | dicI (es : List (Int × AV))
  | dicS (es : List (Str × AV))
  | ins (C : Addr) (fs : List (Str × AV))
  | rng (lo hi : Int)
  | itI (es : List (Int × AV))
  | vaI (es : List (Int × AV))
  | ref (i : Nat)
  | nlist (ns : List Int)

inductive AO where
  | ns (loc : List (Str × AV))
  | cell (v : Option AV)
  | list (its : List AV)
  | acc (its : List AV)
  | dic (es : List (Int × AV))

noncomputable def AO.isNs : AO → Bool
  | .ns _ => true
  | _ => false

/-! live objects by number -/
noncomputable def oGet (l : List (Nat × AO)) (i : Nat) : Option AO := @List.rec (Nat × AO) (fun _ => Option AO) none (fun p _ ih => @Bool.rec (fun _ => Option AO) ih (some p.2) (Nat.beq p.1 i)) l
noncomputable def oDel (l : List (Nat × AO)) (i : Nat) : List (Nat × AO) := @List.rec (Nat × AO) (fun _ => List (Nat × AO)) [] (fun p _ ih => @Bool.rec (fun _ => List (Nat × AO)) (p :: ih) ih (Nat.beq p.1 i)) l
/-- without the first of that number -/
noncomputable def oCut (l : List (Nat × AO)) (i : Nat) : List (Nat × AO) := @List.rec (Nat × AO) (fun _ => List (Nat × AO)) [] (fun p r ih => @Bool.rec (fun _ => List (Nat × AO)) (p :: ih) r (Nat.beq p.1 i)) l
theorem beq_tt {a b : Nat} : Nat.beq a b = decide (a = b) := by
  by_cases h : a = b
  · subst h; simp
  · rw [decide_eq_false h]
    cases e : Nat.beq a b with
    | false => rfl
    | true => exact absurd (Nat.eq_of_beq_eq_true e) h
theorem oGet_cons (p : Nat × AO) (l : List (Nat × AO)) (i : Nat) : oGet (p :: l) i = if p.1 = i then some p.2 else oGet l i := by
  show @Bool.rec (fun _ => Option AO) (oGet l i) (some p.2) (Nat.beq p.1 i) = _
  rw [beq_tt]
  by_cases h : p.1 = i <;> simp [h]
theorem oGet_del (l : List (Nat × AO)) (i j : Nat) : oGet (oDel l i) j = if i = j then .none else oGet l j := by
  induction l with
  | nil => by_cases q : i = j <;> simp [q] <;> rfl
  | cons p l ih =>
    show oGet (@Bool.rec (fun _ => List (Nat × AO)) (p :: oDel l i) (oDel l i) (Nat.beq p.1 i)) j = _
    rw [beq_tt, oGet_cons]
    by_cases h : p.1 = i
    · simp only [h, decide_true, ih]
      by_cases q : i = j <;> simp [q]
    · simp only [h, decide_false, oGet_cons, ih]
      by_cases q : p.1 = j
      · have : ¬ i = j := fun e => h (q.trans e.symm)
        simp [q, this]
      · simp [q]

theorem oGet_cut {i j : Nat} (hij : ¬ i = j) (l : List (Nat × AO)) : oGet (oCut l i) j = oGet l j := by
  induction l with
  | nil => rfl
  | cons p l ih =>
    show oGet (@Bool.rec (fun _ => List (Nat × AO)) (p :: oCut l i) l (Nat.beq p.1 i)) j = _
    rw [beq_tt, oGet_cons]
    by_cases h : p.1 = i
    · have : ¬ p.1 = j := fun e => hij (h.symm.trans e)
      simp only [h, decide_true]
      rw [if_neg hij]
    · simp only [h, decide_false, oGet_cons, ih]

structure St where
  l : List (Nat × AO)
  n : Nat
noncomputable def St.get (σ : St) (i : Nat) : Option AO := oGet σ.l i
noncomputable def St.put (σ : St) (i : Nat) (o : AO) : St := ⟨(i, o) :: oCut σ.l i, σ.n⟩
noncomputable def St.del (σ : St) (i : Nat) : St := ⟨oDel σ.l i, σ.n⟩
/-- a new one -/
noncomputable def St.new (σ : St) (o : AO) : St := ⟨(σ.n, o) :: σ.l, σ.n + 1⟩
theorem St.get_put (σ : St) (i j : Nat) (o : AO) : (σ.put i o).get j = if i = j then some o else σ.get j := by
  show oGet ((i, o) :: oCut σ.l i) j = _
  rw [oGet_cons]
  by_cases h : i = j
  · rw [if_pos h, if_pos h]
  · rw [if_neg h, if_neg h]
    exact oGet_cut h _
theorem St.get_new (σ : St) (j : Nat) (o : AO) : (σ.new o).get j = if σ.n = j then some o else σ.get j := by
  show oGet ((σ.n, o) :: σ.l) j = _
  rw [oGet_cons]
  rfl
theorem St.get_del (σ : St) (i j : Nat) : (σ.del i).get j = if i = j then .none else σ.get j := oGet_del _ _ _

/-- no iterator -/
noncomputable def notIt (o : Obj) : Bool := match o.cls with
  | .type T => !(["list_iterator", "tuple_iterator", "range_iterator", "dict_itemiterator", "dict_valueiterator", "enumerate"] : List String).contains T
  | _ => true

/-- not the place of a live object -/
noncomputable def Unt (ρ : Nat → Addr) (σ : St) (a : Addr) : Prop := ∀ i o, σ.get i = some o → ρ i ≠ a

section
variable (prog : Program) (w : World) (θ : Nat → Int)

/-- the value v of the model's is the abstract one, in the heap h -/
inductive VR (h : Heap) (ρ : Nat → Addr) (σ : St) : AV → Value → Prop
  | none : VR h ρ σ .none .none
  | bool (b : Bool) : VR h ρ σ (.bool b) (.bool b)
  | int (e : IE) (t : Tok) : VR h ρ σ (.int e) (.int (e.den θ) t)
  | str (s : List Nat) (t : Tok) : VR h ρ σ (.str s) (.str ⟨s.toArray⟩ t)
  | val (v : Value) : VR h ρ σ (.val v) v
  | ref (i : Nat) : i < σ.n → VR h ρ σ (.ref i) (.ref (ρ i))
  | tup {a : Addr} {its : List AV} {vs : List Value} : h.IsTuple a vs.toArray → Unt ρ σ a → its.length = vs.length → (∀ (i : Nat) x v, its[i]? = some x → vs[i]? = some v → VR h ρ σ x v) → VR h ρ σ (.tup its) (.ref a)
  | lst {a : Addr} {its : List AV} {vs : List Value} : h.IsList a vs.toArray → Unt ρ σ a → its.length = vs.length → (∀ (i : Nat) x v, its[i]? = some x → vs[i]? = some v → VR h ρ σ x v) → VR h ρ σ (.lst its) (.ref a)
  | dicI {a : Addr} {es : List (Int × AV)} {kvs : List (Int × Value)} {ep : Nat} : h.DictAt (intKind prog w) a kvs ep → Unt ρ σ a → (a == sysModules) = false → es.length = kvs.length → (∀ (i : Nat) x v, es[i]? = some x → kvs[i]? = some v → x.1 = v.1) → (∀ (i : Nat) x v, es[i]? = some x → kvs[i]? = some v → VR h ρ σ x.2 v.2) → VR h ρ σ (.dicI es) (.ref a)
  | dicS {a : Addr} {es : List (Str × AV)} {kvs : List (Str × Value)} {ep : Nat} : h.DictAt (strKind prog w) a kvs ep → Unt ρ σ a → (a == sysModules) = false → es.length = kvs.length → (∀ (i : Nat) x v, es[i]? = some x → kvs[i]? = some v → x.1 = v.1) → (∀ (i : Nat) x v, es[i]? = some x → kvs[i]? = some v → VR h ρ σ x.2 v.2) → VR h ρ σ (.dicS es) (.ref a)
  | ins {a dx C : Addr} {fs : List (Str × AV)} {es : List DictEntry} {m : Nat} (g : Str → Value) : h.get? a = some ⟨.ref C, some dx, .plain, #[]⟩ → Unt ρ σ a → h.get? dx = some (dictOf es m) → Unt ρ σ dx →
      (∀ x, fs.lookup x = Option.none → getL x es = some Option.none) →
      (∀ x y, fs.lookup x = some y → getL x es = some (some (g x)) ∧ handedIn (g x) = true) → (∀ x y, fs.lookup x = some y → VR h ρ σ y (g x)) → VR h ρ σ (.ins C fs) (.ref a)
  | rng {a : Addr} {lo hi : Int} {t u v : Tok} : IsRange h a lo hi 1 t u v → Unt ρ σ a → VR h ρ σ (.rng lo hi) (.ref a)
  | itI {a d : Addr} {es : List (Int × AV)} {kvs : List (Int × Value)} {ep : Nat} : h.IsItemsView a d → Unt ρ σ a → h.DictAt (intKind prog w) d kvs ep → Unt ρ σ d → (d == sysModules) = false → es.length = kvs.length → (∀ (i : Nat) x v, es[i]? = some x → kvs[i]? = some v → x.1 = v.1) → (∀ (i : Nat) x v, es[i]? = some x → kvs[i]? = some v → VR h ρ σ x.2 v.2) → VR h ρ σ (.itI es) (.ref a)
  | vaI {a d : Addr} {es : List (Int × AV)} {kvs : List (Int × Value)} {ep : Nat} : h.IsValuesView a d → Unt ρ σ a → h.DictAt (intKind prog w) d kvs ep → Unt ρ σ d → (d == sysModules) = false → es.length = kvs.length → (∀ (i : Nat) x v, es[i]? = some x → kvs[i]? = some v → x.1 = v.1) → (∀ (i : Nat) x v, es[i]? = some x → kvs[i]? = some v → VR h ρ σ x.2 v.2) → VR h ρ σ (.vaI es) (.ref a)
  | nlist {a : Addr} {vs : List Value} {ns : List Int} : h.IsList a vs.toArray → Unt ρ σ a → PyProof.Rows.IntsAre vs ns → ns.length ≤ 1000 → VR h ρ σ (.nlist ns) (.ref a)

/-- what an object of the model's says of the abstract one -/
inductive OR (h : Heap) (ρ : Nat → Addr) (σ : St) : AO → Obj → Prop
  | ns {loc : List (Str × AV)} {o : Obj} {es : Array DictEntry} {ep : Nat} : o.data = .dict es ep → StrKeys es → (∀ x y, loc.lookup x = some y → ∃ v, nsFind es x = some v ∧ VR prog w θ h ρ σ y v) → OR h ρ σ (.ns loc) o
  | cell0 {o : Obj} : o.data = .cell .none → OR h ρ σ (.cell .none) o
  | cell1 {o : Obj} {y : AV} {v : Value} : o.data = .cell (some v) → VR prog w θ h ρ σ y v → OR h ρ σ (.cell (some y)) o
  | list {its : List AV} {vs : List Value} {k : Nat} : its.length = vs.length → (∀ (i : Nat) x v, its[i]? = some x → vs[i]? = some v → VR prog w θ h ρ σ x v) → OR h ρ σ (.list its) { cls := .type "list", data := .seq vs.toArray k }
  | acc {its : List AV} {vs : List Value} {k m : Nat} {dx : Addr} {es : List DictEntry} : its.length = vs.length → (∀ (i : Nat) x v, its[i]? = some x → vs[i]? = some v → VR prog w θ h ρ σ x v) →
      h.get? dx = some (dictOf es m) → Unt ρ σ dx → (∀ x : Str, x ≠ "_initial_size" → getL x es = some Option.none) → OR h ρ σ (.acc its) ⟨.ref 122, some dx, .seq vs.toArray k, #[]⟩
  | dic {es : List (Int × AV)} {kvs : List (Int × Value)} {o : Obj} {ds : Array DictEntry} {ep : Nat} : o.ExactDict → o.data = .dict ds ep → KeysOf (intKind prog w) ds → Pairs (intKind prog w) ds.toList kvs → (kvs.map (·.1)).Nodup →
      es.length = kvs.length → (∀ (i : Nat) x v, es[i]? = some x → kvs[i]? = some v → x.1 = v.1 ∧ VR prog w θ h ρ σ x.2 v.2) → OR h ρ σ (.dic es) o
end

section
variable {prog : Program} {w : World} {θ : Nat → Int} {h h' : Heap} {ρ ρ' : Nat → Addr} {σ σ' : St}

/-- how far the ground may move under values -/
structure Mono (h : Heap) (ρ : Nat → Addr) (σ : St) (h' : Heap) (ρ' : Nat → Addr) (σ' : St) : Prop where
  n : σ.n ≤ σ'.n
  ext : ∀ i, i < σ.n → ρ' i = ρ i
  kept : ∀ b o, h.get? b = some o → Unt ρ σ b → notIt o = true → h'.get? b = some o
  unt : ∀ b o, h.get? b = some o → Unt ρ σ b → Unt ρ' σ' b
theorem VR.mono (M : Mono h ρ σ h' ρ' σ') {x : AV} {v : Value} (V : VR prog w θ h ρ σ x v) : VR prog w θ h' ρ' σ' x v := by
  induction V with
  | none => exact .none
  | bool b => exact .bool b
  | int e t => exact .int e t
  | str s t => exact .str s t
  | val v => exact .val v
  | ref i hi => rw [← M.ext i hi]; exact .ref i (Nat.lt_of_lt_of_le hi M.n)
  | tup ht hu hl _ ih =>
    obtain ⟨o, ho, hc, r⟩ := ht
    exact .tup ⟨o, M.kept _ _ ho hu (by unfold notIt; rw [hc]; decide), hc, r⟩ (M.unt _ _ ho hu) hl ih
  | lst ht hu hl _ ih =>
    obtain ⟨o, ho, hc, r⟩ := ht
    exact .lst ⟨o, M.kept _ _ ho hu (by unfold notIt; rw [hc]; decide), hc, r⟩ (M.unt _ _ ho hu) hl ih
  | dicI ht hu hsm hl hk _ ih =>
    obtain ⟨o, es, ho, hx, r⟩ := ht
    exact .dicI ⟨o, es, M.kept _ _ ho hu (by unfold notIt; rw [hx.1]; decide), hx, r⟩ (M.unt _ _ ho hu) hsm hl hk ih
  | dicS ht hu hsm hl hk _ ih =>
    obtain ⟨o, es, ho, hx, r⟩ := ht
    exact .dicS ⟨o, es, M.kept _ _ ho hu (by unfold notIt; rw [hx.1]; decide), hx, r⟩ (M.unt _ _ ho hu) hsm hl hk ih
  | ins g ho hu hd hud hn hg _ ih => exact .ins g (M.kept _ _ ho hu rfl) (M.unt _ _ ho hu) (M.kept _ _ hd hud (by show notIt (dictOf _ _) = true; unfold notIt; exact (by decide : (!((["list_iterator", "tuple_iterator", "range_iterator", "dict_itemiterator", "dict_valueiterator", "enumerate"] : List String).contains "dict")) = true))) (M.unt _ _ hd hud) hn hg ih
  | rng hr hu =>
    exact .rng (M.kept _ _ hr hu (by unfold notIt; exact (by decide : (!(["list_iterator", "tuple_iterator", "range_iterator", "dict_itemiterator", "dict_valueiterator", "enumerate"] : List String).contains "range") = true))) (M.unt _ _ hr hu)
  | itI hv huv ht hu hsm hl hk _ ih =>
    obtain ⟨o, es, ho, hx, r⟩ := ht
    obtain ⟨ov, hov, hc, rv⟩ := hv
    exact .itI ⟨ov, M.kept _ _ hov huv (by unfold notIt; rw [hc]; decide), hc, rv⟩ (M.unt _ _ hov huv) ⟨o, es, M.kept _ _ ho hu (by unfold notIt; rw [hx.1]; decide), hx, r⟩ (M.unt _ _ ho hu) hsm hl hk ih
  | vaI hv huv ht hu hsm hl hk _ ih =>
    obtain ⟨o, es, ho, hx, r⟩ := ht
    obtain ⟨ov, hov, hc, rv⟩ := hv
    exact .vaI ⟨ov, M.kept _ _ hov huv (by unfold notIt; rw [hc]; decide), hc, rv⟩ (M.unt _ _ hov huv) ⟨o, es, M.kept _ _ ho hu (by unfold notIt; rw [hx.1]; decide), hx, r⟩ (M.unt _ _ ho hu) hsm hl hk ih
  | nlist ht hu hi hz =>
    obtain ⟨o, ho, hc, r⟩ := ht
    exact .nlist ⟨o, M.kept _ _ ho hu (by unfold notIt; rw [hc]; decide), hc, r⟩ (M.unt _ _ ho hu) hi hz
theorem OR.mono (M : Mono h ρ σ h' ρ' σ') {x : AO} {o : Obj} (V : OR prog w θ h ρ σ x o) : OR prog w θ h' ρ' σ' x o := by
  cases V with
  | ns hd hk hl => exact .ns hd hk fun x y e => let ⟨v, a, b⟩ := hl x y e; ⟨v, a, b.mono M⟩
  | cell0 e => exact .cell0 e
  | cell1 e r => exact .cell1 e (r.mono M)
  | list hl hv => exact .list hl fun i x v a b => (hv i x v a b).mono M
  | acc hl hv hd hu hg => exact .acc hl (fun i x v a b => (hv i x v a b).mono M) (M.kept _ _ hd hu (by show notIt (dictOf _ _) = true; unfold notIt; exact (by decide : (!((["list_iterator", "tuple_iterator", "range_iterator", "dict_itemiterator", "dict_valueiterator", "enumerate"] : List String).contains "dict")) = true))) (M.unt _ _ hd hu) hg
  | dic a b c d e hl hv => exact .dic a b c d e hl fun i x v p q => ⟨(hv i x v p q).1, (hv i x v p q).2.mono M⟩

theorem Mono.refl (h : Heap) (ρ : Nat → Addr) (σ : St) : Mono h ρ σ h ρ σ := ⟨Nat.le_refl _, fun _ _ => rfl, fun _ _ e _ _ => e, fun _ _ _ u => u⟩
end
end Mine
end

section
open PySem PySem.Spec PySem.Calls PyProof.Rows PySem.W
set_option Elab.async false
namespace Mine
universe uNo
theorem no {α : Type uNo} {x : α} {P : Prop} (h : (none : Option α) = some x) : P := by cases h
theorem noB {P : Prop} (h : false = true) : P := Bool.noConfusion h
theorem noB' {P : Prop} (h : true = false) : P := Bool.noConfusion h

structure Rel (prog : Program) (w : World) (θ : Nat → Int) (h₀ : Heap) (ρ : Nat → Addr) (σ : St) (h : Heap) : Prop where
  ob : ∀ i o, σ.get i = some o → i < σ.n ∧ ∃ co, h.get? (ρ i) = some co ∧ OR prog w θ h ρ σ o co
  nw : ∀ i o, σ.get i = some o → o.isNs = false → h₀.get? (ρ i) = none
  inj : ∀ i j o o', σ.get i = some o → σ.get j = some o' → ρ i = ρ j → i = j
  base : ∀ b o, h₀.get? b = some o → h.get? b = some o

/-- a move: from s to s' the untracked objects stay, the ground is told -/
structure Mv (prog : Program) (w : World) (θ : Nat → Int) (h₀ : Heap) (ρ : Nat → Addr) (σ : St) (s : Shared) (ρ' : Nat → Addr) (σ' : St) (s' : Shared) : Prop where
  n : σ.n ≤ σ'.n
  ext : ∀ i, i < σ.n → ρ' i = ρ i
  live : ∀ i o, σ'.get i = some o → (∃ o', σ.get i = some o') ∨ (σ.n ≤ i ∧ s.heap.get? (ρ' i) = none)
  ex : ∀ b o, s.heap.get? b = some o → ∃ o', s'.heap.get? b = some o'
  kept : ∀ b o, s.heap.get? b = some o → Unt ρ σ b → s'.heap.get? b = some o
  rest : ∃ h tk, s' = { s with heap := h, toks := tk }
  rel : Rel prog w θ h₀ ρ' σ' s'.heap

section
variable {prog : Program} {w : World} {θ : Nat → Int} {h₀ : Heap} {ρ ρ' ρ'' : Nat → Addr} {σ σ' σ'' : St} {s s' s'' : Shared}

theorem Mv.mono (R : Rel prog w θ h₀ ρ σ s.heap) (m : Mv prog w θ h₀ ρ σ s ρ' σ' s') : Mono s.heap ρ σ s'.heap ρ' σ' :=
  ⟨m.n, m.ext, fun b o e u _ => m.kept b o e u, fun b o e u i o' g q => by
    rcases m.live i o' g with ⟨o₁, g₁⟩ | ⟨_, e₁⟩
    · exact u i o₁ g₁ (by rw [← m.ext i (R.ob i o₁ g₁).1]; exact q)
    · rw [q, e] at e₁; cases e₁⟩
theorem Mv.vr (R : Rel prog w θ h₀ ρ σ s.heap) (m : Mv prog w θ h₀ ρ σ s ρ' σ' s') {x : AV} {v : Value} (V : VR prog w θ s.heap ρ σ x v) : VR prog w θ s'.heap ρ' σ' x v := V.mono (m.mono R)
theorem Mv.refl (R : Rel prog w θ h₀ ρ σ s.heap) : Mv prog w θ h₀ ρ σ s ρ σ s :=
  ⟨Nat.le_refl _, fun _ _ => rfl, fun _ o g => .inl ⟨o, g⟩, fun _ o e => ⟨o, e⟩, fun _ _ e _ => e, ⟨_, _, rfl⟩, R⟩
theorem Mv.trans (R : Rel prog w θ h₀ ρ σ s.heap) (m : Mv prog w θ h₀ ρ σ s ρ' σ' s') (m' : Mv prog w θ h₀ ρ' σ' s' ρ'' σ'' s'') : Mv prog w θ h₀ ρ σ s ρ'' σ'' s'' where
  n := Nat.le_trans m.n m'.n
  ext := fun i hi => (m'.ext i (Nat.lt_of_lt_of_le hi m.n)).trans (m.ext i hi)
  live := fun i o g => by
    rcases m'.live i o g with ⟨o₁, g₁⟩ | ⟨hn, e₁⟩
    · rcases m.live i o₁ g₁ with q | ⟨hn, e₂⟩
      · exact .inl q
      · exact .inr ⟨hn, by rw [m'.ext i (m.rel.ob i o₁ g₁).1]; exact e₂⟩
    · refine .inr ⟨Nat.le_trans m.n hn, ?_⟩
      cases q : s.heap.get? (ρ'' i) with
      | none => rfl
      | some o' =>
        obtain ⟨o₂, e₂⟩ := m.ex _ _ q
        rw [e₁] at e₂; cases e₂
  ex := fun b o e => by
    obtain ⟨o₁, e₁⟩ := m.ex b o e
    exact m'.ex b o₁ e₁
  kept := fun b o e u => m'.kept b o (m.kept b o e u) ((m.mono R).unt b o e u)
  rest := by
    obtain ⟨h, tk, e⟩ := m.rest
    obtain ⟨h', tk', e'⟩ := m'.rest
    exact ⟨h', tk', by rw [e', e]⟩
  rel := m'.rel

/-- garbage and tokens -/
theorem Mv.heap (R : Rel prog w θ h₀ ρ σ s.heap) {h' : Heap} {tk : Nat} (hk : ∀ b o, s.heap.get? b = some o → h'.get? b = some o) : Mv prog w θ h₀ ρ σ s ρ σ { s with heap := h', toks := tk } where
  n := Nat.le_refl _
  ext := fun _ _ => rfl
  live := fun _ o g => .inl ⟨o, g⟩
  ex := fun _ o e => ⟨o, hk _ _ e⟩
  kept := fun _ _ e _ => hk _ _ e
  rest := ⟨_, _, rfl⟩
  rel := ⟨fun i o g => by
      obtain ⟨hi, co, e, r⟩ := R.ob i o g
      exact ⟨hi, co, hk _ _ e, r.mono ⟨Nat.le_refl _, fun _ _ => rfl, fun _ _ e _ _ => hk _ _ e, fun _ _ _ u => u⟩⟩, R.nw, R.inj, fun b o e => hk _ _ (R.base b o e)⟩
theorem Mv.toks (R : Rel prog w θ h₀ ρ σ s.heap) {tk : Nat} : Mv prog w θ h₀ ρ σ s ρ σ { s with toks := tk } := Mv.heap (h' := s.heap) R fun _ _ e => e

/-- one live object turned -/
theorem Mv.put (R : Rel prog w θ h₀ ρ σ s.heap) {h' : Heap} {tk : Nat} {i : Nat} {o o' : AO} {co : Obj} (g : σ.get i = some o) (hn : h₀.get? (ρ i) = none)
    (hk : ∀ b o, b ≠ ρ i → s.heap.get? b = some o → h'.get? b = some o) (e : h'.get? (ρ i) = some co) (r : OR prog w θ s.heap ρ σ o' co) : Mv prog w θ h₀ ρ σ s ρ (σ.put i o') { s with heap := h', toks := tk } := by
  have lv : ∀ j o₁, (σ.put i o').get j = some o₁ → ∃ o₂, σ.get j = some o₂ := fun j o₁ q => by
    rw [St.get_put] at q
    by_cases hij : i = j
    · subst hij; exact ⟨o, g⟩
    · rw [if_neg hij] at q; exact ⟨_, q⟩
  have M : Mono s.heap ρ σ h' ρ (σ.put i o') := ⟨Nat.le_refl _, fun _ _ => rfl, fun b o₁ q u _ => hk b o₁ (fun z => u i o g z.symm) q, fun b o₁ q u j o₂ gj => by
    obtain ⟨o₃, g₃⟩ := lv j o₂ gj
    exact u j o₃ g₃⟩
  refine ⟨Nat.le_refl _, fun _ _ => rfl, fun j o₁ q => .inl (lv j o₁ q), fun b o₁ q => ?_, fun b o₁ q u => hk b o₁ (fun z => u i o g z.symm) q, ⟨_, _, rfl⟩, ⟨fun j o₁ q => ?_, fun j o₁ q z => ?_, fun j k o₁ o₂ p q z => ?_, fun b o₁ q => ?_⟩⟩
  · by_cases hb : b = ρ i
    · exact ⟨co, hb ▸ e⟩
    · exact ⟨o₁, hk b o₁ hb q⟩
  · rw [St.get_put] at q
    by_cases hij : i = j
    · subst hij
      rw [if_pos rfl] at q
      cases q
      exact ⟨(R.ob i o g).1, co, e, r.mono M⟩
    · rw [if_neg hij] at q
      obtain ⟨hj, cj, ej, rj⟩ := R.ob j o₁ q
      exact ⟨hj, cj, hk _ _ (fun z => hij (R.inj i j o o₁ g q z.symm)) ej, rj.mono M⟩
  · rw [St.get_put] at q
    by_cases hij : i = j
    · subst hij; exact hn
    · rw [if_neg hij] at q; exact R.nw j o₁ q z
  · obtain ⟨_, g₁⟩ := lv j o₁ p
    obtain ⟨_, g₂⟩ := lv k o₂ q
    exact R.inj j k _ _ g₁ g₂ z
  · exact hk b o₁ (fun z => by rw [z, hn] at q; cases q) (R.base b o₁ q)

/-- a new live object -/
theorem Mv.new (R : Rel prog w θ h₀ ρ σ s.heap) {h' : Heap} {tk : Nat} {a : Addr} {o' : AO} {co : Obj} (ha : s.heap.get? a = none)
    (hk : ∀ b o, s.heap.get? b = some o → h'.get? b = some o) (e : h'.get? a = some co) (r : OR prog w θ s.heap ρ σ o' co) :
    Mv prog w θ h₀ ρ σ s (fun i => if i = σ.n then a else ρ i) (σ.new o') { s with heap := h', toks := tk } := by
  have lt : ∀ j o₁, σ.get j = some o₁ → j ≠ σ.n := fun j o₁ q => Nat.ne_of_lt (R.ob j o₁ q).1
  have M : Mono s.heap ρ σ h' (fun i => if i = σ.n then a else ρ i) (σ.new o') := ⟨Nat.le_succ _, fun i hi => if_neg (Nat.ne_of_lt hi), fun b o₁ q _ _ => hk b o₁ q, fun b o₁ q u j o₂ gj z => by
    rw [St.get_new] at gj
    by_cases hj : σ.n = j
    · subst hj
      have z' : a = b := by simpa using z
      rw [← z', ha] at q; cases q
    · rw [if_neg hj] at gj
      exact u j o₂ gj (by simpa [Ne.symm hj] using z)⟩
  refine ⟨Nat.le_succ _, M.ext, fun j o₁ q => ?_, fun b o₁ q => ⟨o₁, hk b o₁ q⟩, fun b o₁ q _ => hk b o₁ q, ⟨_, _, rfl⟩, ⟨fun j o₁ q => ?_, fun j o₁ q z => ?_, fun j k o₁ o₂ p q z => ?_, fun b o₁ q => hk b o₁ (R.base b o₁ q)⟩⟩
  · rw [St.get_new] at q
    by_cases hj : σ.n = j
    · subst hj; exact .inr ⟨Nat.le_refl _, by simpa using ha⟩
    · rw [if_neg hj] at q; exact .inl ⟨_, q⟩
  · rw [St.get_new] at q
    by_cases hj : σ.n = j
    · subst hj
      rw [if_pos rfl] at q
      cases q
      exact ⟨Nat.lt_succ_self _, co, by simpa using e, r.mono M⟩
    · rw [if_neg hj] at q
      obtain ⟨hl, cj, ej, rj⟩ := R.ob j o₁ q
      exact ⟨Nat.lt_succ_of_lt hl, cj, by simpa [Ne.symm hj] using hk _ _ ej, rj.mono M⟩
  · rw [St.get_new] at q
    by_cases hj : σ.n = j
    · subst hj
      show h₀.get? (if σ.n = σ.n then a else ρ σ.n) = none
      rw [if_pos rfl]
      cases y : h₀.get? a with
      | none => rfl
      | some o₂ => rw [R.base _ _ y] at ha; cases ha
    · rw [if_neg hj] at q
      show h₀.get? (if j = σ.n then a else ρ j) = none
      rw [if_neg (Ne.symm hj)]
      exact R.nw j o₁ q z
  · rw [St.get_new] at p q
    have z' : (if j = σ.n then a else ρ j) = (if k = σ.n then a else ρ k) := z
    by_cases hj : σ.n = j
    · by_cases hk' : σ.n = k
      · exact hj.symm.trans hk'
      · exfalso
        rw [if_neg hk'] at q
        rw [if_pos hj.symm, if_neg (Ne.symm hk')] at z'
        obtain ⟨_, ck, ek, _⟩ := R.ob k o₂ q
        rw [← z', ha] at ek; cases ek
    · by_cases hk' : σ.n = k
      · exfalso
        rw [if_neg hj] at p
        rw [if_pos hk'.symm, if_neg (Ne.symm hj)] at z'
        obtain ⟨_, cj, ej, _⟩ := R.ob j o₁ p
        rw [z', ha] at ej; cases ej
      · rw [if_neg hj] at p
        rw [if_neg hk'] at q
        rw [if_neg (Ne.symm hj), if_neg (Ne.symm hk')] at z'
        exact R.inj j k _ _ p q z'

theorem Mv.del (R : Rel prog w θ h₀ ρ σ s.heap) (i : Nat) : Mv prog w θ h₀ ρ σ s ρ (σ.del i) s := by
  have lv : ∀ j o₁, (σ.del i).get j = some o₁ → σ.get j = some o₁ := fun j o₁ q => by
    rw [St.get_del] at q
    by_cases hij : i = j
    · rw [if_pos hij] at q; cases q
    · rw [if_neg hij] at q; exact q
  have M : Mono s.heap ρ σ s.heap ρ (σ.del i) := ⟨Nat.le_refl _, fun _ _ => rfl, fun _ _ e _ _ => e, fun b o₁ q u j o₂ gj => u j o₂ (lv j o₂ gj)⟩
  exact ⟨Nat.le_refl _, fun _ _ => rfl, fun j o₁ q => .inl ⟨_, lv j o₁ q⟩, fun b o₁ q => ⟨_, q⟩, fun _ _ e _ => e, ⟨_, _, rfl⟩,
    ⟨fun j o₁ q => let ⟨a, co, b, c⟩ := R.ob j o₁ (lv j o₁ q); ⟨a, co, b, c.mono M⟩, fun j o₁ q => R.nw j o₁ (lv j o₁ q), fun j k o₁ o₂ p q => R.inj j k o₁ o₂ (lv j o₁ p) (lv k o₂ q), R.base⟩⟩
/-- the place of a released object is nobody's -/
theorem Rel.unt_del (R : Rel prog w θ h₀ ρ σ s.heap) {i : Nat} {o : AO} (g : σ.get i = some o) : Unt ρ (σ.del i) (ρ i) := fun j o₁ q z => by
  rw [St.get_del] at q
  by_cases hij : i = j
  · rw [if_pos hij] at q; cases q
  · rw [if_neg hij] at q
    exact hij (R.inj j i o₁ o q g z).symm
/-- what is not there yet is nobody's -/
theorem Rel.unt_new (R : Rel prog w θ h₀ ρ σ s.heap) {a : Addr} (h : s.heap.get? a = none) : Unt ρ σ a := fun j o₁ q z => by
  obtain ⟨_, co, e, _⟩ := R.ob j o₁ q
  rw [z, h] at e; cases e
theorem Rel.unt_size (R : Rel prog w θ h₀ ρ σ s.heap) : Unt ρ σ s.heap.objs.size := fun j o₁ q z => by
  obtain ⟨_, co, e, _⟩ := R.ob j o₁ q
  exact absurd (Heap.lt_size e) (by rw [z]; exact Nat.lt_irrefl _)

/-- an iterator's own turn -/
theorem Mv.touch (R : Rel prog w θ h₀ ρ σ s.heap) (m : Mv prog w θ h₀ ρ σ s ρ' σ' s') {I : Addr} {oi : Obj} {h' : Heap} {tk : Nat} (hI : s.heap.get? I = none) (hoi : s'.heap.get? I = some oi) (hn : notIt oi = false) (hu : Unt ρ' σ' I)
    (hk : ∀ b o, b ≠ I → s'.heap.get? b = some o → h'.get? b = some o) : Mv prog w θ h₀ ρ σ s ρ' σ' { s' with heap := h', toks := tk } := by
  have M : Mono s'.heap ρ' σ' h' ρ' σ' := ⟨Nat.le_refl _, fun _ _ => rfl, fun b o e _ z => hk b o (fun q => by subst q; rw [hoi] at e; cases e; rw [hn] at z; cases z) e, fun _ _ _ u => u⟩
  refine ⟨m.n, m.ext, m.live, fun b o e => ?_, fun b o e u => ?_, ?_, ⟨fun i o g => ?_, m.rel.nw, m.rel.inj, fun b o e => ?_⟩⟩
  · obtain ⟨o₁, e₁⟩ := m.ex b o e
    exact ⟨o₁, hk b o₁ (fun q => by subst q; rw [hI] at e; cases e) e₁⟩
  · exact hk b o (fun q => by subst q; rw [hI] at e; cases e) (m.kept b o e u)
  · obtain ⟨h, t, e⟩ := m.rest
    exact ⟨h', tk, by rw [e]⟩
  · obtain ⟨hi, co, e, r⟩ := m.rel.ob i o g
    exact ⟨hi, co, hk _ _ (hu i o g) e, r.mono M⟩
  · exact hk b o (fun q => by subst q; rw [R.base _ _ e] at hI; cases hI) (m.rel.base b o e)
end
end Mine
end

section
open PySem PySem.Spec PySem.Calls PyProof.Rows PySem.W
set_option Elab.async false
set_option genInjectivity false
set_option genSizeOf false
namespace Mine

structure Ctx where
  sc : Scope
  fid : Nat
  lid : Nat
  cells : List (Str × Nat)
inductive AFl where
  | next
  | ret (v : AV)
inductive Src where
  | lst (its : List AV)
  | tup (its : List AV)
  | rng (lo : Int) (n : Nat)
  | itI (es : List (Int × AV))
  | vaI (es : List (Int × AV))
  | acc (i : Nat)
structure Fns where
  ev : Ctx → Expr → St → Option (AV × St)
  ex : Ctx → List Stmt → St → Option (AFl × St)
  call : Ctx → Addr → List AV → St → Option (AV × St)
  ts : Ctx → Expr → St → Option (Bool × St)

structure FI where
  fd : FuncData
  names : List Str
  body : List Stmt

noncomputable def strEq (x y : Str) : Bool := PySem.W.Fast.lEq x.cps.toList y.cps.toList
theorem strEq_eq (x y : Str) : strEq x y = (x == y) := by
  cases h : x == y with
  | true =>
    rw [beq_iff_eq.mp h]
    exact PySem.W.Fast.lEq_iff.mpr rfl
  | false =>
    refine Bool.eq_false_iff.mpr fun e => ?_
    have q := PySem.W.Fast.lEq_iff.mp e
    have : x = y := by
      obtain ⟨⟨a⟩⟩ := x
      obtain ⟨⟨b⟩⟩ := y
      cases q
      rfl
    rw [this, beq_self_eq_true] at h
    exact noB' h
noncomputable def lookS {α : Type} (l : List (Str × α)) (x : Str) : Option α := @List.rec (Str × α) (fun _ => Option α) none (fun p _ ih => @Bool.rec (fun _ => Option α) ih (some p.2) (strEq x p.1)) l
theorem lookS_eq {α : Type} (l : List (Str × α)) (x : Str) : lookS l x = l.lookup x := by
  induction l with
  | nil => rfl
  | cons p r ih =>
    show @Bool.rec (fun _ => Option α) (lookS r x) (some p.2) (strEq x p.1) = _
    rw [List.lookup_cons, strEq_eq, ih]
    cases x == p.1 <;> rfl
noncomputable def setL (l : List (Str × AV)) (x : Str) (v : AV) : List (Str × AV) := @List.rec (Str × AV) (fun _ => List (Str × AV)) [(x, v)] (fun p r ih => @Bool.rec (fun _ => List (Str × AV)) (p :: ih) ((p.1, v) :: r) (strEq x p.1)) l
theorem setL_cons (p : Str × AV) (r : List (Str × AV)) (x : Str) (v : AV) : setL (p :: r) x v = if x == p.1 then (p.1, v) :: r else p :: setL r x v := by
  show @Bool.rec (fun _ => List (Str × AV)) (p :: setL r x v) ((p.1, v) :: r) (strEq x p.1) = _
  rw [strEq_eq]
  cases x == p.1 <;> rfl
noncomputable def iConst : IE → Option Int
  | .c n => some n
  | _ => .none
noncomputable def Ctx.kind (c : Ctx) (x : Str) : Option NameKind := lookS c.sc.names x

noncomputable def intE (v : AV) : Option IE := match v with
  | .int x => some x
  | _ => .none
theorem intE_eq {v : AV} {x : IE} (h : intE v = some x) : v = .int x := by
  cases v with
  | int y => cases h; rfl
  | _ => exact no h
theorem iConst_eq {x : IE} {n : Int} (e : iConst x = some n) : x = .c n := by
  cases x with
  | c m => cases e; rfl
  | _ => exact no e
noncomputable def intK (v : AV) : Option Int := (intE v).bind iConst
theorem intK_eq {v : AV} {n : Int} (h : intK v = some n) : v = .int (.c n) := by
  cases v with
  | int y => rw [iConst_eq h]
  | _ => exact no h
noncomputable def insV (v : AV) : Option (Addr × List (Str × AV)) := match v with
  | .ins C fs => some (C, fs)
  | _ => .none
theorem insV_eq {v : AV} {C : Addr} {fs : List (Str × AV)} (h : insV v = some (C, fs)) : v = .ins C fs := by
  cases v with
  | ins D gs => cases h; rfl
  | _ => exact no h
noncomputable def listV (σ : St) (i : Nat) : Option (List AV) := match σ.get i with
  | some o => match o with
    | .list l => some l
    | _ => .none
  | .none => .none
theorem listV_eq {σ : St} {i : Nat} {l : List AV} (h : listV σ i = some l) : σ.get i = some (.list l) := by
  unfold listV at h
  generalize σ.get i = x at h
  cases x with
  | none => exact no h
  | some o => cases o with
    | list k => cases h; rfl
    | _ => exact no h
noncomputable def dicV (σ : St) (i : Nat) : Option (List (Int × AV)) := match σ.get i with
  | some o => match o with
    | .dic l => some l
    | _ => .none
  | .none => .none
theorem dicV_eq {σ : St} {i : Nat} {l : List (Int × AV)} (h : dicV σ i = some l) : σ.get i = some (.dic l) := by
  unfold dicV at h
  generalize σ.get i = x at h
  cases x with
  | none => exact no h
  | some o => cases o with
    | dic k => cases h; rfl
    | _ => exact no h
noncomputable def store (c : Ctx) (x : Str) (v : AV) (σ : St) : Option St := match c.kind x with
  | some .local => match σ.get c.lid with
    | some (.ns loc) => some (σ.put c.lid (.ns (setL loc x v)))
    | _ => .none
  | some .cell => match lookS c.cells x with
    | some i => match σ.get i with
      | some (.cell _) => some (σ.put i (.cell (some v)))
      | _ => .none
    | .none => .none
  | _ => .none
/-- an expression's shape -/
inductive Sh where
  | con (v : Const)
  | name (x : Str)
  | bin (l : Expr) (op : Operator) (r : Expr)
  | un (op : UnaryOp) (x : Expr)
  | cmp (l : Expr) (ops : List CmpOp) (rs : List Expr)
  | ite (t b o : Expr)
  | tup (es : List Expr)
  | lst (es : List Expr)
  | dict (ks : List (Option Expr)) (vs : List Expr)
  | sub (o i : Expr)
  | attr (o : Expr) (x : Str) (p : Pos)
  | call (f : Expr) (as : List Expr) (ks : List Keyword) (p : Pos)
  | lcomp (elt : Expr) (gs : List Comprehension) (sc : Scope)
  | dcomp (ke ve : Expr) (gs : List Comprehension) (sc : Scope)
  | slice (lo hi st : Option Expr)
  | bool (op : BoolOp) (vs : List Expr)
  | other
noncomputable def view (e : Expr) : Sh := match e with
  | .Constant v _ _ => .con v
  | .Name x _ => .name x
  | .BinOp l op r _ => .bin l op r
  | .UnaryOp op x _ => .un op x
  | .Compare l ops rs _ => .cmp l ops rs
  | .IfExp t b o _ => .ite t b o
  | .Tuple es _ _ => .tup es
  | .List es _ => .lst es
  | .Dict ks vs _ => .dict ks vs
  | .Subscript o i _ => .sub o i
  | .Attribute o x p => .attr o x p
  | .Call f as ks p => .call f as ks p
  | .ListComp elt gs sc _ => .lcomp elt gs sc
  | .DictComp ke ve gs sc _ => .dcomp ke ve gs sc
  | .Slice lo hi st _ => .slice lo hi st
  | .BoolOp op vs _ => .bool op vs
  | _ => .other
noncomputable def Vw (e : Expr) (v : Sh) : Prop := match v with
  | .con v => ∃ k p, e = .Constant v k p
  | .name x => ∃ p, e = .Name x p
  | .bin l op r => ∃ p, e = .BinOp l op r p
  | .un op x => ∃ p, e = .UnaryOp op x p
  | .cmp l ops rs => ∃ p, e = .Compare l ops rs p
  | .ite t b o => ∃ p, e = .IfExp t b o p
  | .tup es => ∃ k p, e = .Tuple es k p
  | .lst es => ∃ p, e = .List es p
  | .dict ks vs => ∃ p, e = .Dict ks vs p
  | .sub o i => ∃ p, e = .Subscript o i p
  | .attr o x p => e = .Attribute o x p
  | .call f as ks p => e = .Call f as ks p
  | .lcomp elt gs sc => ∃ p, e = .ListComp elt gs sc p
  | .dcomp ke ve gs sc => ∃ p, e = .DictComp ke ve gs sc p
  | .slice lo hi st => ∃ p, e = .Slice lo hi st p
  | .bool op vs => ∃ p, e = .BoolOp op vs p
  | .other => True
theorem view_ok (e : Expr) : Vw e (view e) := by
  cases e with
  | Constant v k p => exact ⟨k, p, rfl⟩
  | Name x p => exact ⟨p, rfl⟩
  | BinOp l op r p => exact ⟨p, rfl⟩
  | UnaryOp op x p => exact ⟨p, rfl⟩
  | Compare l ops rs p => exact ⟨p, rfl⟩
  | IfExp t b o p => exact ⟨p, rfl⟩
  | Tuple es k p => exact ⟨k, p, rfl⟩
  | List es p => exact ⟨p, rfl⟩
  | Dict ks vs p => exact ⟨p, rfl⟩
  | Subscript o i p => exact ⟨p, rfl⟩
  | Attribute o x p => exact rfl
  | Call f as ks p => exact rfl
  | ListComp elt gs sc p => exact ⟨p, rfl⟩
  | DictComp ke ve gs sc p => exact ⟨p, rfl⟩
  | Slice lo hi st p => exact ⟨p, rfl⟩
  | BoolOp op vs p => exact ⟨p, rfl⟩
  | _ => exact trivial
noncomputable def nameOf (e : Expr) : Option Str := match view e with
  | .name x => some x
  | _ => .none
theorem nameOf_some {e : Expr} {x : Str} (h : nameOf e = some x) : ∃ p, e = .Name x p := by
  have hv := view_ok e
  unfold nameOf at h
  generalize view e = v at h hv
  cases v with
  | name y => cases h; exact hv
  | _ => exact no h
/-- x, where the check holds -/
noncomputable def ok {α : Type} (b : Bool) (x : α) : Option α := match b with
  | true => some x
  | false => .none
theorem ok_eq {α : Type} {b : Bool} {x y : α} (h : ok b x = some y) : b = true ∧ x = y := by
  cases b with
  | true => exact ⟨rfl, Option.some.inj h⟩
  | false => exact no h
theorem okb {α β : Type} {b : Bool} {x : α} {f : α → Option β} {y : β} (h : (ok b x).bind f = some y) : b = true ∧ f x = some y := by
  cases b with
  | true => exact ⟨rfl, h⟩
  | false => exact no h
theorem bndE {α β : Type} {o : Option α} {f : α → Option β} {y : β} (h : o.bind f = some y) : ∃ x, o = some x ∧ f x = some y := by
  cases o with
  | some x => exact ⟨x, rfl, h⟩
  | none => exact no h
noncomputable def b2 {α γ β : Type} (o : Option (α × γ)) (f : α → γ → Option β) : Option β := match o with
  | some p => f p.1 p.2
  | .none => .none
theorem bndP {α γ β : Type} {o : Option (α × γ)} {f : α → γ → Option β} {y : β} (h : b2 o f = some y) : ∃ a c, o = some (a, c) ∧ f a c = some y := by
  cases o with
  | some x => exact ⟨x.1, x.2, rfl, h⟩
  | none => exact no h
theorem mapE {α β : Type} {o : Option α} {f : α → β} {y : β} (h : o.map f = some y) : ∃ x, o = some x ∧ f x = y := by
  cases o with
  | some x => exact ⟨x, rfl, Option.some.inj h⟩
  | none => exact no h
noncomputable def one {α : Type} (l : List α) : Option α := match l with
  | [] => .none
  | a :: r => match r with
    | [] => some a
    | _ :: _ => .none
theorem one_eq {α : Type} {l : List α} {a : α} (h : one l = some a) : l = [a] := by
  cases l with
  | nil => exact no h
  | cons b r => cases r with
    | nil => cases h; rfl
    | cons _ _ => exact no h
theorem notT {b : Bool} (h : (!b) = true) : b = false := by
  cases b with
  | true => exact noB h
  | false => rfl
theorem isEmpty_eq {α : Type} {l : List α} (h : l.isEmpty = true) : l = [] := by
  cases l with
  | nil => rfl
  | cons _ _ => exact noB h
noncomputable def storeEach (c : Ctx) : List Expr → List AV → St → Option St
  | [], [], σ => some σ
  | t :: ts, v :: vs, σ => match nameOf t with
    | .none => .none
    | some x => match store c x v σ with
      | some σ => storeEach c ts vs σ
      | .none => .none
  | _, _, _ => .none
noncomputable def tupV (v : AV) : Option (List AV) := match v with
  | .tup its => some its
  | _ => .none
noncomputable def asg (c : Ctx) (t : Expr) (v : AV) (σ : St) : Option St := match view t with
  | .name x => store c x v σ
  | .tup elts => (tupV v).bind fun its => storeEach c elts its σ
  | _ => .none

noncomputable def isComp (e : Expr) : Bool := Nat.beq e.ctorIdx 8 || Nat.beq e.ctorIdx 9 || Nat.beq e.ctorIdx 10
noncomputable def isDisp (e : Expr) : Bool := Nat.beq e.ctorIdx 25 || Nat.beq e.ctorIdx 24

noncomputable def loadA (gv : Str → Option Value) (c : Ctx) (x : Str) (σ : St) : Option AV := match x == ("__debug__" : Str) || x == ("__classdict__" : Str) with
  | true => .none
  | false => match c.kind x with
    | some .local => match σ.get c.lid with
      | some (.ns loc) => lookS loc x
      | _ => .none
    | some .cell => match lookS c.cells x with
      | some i => match σ.get i with
        | some (.cell (some v)) => some v
        | _ => .none
      | .none => .none
    | some .free => match lookS c.cells x with
      | some i => match σ.get i with
        | some (.cell (some v)) => some v
        | _ => .none
      | .none => .none
    | some .globalImplicit => (gv x).map .val
    | _ => .none

/-- the letters' bound -/
noncomputable def lettersB : Nat := 400
noncomputable def binI (op : Operator) (x y : IE) : Option AV := match op with
  | .Add => some (.int (iAdd x y))
  | .Sub => some (.int (iSub x y))
  | .Mult => if x.bnd lettersB < 2 ^ 63 then some (.int (iMul x y)) else .none
  | _ => .none
noncomputable def isAdd : Operator → Bool
  | .Add => true
  | _ => false
noncomputable def binA (op : Operator) (a b : AV) : Option AV := match a with
  | .int x => match b with
    | .int y => binI op x y
    | _ => .none
  | .tup x => match b with
    | .tup y => match isAdd op with
      | true => if x.length + y.length ≤ 1000 then some (.tup (x ++ y)) else .none
      | false => .none
    | _ => .none
  | _ => .none

/-- equal as sums of products (set below) -/
noncomputable def polyOf : IE → Lean.Grind.CommRing.Expr
  | .c n => .num n
  | .v i => .var i
  | .add a b => .add (polyOf a) (polyOf b)
  | .sub a b => .sub (polyOf a) (polyOf b)
  | .mul a b => .mul (polyOf a) (polyOf b)
  | .neg a => .neg (polyOf a)
noncomputable def sameI (a b : IE) : Bool := (polyOf a).toPoly == (polyOf b).toPoly
/-- are the two ints equal: as far as can be told -/
noncomputable def eqI (a b : IE) : Option Bool := match a, b with
  | .c m, .c n => some (m == n)
  | a, b => if sameI a b then some true else .none
noncomputable def eqIs : List AV → List AV → Option Bool
  | [], [] => some true
  | .int a :: r, .int b :: t => match eqI a b with
    | some true => eqIs r t
    | some false => some false
    | .none => .none
  | [], .int _ :: _ => some false
  | .int _ :: _, [] => some false
  | _, _ => .none
noncomputable def allInts : List AV → Bool
  | [] => true
  | .int _ :: r => allInts r
  | _ :: _ => false
/-- two dicts of ints: same keys, same values -/
noncomputable def eqD (t s : List (Int × AV)) : Option Bool := if t.length == s.length && t.all (fun kv => match kv.2, s.lookup kv.1 with | .int a, some (.int b) => eqI a b == some true | _, _ => false) then some true else .none

noncomputable def ordI (f : Int → Int → Bool) (x y : IE) : Option Bool := match iConst x with
  | some m => match iConst y with
    | some n => some (f m n)
    | .none => .none
  | .none => .none
noncomputable def cmpI (op : CmpOp) (x y : IE) : Option Bool := match op with
  | .Lt => ordI (fun m n => decide (m < n)) x y
  | .Gt => ordI (fun m n => decide (n < m)) x y
  | .LtE => ordI (fun m n => decide (m ≤ n)) x y
  | .Eq => eqI x y
  | .NotEq => (eqI x y).map (!·)
  | _ => .none
noncomputable def cmpS (op : CmpOp) (x y : List Nat) : Option Bool := match op with
  | .Lt => some (decide (x < y))
  | .Gt => some (decide (y < x))
  | .Eq => some (x == y)
  | .NotEq => some (x != y)
  | _ => .none
noncomputable def isNe : CmpOp → Bool
  | .NotEq => true
  | _ => false
noncomputable def neL (x y : List AV) : Option Bool := if allInts x && allInts y then (eqIs x y).map (!·) else .none
noncomputable def neA (a b : AV) (σ : St) : Option Bool := match a with
  | .lst x => match b with
    | .lst y => neL x y
    | _ => .none
  | .ref i => match b with
    | .lst y => match σ.get i with
      | some (.list x) => neL x y
      | _ => .none
    | _ => .none
  | .dicI x => match b with
    | .dicI y => (eqD x y).map (!·)
    | _ => .none
  | _ => .none
noncomputable def neO (op : CmpOp) (a b : AV) (σ : St) : Option Bool := match isNe op with
  | true => neA a b σ
  | false => .none
noncomputable def cmpA (op : CmpOp) (a b : AV) (σ : St) : Option Bool := match a with
  | .int x => match b with
    | .int y => cmpI op x y
    | _ => .none
  | .str x => match b with
    | .str y => cmpS op x y
    | _ => .none
  | _ => neO op a b σ

noncomputable def truthA (v : AV) (σ : St) : Option Bool := match v with
  | .bool b => some b
  | .ref i => match σ.get i with
    | some (.list its) => if its.length ≤ 1000 then some (!its.isEmpty) else .none
    | _ => .none
  | _ => .none

noncomputable def addCk (t : List (Int × AV)) (k : Int) (v : IE) : Option (List (Int × AV)) := match t with
  | [] => some [(k, .int v)]
  | p :: r => if p.1 == k then match p.2 with
      | .int u => some ((p.1, .int (iAdd u v)) :: r)
      | _ => .none
    else match addCk r k v with
      | some r => some (p :: r)
      | .none => .none
noncomputable def addC (t : List (Int × AV)) : List (Int × AV) → Option (List (Int × AV))
  | [] => some t
  | (k, .int v) :: r => match addCk t k v with
    | some t => addC t r
    | .none => .none
  | _ :: _ => .none

noncomputable def nth (its : List AV) (k : Int) : Option AV := if 0 ≤ k then its[k.toNat]? else if 0 ≤ k + its.length then its[(k + its.length).toNat]? else .none

noncomputable def subI (o : AV) (k : Int) (σ : St) : Option AV := match o with
  | .lst its => if k.natAbs < 1000 then nth its k else .none
  | .tup its => if k.natAbs < 1000 then nth its k else .none
  | .str s => if 0 ≤ k ∧ k < 1000 then (s[k.toNat]?).map fun c => .str [c] else .none
  | .ref j => match σ.get j with
    | some (.acc its) => if k < 0 ∧ k.natAbs < 1000 then nth its k else .none
    | _ => .none
  | _ => .none
noncomputable def subA (o i : AV) (σ : St) : Option AV := match i with
  | .int x => match iConst x with
    | some k => subI o k σ
    | .none => .none
  | .str x => match o with
    | .dicS es => es.lookup ⟨x.toArray⟩
    | _ => .none
  | _ => .none

noncomputable def srcOf (v : AV) (σ : St) : Option Src := match v with
  | .lst its => some (.lst its)
  | .tup its => some (.tup its)
  | .rng lo hi => if lo.natAbs < 10000 ∧ hi.natAbs < 10000 then some (.rng lo (hi - lo).toNat) else .none
  | .itI es => some (.itI es)
  | .vaI es => some (.vaI es)
  | .ref i => match σ.get i with
    | some (.acc _) => some (.acc i)
    | _ => .none
  | _ => .none
noncomputable def isTupE (e : Expr) : Bool := Nat.beq e.ctorIdx 25
/-- a target that goes with the source -/
noncomputable def tgtOk (S : Src) (tgt : Expr) : Bool := match S with
  | .itI _ => isTupE tgt
  | _ => true
/-- the k-th item: nothing told | the end | the item -/
noncomputable def nxt (S : Src) (k : Nat) (σ : St) : Option (Option AV) := match S with
  | .lst its => some its[k]?
  | .tup its => some its[k]?
  | .rng lo n => some (if k < n then some (.int (.c (lo + k))) else .none)
  | .itI es => some ((es[k]?).map fun p => .tup [.int (.c p.1), p.2])
  | .vaI es => some ((es[k]?).map fun p => p.2)
  | .acc i => match σ.get i with
    | some (.acc its) => some its[k]?
    | _ => .none

noncomputable def isStar (e : Expr) : Bool := Nat.beq e.ctorIdx 22
noncomputable def evsF (R : Fns) (c : Ctx) : List Expr → St → Option (List AV × St)
  | [], σ => some ([], σ)
  | e :: r, σ => match isStar e with
    | true => .none
    | false => match R.ev c e σ with
      | some (v, σ) => match evsF R c r σ with
        | some (vs, σ) => some (v :: vs, σ)
        | .none => .none
      | .none => .none

/-- the text's own functions and classes that are told by hand -/
noncomputable def primA (a : Addr) (args : List AV) (σ : St) : Option (Option (AV × St)) :=
    if a = 203 then some (match args with
      | [.dicI t, .dicI s] => if t.length + s.length ≤ 1000 then (addC t s).map fun r => (.dicI r, σ) else .none
      | _ => .none)
    else if a = 192 then some (match args with
      | [.lst l] => some (.ins 192 [("comp_select_list", .lst l)], σ)
      | _ => .none)
    else if a = 164 then some (match args with
      | [.none] => some (.ins 164 [("lineno", .int (.c 1)), ("instream", .none), ("whitespace", .str [10, 9, 13, 32]), ("pushback", .ref σ.n)], σ.new (.list []))
      | _ => .none)
    else if a = 122 then some (match args with
      | [] => some (.ref σ.n, σ.new (.acc []))
      | _ => .none)
    else if a = 119 then some (match args with
      | [.ref i] => match σ.get i with
        | some (.acc its) => if its.length ≤ 1000 then some (.int (.c its.length), σ) else .none
        | _ => .none
      | _ => .none)
    else if a = 66 then some (match args with
      | [.ref i, x, y] => match σ.get i with
        | some (.acc its) => if its.length ≤ 1000 then some (.none, σ.put i (.acc (its ++ [.tup [x, y]]))) else .none
        | _ => .none
      | _ => .none)
    else if a = 82 then some (match args with
      | [.ref i] => match σ.get i with
        | some (.acc its) => if its.length ≤ 1000 then (match its.getLast? with
          | some v => some (v, σ.put i (.acc its.dropLast))
          | .none => some (.tup [.str [], .str []], σ)) else .none
        | _ => .none
      | _ => .none)
    else .none
noncomputable def rngA (args : List AV) (σ : St) : Option (AV × St) := match args with
  | [] => .none
  | a :: r => match intK a with
    | .none => .none
    | some m => match r with
      | [] => if m.natAbs < 1000 then some (.rng 0 m, σ) else .none
      | b :: t => match t with
        | [] => match intK b with
          | .none => .none
          | some n => if m.natAbs < 1000 ∧ n.natAbs < 1000 then some (.rng m n, σ) else .none
        | _ :: _ => .none
noncomputable def typeA (t : String) (args : List AV) (σ : St) : Option (AV × St) :=
    if t = "range" then rngA args σ
    else if t = "tuple" then match args with
      | [.lst its] => if its.length ≤ 1000 then some (.tup its, σ) else .none
      | _ => .none
    else .none
noncomputable def builtA (b : String) (args : List AV) (σ : St) : Option (AV × St) := if b = "len" then match args with
      | [.lst its] => if its.length ≤ 1000 then some (.int (.c its.length), σ) else .none
      | _ => .none
    else .none
/-- the functions and classes that are called by name -/
noncomputable def knownA : List Addr := [28, 35, 42, 122, 164, 192, 203, 210, 227, 234, 241]
noncomputable def callR (R : Fns) (c : Ctx) (a : Addr) (args : List AV) (σ : St) : Option (AV × St) := match primA a args σ with
  | some r => r
  | .none => R.call c a args σ
noncomputable def callA (R : Fns) (c : Ctx) (f : AV) (args : List AV) (σ : St) : Option (AV × St) := match f with
  | .val (.ref a) => if knownA.contains a then callR R c a args σ else .none
  | .val (.type t) => typeA t args σ
  | .val (.builtin b) => builtA b args σ
  | _ => .none

/-- methods of the text's own classes -/
noncomputable def methT (C : Addr) (x : Str) : Option Addr :=
  if C = 192 then (if x == ("compare" : Str) then some 189 else .none)
  else if C = 164 then (if x == ("push_token" : Str) then some 161 else if x == ("get_token" : Str) then some 154 else .none)
  else .none
noncomputable def attrT (C : Addr) (x : Str) : Bool := (C == 192 && x == ("comp_select_list" : Str)) || (C == 164 && x == ("pushback" : Str))
noncomputable def accT (x : Str) : Option Addr := if x == ("push" : Str) then some 66 else if x == ("pop" : Str) then some 82 else if x == ("part_count" : Str) then some 119 else .none

noncomputable def idxOf (s : List Nat) (t : List Nat) : Option Nat := match Builtin.Str.occurrences ⟨s.toArray⟩ ⟨t.toArray⟩ 0 s.length 1 with
  | i :: _ => some i
  | [] => .none
/-- methods of the lists, dicts and strs -/
noncomputable def listM (i : Nat) (its : List AV) (x : Str) (args : List AV) (σ : St) : Option (AV × St) :=
      if x = ("append" : Str) then match args with
        | [v] => if its.length ≤ 1000 then some (.none, σ.put i (.list (its ++ [v]))) else .none
        | _ => .none
      else if x = ("pop" : Str) then match args, its with
        | [.int (.c k)], v :: r => if k = 0 ∧ r.length ≤ 1000 then some (v, σ.put i (.list r)) else .none
        | _, _ => .none
      else .none
noncomputable def dictM (es : List (Int × AV)) (x : Str) (args : List AV) (σ : St) : Option (AV × St) :=
    if x = ("items" : Str) then match args with
      | [] => some (.itI es, σ)
      | _ => .none
    else if x = ("values" : Str) then match args with
      | [] => some (.vaI es, σ)
      | _ => .none
    else .none
noncomputable def strM (s : List Nat) (x : Str) (args : List AV) (σ : St) : Option (AV × St) := if x = ("index" : Str) then match args with
      | [.str t] => (idxOf s t).map fun i => (.int (.c i), σ)
      | _ => .none
    else .none
/-- the receiver keeps its kind while the arguments are made -/
noncomputable def preM (ov : AV) (σ σ' : St) : Bool := match ov with
  | .ref i => match σ.get i, σ'.get i with
    | some (.acc _), some (.acc _) => true
    | some (.list _), some (.list _) => true
    | _, _ => false
  | _ => true
noncomputable def methA (R : Fns) (c : Ctx) (o : AV) (x : Str) (args : List AV) (σ : St) : Option (AV × St) := match o with
  | .ins C fs => match fs.lookup x with
    | .none => match methT C x with
      | some f => callR R c f (o :: args) σ
      | .none => .none
    | some _ => .none
  | .ref i => match σ.get i with
    | some (.acc _) => match accT x with
      | some f => callR R c f (o :: args) σ
      | .none => .none
    | some (.list its) => listM i its x args σ
    | _ => .none
  | .dicI es => dictM es x args σ
  | .str s => strM s x args σ
  | _ => .none

noncomputable def pairsF (R : Fns) (c : Ctx) : List (Option Expr) → List Expr → St → Option (List (Int × AV) × St)
  | [], [], σ => some ([], σ)
  | k :: ks, v :: vs, σ => match k with
    | .none => .none
    | some k => match R.ev c k σ with
      | some (.int (.c n), σ) => match R.ev c v σ with
        | .none => .none
        | some (x, σ) => match pairsF R c ks vs σ with
          | .none => .none
          | some (r, σ) => if r.any (fun p => p.1 == n) then .none else some ((n, x) :: r, σ)
      | _ => .none
  | _, _, _ => .none
noncomputable def partF (R : Fns) (c : Ctx) (e : Option Expr) (σ : St) : Option (Option Int × St) := match e with
  | .none => some (.none, σ)
  | some e => match R.ev c e σ with
    | some (.int (.c n), σ) => some (some n, σ)
    | _ => .none
noncomputable def isCallE (e : Expr) : Bool := Nat.beq e.ctorIdx 16
noncomputable def isSl (e : Expr) : Bool := Nat.beq e.ctorIdx 26
noncomputable def slOk (l h : Option Int) (n : Nat) : Bool := (l.all fun (i : Int) => decide (0 ≤ i ∧ i ≤ (n : Int))) && (h.all fun (i : Int) => decide (0 ≤ i ∧ i ≤ (n : Int))) && decide (n ≤ 1000)
noncomputable def slOf (l h : Option Int) (its : List AV) : List AV := (its.take ((h.map Int.toNat).getD its.length)).drop ((l.map Int.toNat).getD 0)
noncomputable def sliceF (R : Fns) (c : Ctx) (o : Expr) (lo hi : Option Expr) (σ : St) : Option (AV × St) := match R.ev c o σ with
  | some (.tup its, σ) => match partF R c lo σ with
    | .none => .none
    | some (l, σ) => match partF R c hi σ with
      | .none => .none
      | some (h, σ) => if slOk l h its.length then some (.tup (slOf l h its), σ) else .none
  | _ => .none
noncomputable def dispF (R : Fns) (c : Ctx) (keys : List (Option Expr)) (vals : List Expr) (σ : St) : Option (AV × St) := match !keys.isEmpty && decide (keys.length ≤ 15) with
  | false => .none
  | true => match pairsF R c keys vals (σ.new (.dic [])) with
    | .none => .none
    | some (es, σ') => match σ'.get σ.n with
      | some (.dic []) => some (.dicI es, (σ'.put σ.n (.dic es)).del σ.n)
      | _ => .none

noncomputable def freeCells (c : Ctx) : List (Str × NameKind) → List (Str × Nat) → Option (List (Str × Nat))
  | [], acc => some acc
  | (n, k) :: r, acc => if k == .free then match c.cells.lookup n with
      | some i => freeCells c r ((n, i) :: acc)
      | .none => .none
    else freeCells c r acc
noncomputable def newCells : List (Str × NameKind) → List (Str × Nat) → St → List (Str × Nat) × St
  | [], acc, σ => (acc, σ)
  | (n, k) :: r, acc, σ => if k == .cell then newCells r ((n, σ.n) :: acc) (σ.new (.cell .none)) else newCells r acc σ
noncomputable def relabelA (sc : Scope) (c : Ctx) : Scope := { sc with names := sc.names.map fun (n, k) => if (k == .free && c.sc.kind == .function && c.kind n == some .cell) then (n, .cell) else (n, k) }
noncomputable def scopeOk (sc : Scope) : Bool := sc.kind == .function && sc.names.all (fun x => x.2 != .local || sc.names.lookup x.1 == some .local)
noncomputable def isSetE (e : Expr) : Bool := Nat.beq e.ctorIdx 7


section
variable (gv : Str → Option Value) (ft : Addr → Option FI) (R : Fns)

noncomputable def forL (c : Ctx) (tgt : Expr) (body : List Stmt) (S : Src) : Nat → Nat → St → Option (AFl × St)
  | 0, _, _ => .none
  | f + 1, k, σ => match nxt S k σ with
    | .none => .none
    | some .none => some (.next, σ)
    | some (some v) => match asg c tgt v σ with
      | .none => .none
      | some σ => match R.ex c body σ with
        | .none => .none
        | some (.next, σ) => forL c tgt body S f (k + 1) σ
        | some (.ret v, σ) => some (.ret v, σ)
noncomputable def whileL (c : Ctx) (test : Expr) (body : List Stmt) : Nat → St → Option (AFl × St)
  | 0, _ => .none
  | f + 1, σ => match R.ts c test σ with
    | .none => .none
    | some (false, σ) => some (.next, σ)
    | some (true, σ) => match R.ex c body σ with
      | .none => .none
      | some (.next, σ) => whileL c test body f σ
      | some (.ret v, σ) => some (.ret v, σ)
noncomputable def ifsL (c : Ctx) (ifs : List Expr) (σ : St) : Option (Bool × St) := match ifs with
  | [] => some (true, σ)
  | [e] => R.ts c e σ
  | _ => .none
noncomputable def compG (c : Ctx) (tgt : Expr) (ifs : List Expr) (put : St → Option St) (S : Src) : Nat → Nat → St → Option St
  | 0, _, _ => .none
  | f + 1, k, σ => (nxt S k σ).bind fun r => match r with
    | .none => some σ
    | some v => (asg c tgt v σ).bind fun σ => b2 (ifsL R c ifs σ) fun b σ => match b with
      | false => compG c tgt ifs put S f (k + 1) σ
      | true => (put σ).bind fun σ => compG c tgt ifs put S f (k + 1) σ
noncomputable def turnsF : Nat := 100
noncomputable def isNs (o : AO) : Bool := match o with
  | .ns _ => true
  | _ => false
noncomputable def isNsAt (σ : St) (i : Nat) : Bool := match σ.get i with
  | some o => isNs o
  | .none => false
theorem isNsAt_eq {σ : St} {i : Nat} (h : isNsAt σ i = true) : ∃ loc, σ.get i = some (.ns loc) := by
  unfold isNsAt at h
  generalize σ.get i = x at h
  cases x with
  | none => exact noB h
  | some o => cases o with
    | ns loc => exact ⟨loc, rfl⟩
    | _ => exact noB h

noncomputable def cmpE (c : Ctx) (l : Expr) (op : CmpOp) (r : Expr) (σ : St) : Option (Bool × St) :=
  (ok (!isSetE r) ()).bind fun _ => b2 (R.ev c l σ) fun a σ => b2 (R.ev c r σ) fun b σ => (cmpA op a b σ).map (·, σ)
noncomputable def cmpF (c : Ctx) (l : Expr) (ops : List CmpOp) (rs : List Expr) (σ : St) : Option (Bool × St) := (one ops).bind fun op => (one rs).bind fun r => cmpE R c l op r σ
noncomputable def slcV (i : Expr) : Option (Option Expr × Option Expr) := match view i with
  | .slice lo hi st => match st with
    | .none => some (lo, hi)
    | some _ => .none
  | _ => .none
noncomputable def subE (c : Ctx) (o i : Expr) (σ : St) : Option (AV × St) :=
  (ok (!isSl i) ()).bind fun _ => b2 (R.ev c o σ) fun a σ => b2 (R.ev c i σ) fun b σ => (subA a b σ).map (·, σ)
noncomputable def subF (c : Ctx) (o i : Expr) (σ : St) : Option (AV × St) := match slcV i with
  | some p => sliceF R c o p.1 p.2 σ
  | .none => subE R c o i σ
noncomputable def pushL (elt : Expr) (c : Ctx) (D : Nat) (σ : St) : Option St := b2 (R.ev c elt σ) fun x σ => (listV σ D).bind fun its => ok (decide (its.length ≤ 1000)) (σ.put D (.list (its ++ [x])))
noncomputable def pushD (ke ve : Expr) (c : Ctx) (D : Nat) (σ : St) : Option St :=
  b2 (R.ev c ke σ) fun kv σ => (intK kv).bind fun n => b2 (R.ev c ve σ) fun x σ => (dicV σ D).bind fun es => ok (decide (es.length ≤ 1000) && !es.any (fun p => p.1 == n)) (σ.put D (.dic (es ++ [(n, x)])))
noncomputable def cCx (c : Ctx) (sc : Scope) (cells : List (Str × Nat)) (o : AO) (σ : St) : Ctx := ⟨relabelA sc c, c.fid, σ.n + 1, (newCells sc.names cells ((σ.new o).new (.ns []))).1⟩
noncomputable def cSt (sc : Scope) (cells : List (Str × Nat)) (o : AO) (σ : St) : St := (newCells sc.names cells ((σ.new o).new (.ns []))).2
noncomputable def compE (o : AO) (put : Ctx → Nat → St → Option St) (c : Ctx) (tgt iter : Expr) (ifs : List Expr) (sc : Scope) (σ : St) : Option (Nat × St) :=
  (ok (scopeOk sc && !isSetE iter) ()).bind fun _ => b2 (R.ev c iter σ) fun iv σ => (srcOf iv σ).bind fun S => (freeCells c sc.names []).bind fun cells => (ok (tgtOk S tgt) ()).bind fun _ =>
    (compG R (cCx c sc cells o σ) tgt ifs (put (cCx c sc cells o σ) σ.n) S turnsF 0 (cSt sc cells o σ)).bind fun σ' => ok (isNsAt σ' (σ.n + 1)) (σ.n, σ')
noncomputable def lcE (c : Ctx) (elt tgt iter : Expr) (ifs : List Expr) (sc : Scope) (σ : St) : Option (AV × St) :=
  b2 (compE R (.list []) (pushL R elt) c tgt iter ifs sc σ) fun D σ => (listV σ D).map fun its => (.lst its, (σ.del (D + 1)).del D)
noncomputable def dcE (c : Ctx) (ke ve tgt iter : Expr) (ifs : List Expr) (sc : Scope) (σ : St) : Option (AV × St) :=
  b2 (compE R (.dic []) (pushD R ke ve) c tgt iter ifs sc σ) fun D σ => (dicV σ D).map fun es => (.dicI es, (σ.del (D + 1)).del D)
noncomputable def conF (v : Const) (σ : St) : Option (AV × St) := match v with
  | .int i => some (.int (.c i), σ)
  | .str s => some (.str s.cps.toList, σ)
  | .none => some (.none, σ)
  | .bool b => some (.bool b, σ)
  | _ => .none
noncomputable def binF (c : Ctx) (l : Expr) (op : Operator) (r : Expr) (σ : St) : Option (AV × St) := b2 (R.ev c l σ) fun a σ => b2 (R.ev c r σ) fun b σ => (binA op a b).map (·, σ)
noncomputable def isNeg : UnaryOp → Bool
  | .USub => true
  | _ => false
noncomputable def negF (c : Ctx) (op : UnaryOp) (x : Expr) (σ : St) : Option (AV × St) := (ok (isNeg op) ()).bind fun _ => b2 (R.ev c x σ) fun v σ => (intE v).map fun a => (.int (iNeg a), σ)
noncomputable def iteF (c : Ctx) (t b o : Expr) (σ : St) : Option (AV × St) := b2 (R.ts c t σ) fun y σ => R.ev c (match y with | true => b | false => o) σ
noncomputable def tupF (c : Ctx) (es : List Expr) (σ : St) : Option (AV × St) := b2 (evsF R c es σ) fun vs σ => ok (decide (vs.length ≤ 1000)) (.tup vs, σ)
noncomputable def lstF (c : Ctx) (es : List Expr) (σ : St) : Option (AV × St) := b2 (evsF R c es σ) fun vs σ => ok (decide (vs.length ≤ 1000)) (.lst vs, σ)
noncomputable def attF (c : Ctx) (o : Expr) (x : Str) (σ : St) : Option (AV × St) :=
  (ok (!isCallE o) ()).bind fun _ => b2 (R.ev c o σ) fun v σ => b2 (insV v) fun C fs => (ok (attrT C x) ()).bind fun _ => (fs.lookup x).map (·, σ)
noncomputable def metF (c : Ctx) (o : Expr) (x : Str) (apos : Pos) (args : List Expr) (pos : Pos) (σ : St) : Option (AV × St) :=
  (ok (apos.endLine == pos.line && decide (args.length < 30) && !isCallE o) ()).bind fun _ => b2 (R.ev c o σ) fun v σ => b2 (evsF R c args σ) fun vs σ' => (ok (preM v σ σ') ()).bind fun _ => methA R c v x vs σ'
noncomputable def canF (c : Ctx) (f : Str) (args : List Expr) (σ : St) : Option (AV × St) := (loadA gv c f σ).bind fun fv => b2 (evsF R c args σ) fun vs σ => callA R c fv vs σ
noncomputable def calF (c : Ctx) (f : Expr) (args : List Expr) (pos : Pos) (σ : St) : Option (AV × St) := match view f with
  | .attr o x apos => metF R c o x apos args pos σ
  | .name x => canF gv R c x args σ
  | _ => .none
noncomputable def evF (c : Ctx) (e : Expr) (σ : St) : Option (AV × St) := match view e with
  | .con v => conF v σ
  | .name x => (loadA gv c x σ).map (·, σ)
  | .bin l op r => binF R c l op r σ
  | .un op x => negF R c op x σ
  | .cmp l ops rs => b2 (cmpF R c l ops rs σ) fun b σ => some (.bool b, σ)
  | .ite t b o => iteF R c t b o σ
  | .tup es => tupF R c es σ
  | .lst es => lstF R c es σ
  | .dict ks vs => dispF R c ks vs σ
  | .sub o i => subF R c o i σ
  | .attr o x _ => attF R c o x σ
  | .call f as ks p => (ok ks.isEmpty ()).bind fun _ => calF gv R c f as p σ
  | .lcomp elt gs sc => (one gs).bind fun g => (ok (decide (g.is_async = 0)) ()).bind fun _ => lcE R c elt g.target g.iter g.ifs sc σ
  | .dcomp ke ve gs sc => (one gs).bind fun g => (ok (decide (g.is_async = 0)) ()).bind fun _ => dcE R c ke ve g.target g.iter g.ifs sc σ
  | _ => .none

noncomputable def plainTest (e : Expr) : Bool := !(Nat.beq e.ctorIdx 15 || Nat.beq e.ctorIdx 0 || Nat.beq e.ctorIdx 3 || Nat.beq e.ctorIdx 5)
noncomputable def plainE (c : Ctx) (e : Expr) (σ : St) : Option (Bool × St) := (ok (plainTest e) ()).bind fun _ => b2 (R.ev c e σ) fun v σ => (truthA v σ).map (·, σ)
noncomputable def isOr : BoolOp → Bool
  | .Or => true
  | _ => false
noncomputable def orE (c : Ctx) (x y : Expr) (σ : St) : Option (Bool × St) := b2 (R.ts c x σ) fun b σ => match b with
  | true => some (true, σ)
  | false => R.ts c y σ
noncomputable def orF (c : Ctx) (vs : List Expr) (σ : St) : Option (Bool × St) := match vs with
  | [] => .none
  | x :: r => (one r).bind fun y => orE R c x y σ
noncomputable def tsF (c : Ctx) (e : Expr) (σ : St) : Option (Bool × St) := match view e with
  | .cmp l ops rs => cmpF R c l ops rs σ
  | .bool op vs => (ok (isOr op) ()).bind fun _ => orF R c vs σ
  | _ => plainE R c e σ

/-- a statement's shape -/
inductive StSh where
  | expr (e : Expr)
  | ret (v : Option Expr)
  | asg (ts : List Expr) (e : Expr)
  | aug (t : Expr) (op : Operator) (e : Expr)
  | ite (t : Expr) (b o : List Stmt)
  | whl (t : Expr) (b o : List Stmt)
  | for_ (tgt iter : Expr) (b o : List Stmt)
  | other
noncomputable def stView (st : Stmt) : StSh := match st with
  | .Expr e _ => .expr e
  | .Return v _ => .ret v
  | .Assign ts e _ => .asg ts e
  | .AugAssign t op e _ => .aug t op e
  | .If t b o _ => .ite t b o
  | .While t b o _ => .whl t b o
  | .For tgt iter b o _ => .for_ tgt iter b o
  | _ => .other
noncomputable def SVw (st : Stmt) (v : StSh) : Prop := match v with
  | .expr e => ∃ p, st = .Expr e p
  | .ret v => ∃ p, st = .Return v p
  | .asg ts e => ∃ p, st = .Assign ts e p
  | .aug t op e => ∃ p, st = .AugAssign t op e p
  | .ite t b o => ∃ p, st = .If t b o p
  | .whl t b o => ∃ p, st = .While t b o p
  | .for_ tgt iter b o => ∃ p, st = .For tgt iter b o p
  | .other => True
theorem stView_ok (st : Stmt) : SVw st (stView st) := by
  cases st with
  | Expr e p => exact ⟨p, rfl⟩
  | Return v p => exact ⟨p, rfl⟩
  | Assign ts e p => exact ⟨p, rfl⟩
  | AugAssign t op e p => exact ⟨p, rfl⟩
  | If t b o p => exact ⟨p, rfl⟩
  | While t b o p => exact ⟨p, rfl⟩
  | For tgt iter b o p => exact ⟨p, rfl⟩
  | _ => exact trivial
noncomputable def expF (c : Ctx) (e : Expr) (σ : St) : Option (AFl × St) := (ok (!isComp e) ()).bind fun _ => b2 (R.ev c e σ) fun _ σ => some (.next, σ)
noncomputable def retF (c : Ctx) (v : Option Expr) (σ : St) : Option (AFl × St) := v.bind fun e => b2 (R.ev c e σ) fun v σ => some (.ret v, σ)
noncomputable def asnF (c : Ctx) (x : Str) (e : Expr) (σ : St) : Option (AFl × St) :=
  (ok (!(isComp e && (c.kind x == some .local))) ()).bind fun _ => b2 (R.ev c e σ) fun v σ => (store c x v σ).map fun σ => (.next, σ)
noncomputable def astF (c : Ctx) (t : Expr) (e : Expr) (σ : St) : Option (AFl × St) :=
  (ok (!(isComp e || isDisp e)) ()).bind fun _ => b2 (R.ev c e σ) fun v σ => (asg c t v σ).map fun σ => (.next, σ)
noncomputable def asgF (c : Ctx) (t : Expr) (e : Expr) (σ : St) : Option (AFl × St) := match view t with
  | .name x => asnF R c x e σ
  | .tup _ => astF R c t e σ
  | _ => .none
noncomputable def augF (c : Ctx) (t : Expr) (op : Operator) (e : Expr) (σ : St) : Option (AFl × St) :=
  (nameOf t).bind fun x => (ok (isAdd op) ()).bind fun _ => (loadA gv c x σ).bind fun v => (intE v).bind fun a => b2 (R.ev c e σ) fun u σ => (intE u).bind fun b => (store c x (.int (iAdd a b)) σ).map fun σ => (.next, σ)
noncomputable def iffF (c : Ctx) (t : Expr) (b o : List Stmt) (σ : St) : Option (AFl × St) := b2 (R.ts c t σ) fun y σ => R.ex c (match y with | true => b | false => o) σ
noncomputable def forF (c : Ctx) (tgt iter : Expr) (b : List Stmt) (σ : St) : Option (AFl × St) :=
  (ok (!isSetE iter) ()).bind fun _ => b2 (R.ev c iter σ) fun v σ => (srcOf v σ).bind fun S => (ok (tgtOk S tgt) ()).bind fun _ => forL R c tgt b S turnsF 0 σ
noncomputable def stF (c : Ctx) (st : Stmt) (σ : St) : Option (AFl × St) := match stView st with
  | .expr e => expF R c e σ
  | .ret v => retF R c v σ
  | .asg ts e => (one ts).bind fun t => asgF R c t e σ
  | .aug t op e => augF gv R c t op e σ
  | .ite t b o => iffF R c t b o σ
  | .whl t b o => (ok o.isEmpty ()).bind fun _ => whileL R c t b turnsF σ
  | .for_ tgt iter b o => (ok o.isEmpty ()).bind fun _ => forF R c tgt iter b σ
  | .other => .none
noncomputable def exF (c : Ctx) : List Stmt → St → Option (AFl × St)
  | [], σ => some (.next, σ)
  | st :: rest, σ => match stF gv R c st σ with
    | .none => .none
    | some (.next, σ) => exF c rest σ
    | some (.ret v, σ) => some (.ret v, σ)
noncomputable def callU (_c : Ctx) (f : Addr) (args : List AV) (σ : St) : Option (AV × St) := match ft f with
  | .none => .none
  | some fi => if args.length = fi.names.length then
      match R.ex ⟨fi.fd.scope, σ.n, σ.n, []⟩ fi.body (σ.new (.ns (fi.names.zip args))) with
      | .none => .none
      | some (.ret v, σ') => some (v, σ'.del σ.n)
      | some (.next, σ') => some (.none, σ'.del σ.n)
    else .none
noncomputable def mk : Fns := ⟨evF gv R, exF gv R, callU ft R, tsF R⟩
end
noncomputable def fns (gv : Str → Option Value) (ft : Addr → Option FI) : Nat → Fns
  | 0 => ⟨fun _ _ _ => .none, fun _ _ _ => .none, fun _ _ _ _ => .none, fun _ _ _ => .none⟩
  | k + 1 => mk gv ft (fns gv ft k)

end Mine
end

section
open PySem PySem.Spec PySem.Calls PyProof.Rows PySem.W
set_option Elab.async false
namespace Mine

/-- the setting -/
structure Wd where
  prog : Program
  w : World
  θ : Nat → Int
  K : Frag
  p : Program
  loose : List Str
  mean : ExcName → Option Value
  mg : Str → Option Value
  mb : Str → Option Value

noncomputable abbrev MV (W : Wd) (h₀ : Heap) (ρ : Nat → Addr) (σ : St) (s : Shared) (ρ' : Nat → Addr) (σ' : St) (s' : Shared) : Prop := Mv W.prog W.w W.θ h₀ ρ σ s ρ' σ' s'
noncomputable abbrev VV (W : Wd) (s : Shared) (ρ : Nat → Addr) (σ : St) (x : AV) (v : Value) : Prop := VR W.prog W.w W.θ s.heap ρ σ x v

structure Gd (W : Wd) (h₀ : Heap) (k : Nat) (c : Ctx) (A : Around) (env : Env) (ρ : Nat → Addr) (σ : St) (s : Shared) : Prop where
  rel : Rel W.prog W.w W.θ h₀ ρ σ s.heap
  kin : W.K.In h₀
  top : Top W.p W.loose W.mean W.mg W.mb h₀
  sc : env.scope = c.sc
  kd : c.sc.kind = .function
  gl : env.globals = mainGlobals
  bl : env.builtins = builtinsNs
  loc : env.locals = ρ c.lid
  locn : h₀.get? (ρ c.lid) = none
  lidlt : c.lid < σ.n
  cells : ∀ x i, c.cells.lookup x = some i → i < σ.n ∧ env.cells.lookup x = some (ρ i)
  big : ∃ o, h₀.get? sysModules = some o
  hand : A.handled = none
  depth : A.depth + k + 10 < recursionLimit
  units : A.units + 8 * k + 100 < cLine

section
variable {W : Wd} {h₀ : Heap} {k : Nat} {c : Ctx} {A : Around} {env : Env} {ρ ρ' : Nat → Addr} {σ σ' σ'' : St} {s s' : Shared} {E : Value → Shared → Prop}

theorem Gd.mv (G : Gd W h₀ k c A env ρ σ s) (m : MV W h₀ ρ σ s ρ' σ' s') : Gd W h₀ k c A env ρ' σ' s' where
  rel := m.rel
  kin := G.kin
  top := G.top
  sc := G.sc
  kd := G.kd
  gl := G.gl
  bl := G.bl
  loc := by rw [m.ext _ G.lidlt]; exact G.loc
  locn := by rw [m.ext _ G.lidlt]; exact G.locn
  lidlt := Nat.lt_of_lt_of_le G.lidlt m.n
  cells := fun x i e => by
    obtain ⟨a, b⟩ := G.cells x i e
    exact ⟨Nat.lt_of_lt_of_le a m.n, by rw [m.ext _ a]; exact b⟩
  big := G.big
  hand := G.hand
  depth := G.depth
  units := G.units
theorem Gd.less (G : Gd W h₀ (k + 1) c A env ρ σ s) : Gd W h₀ k c A env ρ σ s :=
  { G with depth := by have := G.depth; omega, units := by have := G.units; omega }
theorem Gd.kindOf (G : Gd W h₀ k c A env ρ σ s) (x : Str) : env.kindOf x = c.kind x := by
  show env.scope.names.lookup x = lookS c.sc.names x
  rw [lookS_eq]
  rw [G.sc]
theorem Gd.kind (G : Gd W h₀ k c A env ρ σ s) : env.scope.kind = .function := by rw [G.sc]; exact G.kd
theorem Gd.ns (G : Gd W h₀ k c A env ρ σ s) : s.heap.Ns mainGlobals W.mg := G.top.g.keeps G.rel.base
theorem Gd.nsb (G : Gd W h₀ k c A env ρ σ s) : s.heap.Ns builtinsNs W.mb := G.top.b.keeps G.rel.base
theorem Gd.kinH (G : Gd W h₀ k c A env ρ σ s) : W.K.In s.heap := fun a o e => G.rel.base a o (G.kin a o e)

/-- the soundness of the parts -/
noncomputable def EvOk (W : Wd) (k : Nat) (ev : Ctx → Expr → St → Option (AV × St)) : Prop :=
  ∀ h₀ c e σ r σ', ev c e σ = some (r, σ') → ∀ A env ρ s, Gd W h₀ k c A env ρ σ s → ∀ (Q : Value → Shared → Prop) (E : Value → Shared → Prop),
    (∀ v s' ρ', MV W h₀ ρ σ s ρ' σ' s' → VV W s' ρ' σ' r v → Q v s') → wpAny (model W.prog W.w) A (eval e env) Q E s
noncomputable def TsOk (W : Wd) (k : Nat) (ts : Ctx → Expr → St → Option (Bool × St)) : Prop :=
  ∀ h₀ c e σ r σ', ts c e σ = some (r, σ') → ∀ A env ρ s, Gd W h₀ k c A env ρ σ s → ∀ (Q : Bool → Shared → Prop) (E : Value → Shared → Prop),
    (∀ s' ρ', MV W h₀ ρ σ s ρ' σ' s' → Q r s') → wpAny (model W.prog W.w) A (isTrue e env (eval e env)) Q E s
/-- how a flow ends -/
inductive FR (W : Wd) (s : Shared) (ρ : Nat → Addr) (σ : St) : AFl → Flow → Prop
  | next : FR W s ρ σ .next .next
  | ret {r : AV} {v : Value} : VV W s ρ σ r v → FR W s ρ σ (.ret r) (.ret v)
noncomputable def ExOk (W : Wd) (k : Nat) (ex : Ctx → List Stmt → St → Option (AFl × St)) : Prop :=
  ∀ h₀ c b σ r σ', ex c b σ = some (r, σ') → ∀ A env ρ s, Gd W h₀ k c A env ρ σ s → ∀ (Q : Flow → Shared → Prop) (E : Value → Shared → Prop),
    (∀ f s' ρ', MV W h₀ ρ σ s ρ' σ' s' → FR W s' ρ' σ' r f → Q f s') → wpAny (model W.prog W.w) A (execs b env) Q E s
/-- item by item -/
noncomputable def VVs (W : Wd) (s : Shared) (ρ : Nat → Addr) (σ : St) : List AV → List Value → Prop
  | [], [] => True
  | x :: xs, v :: vs => VV W s ρ σ x v ∧ VVs W s ρ σ xs vs
  | _, _ => False
noncomputable def CallOk (W : Wd) (k : Nat) (call' : Ctx → Addr → List AV → St → Option (AV × St)) : Prop :=
  ∀ h₀ c f args σ r σ', call' c f args σ = some (r, σ') → ∀ A env ρ s, Gd W h₀ k c A env ρ σ s → ∀ vs, VVs W s ρ σ args vs → ∀ (Q : Value → Shared → Prop) (E : Value → Shared → Prop),
    (∀ v s' ρ', MV W h₀ ρ σ s ρ' σ' s' → VV W s' ρ' σ' r v → Q v s') → wpAny (model W.prog W.w) A (PySem.call (.ref f) vs) Q E s
structure FnsOk (W : Wd) (k : Nat) (R : Fns) : Prop where
  ev : EvOk W k R.ev
  ex : ExOk W k R.ex
  call : CallOk W k R.call
  ts : TsOk W k R.ts

theorem VVs.mv (R : Rel W.prog W.w W.θ h₀ ρ σ s.heap) (m : MV W h₀ ρ σ s ρ' σ' s') : ∀ {xs : List AV} {vs : List Value}, VVs W s ρ σ xs vs → VVs W s' ρ' σ' xs vs
  | [], [], _ => trivial
  | _ :: _, _ :: _, ⟨a, b⟩ => ⟨m.vr R a, VVs.mv R m b⟩
  | [], _ :: _, h => h.elim
  | _ :: _, [], h => h.elim
theorem VVs.len : ∀ {xs : List AV} {vs : List Value}, VVs W s ρ σ xs vs → xs.length = vs.length
  | [], [], _ => rfl
  | _ :: _, _ :: _, ⟨_, b⟩ => congrArg (· + 1) (VVs.len b)
  | [], _ :: _, h => h.elim
  | _ :: _, [], h => h.elim
theorem VVs.get : ∀ {xs : List AV} {vs : List Value}, VVs W s ρ σ xs vs → ∀ (i : Nat) x v, xs[i]? = some x → vs[i]? = some v → VV W s ρ σ x v
  | [], [], _, _, _, _, e, _ => by simp at e
  | a :: xs, b :: vs, ⟨p, q⟩, 0, x, v, e, e' => by
    simp at e e'
    subst e e'; exact p
  | a :: xs, b :: vs, ⟨p, q⟩, i + 1, x, v, e, e' => VVs.get q i x v (by simpa using e) (by simpa using e')
  | [], _ :: _, h, _, _, _, _, _ => h.elim
  | _ :: _, [], h, _, _, _, _, _ => h.elim
theorem VVs.of : ∀ {xs : List AV} {vs : List Value}, xs.length = vs.length → (∀ (i : Nat) x v, xs[i]? = some x → vs[i]? = some v → VV W s ρ σ x v) → VVs W s ρ σ xs vs
  | [], [], _, _ => trivial
  | x :: xs, v :: vs, hl, h => ⟨h 0 x v rfl rfl, VVs.of (Nat.succ.inj hl) fun i x' v' e e' => h (i + 1) x' v' (by simpa using e) (by simpa using e')⟩
  | [], _ :: _, hl, _ => by simp at hl
  | _ :: _, [], hl, _ => by simp at hl

/-! names -/
theorem ns_get (G : Gd W h₀ k c A env ρ σ s) {i : Nat} {loc : List (Str × AV)} (g : σ.get i = some (.ns loc)) :
    ∃ o es ep, s.heap.get? (ρ i) = some o ∧ o.data = .dict es ep ∧ StrKeys es ∧ ∀ x y, loc.lookup x = some y → ∃ v, nsFind es x = some v ∧ VV W s ρ σ y v := by
  obtain ⟨_, co, e, r⟩ := G.rel.ob i _ g
  cases r with
  | ns hd hk hl => exact ⟨co, _, _, e, hd, hk, hl⟩
theorem cell_get (G : Gd W h₀ k c A env ρ σ s) {i : Nat} {y : AV} (g : σ.get i = some (.cell (some y))) : ∃ v, s.heap.IsCell (ρ i) (some v) ∧ VV W s ρ σ y v := by
  obtain ⟨_, co, e, r⟩ := G.rel.ob i _ g
  cases r with
  | cell1 hd hv => exact ⟨_, ⟨co, e, hd⟩, hv⟩

/-- what the global names mean -/
noncomputable def GvOk (W : Wd) (gv : Str → Option Value) : Prop := ∀ x v, gv x = some v → W.mg x = some v ∨ (W.mg x = none ∧ W.mb x = some v)

theorem loadA_ok {gv : Str → Option Value} (hg : GvOk W gv) {x : Str} {r : AV} (e : loadA gv c x σ = some r) (G : Gd W h₀ k c A env ρ σ s) {Q : Value → Shared → Prop} (h : ∀ v, VV W s ρ σ r v → Q v s) :
    wpAny (model W.prog W.w) A (loadName env x) Q E s := by
  unfold loadA at e
  simp only [lookS_eq] at e
  split at e
  · first | exact no e | cases e
  · rename_i hx
    have hd : (x == ("__classdict__" : Str)) = false := (Bool.or_eq_false_iff.mp hx).2
    split at e
    · rename_i hk
      split at e
      · rename_i loc g
        obtain ⟨o, es, ep, ho, hda, hsk, hl⟩ := ns_get G g
        obtain ⟨v, hf, hv⟩ := hl x r e
        exact wpAny_loadName_local G.kind ((G.kindOf x).trans hk) ⟨o, es, ep, by rw [G.loc]; exact ho, hda, hsk, fun _ => rfl⟩ hf (h v hv)
      · first | exact no e | cases e
    · rename_i hk
      split at e
      · rename_i i hi
        split at e
        · rename_i y g
          cases e
          obtain ⟨v, hc, hv⟩ := cell_get G g
          exact wpAny_loadName_cell G.kind ((G.kindOf x).trans hk) (G.cells x i hi).2 hc (h v hv)
        · first | exact no e | cases e
      · first | exact no e | cases e
    · rename_i hk
      split at e
      · rename_i i hi
        split at e
        · rename_i y g
          cases e
          obtain ⟨v, hc, hv⟩ := cell_get G g
          exact wpAny_loadName_free G.kind ((G.kindOf x).trans hk) (G.cells x i hi).2 hc (h v hv) hd
        · first | exact no e | cases e
      · first | exact no e | cases e
    · rename_i hk
      cases q : gv x with
      | none => rw [q] at e; first | exact no e | cases e
      | some v =>
        rw [q] at e
        cases e
        rw [loadName_read G.kind ((G.kindOf x).trans hk)]
        rcases hg x v q with hm | ⟨hm, hb⟩
        · exact loadGlobal_global (by rw [G.gl]; exact G.ns) hm (h v (.val v))
        · exact loadGlobal_builtin (by rw [G.gl]; exact G.ns) hm (by rw [G.bl]; exact G.nsb) hb (h v (.val v))
    · first | exact no e | cases e
theorem loadA_nd {gv : Str → Option Value} {x : Str} {r : AV} (e : loadA gv c x σ = some r) : (x == ("__debug__" : Str)) = false := by
  unfold loadA at e
  split at e
  · first | exact no e | cases e
  · rename_i hx
    exact (Bool.or_eq_false_iff.mp hx).1

end
end Mine
end

section
open PySem PySem.Spec PySem.Calls PyProof.Rows PySem.W
set_option Elab.async false
namespace Mine
section
variable {W : Wd} {h₀ : Heap} {k : Nat} {c : Ctx} {A : Around} {env : Env} {ρ ρ' : Nat → Addr} {σ σ' σ'' : St} {s s' : Shared} {E : Value → Shared → Prop}

theorem setL_get (l : List (Str × AV)) (x y : Str) (v : AV) : (setL l x v).lookup y = if y = x then some v else l.lookup y := by
  induction l with
  | nil =>
    show (match y == x with | true => some v | false => Option.none) = _
    by_cases h : y = x
    · simp [h]
    · have q' : (y == x) = false := by simpa using h
      simp [h, q']
  | cons p r ih =>
    obtain ⟨p, q⟩ := p
    rw [setL_cons]
    dsimp only
    by_cases h : x = p
    · subst h
      simp only [beq_self_eq_true, if_true, List.lookup_cons]
      by_cases q : y = x
      · simp [q]
      · have q' : (y == x) = false := by simpa using q
        simp [q, q']
    · have h' : (x == p) = false := by simpa using h
      rw [h']
      simp only [Bool.false_eq_true, if_false, List.lookup_cons, ih]
      by_cases q : y = p
      · subst q
        simp [Ne.symm h]
      · have q' : (y == p) = false := by simpa using q
        simp [q']

theorem store_ok {x : Str} {a : AV} {v : Value} (e : store c x a σ = some σ') (G : Gd W h₀ k c A env ρ σ s) (V : VV W s ρ σ a v) {Q : Unit → Shared → Prop} (h : ∀ s', MV W h₀ ρ σ s ρ σ' s' → Q () s') :
    wpAny (model W.prog W.w) A (storeName env x v) Q E s := by
  unfold store at e
  simp only [lookS_eq] at e
  split at e
  · rename_i hk
    split at e
    · rename_i loc g
      cases e
      obtain ⟨o, es, ep, ho, hda, hsk, hl⟩ := ns_get G g
      refine wpAny_storeName_local ((G.kindOf x).trans hk) ⟨o, es, ep, by rw [G.loc]; exact ho, hda, hsk, fun _ => rfl⟩ (fun h' hn hs => ?_) (by rw [G.kind]; rfl)
      rw [G.loc] at hn hs
      obtain ⟨o', es', ep', ho', hda', hsk', hf'⟩ := hn
      refine h _ (Mv.put G.rel g (by rw [← G.loc]; exact G.loc ▸ G.locn) (fun b ob hb hg => (hs.2 b hb).trans hg) ho' (.ns hda' hsk' fun y z hz => ?_))
      rw [setL_get] at hz
      by_cases hy : y = x
      · rw [if_pos hy] at hz
        cases hz
        exact ⟨v, by rw [hf']; simp only [if_pos hy], V⟩
      · rw [if_neg hy] at hz
        obtain ⟨u, hu, hv⟩ := hl y z hz
        exact ⟨u, by rw [hf']; simp only [if_neg hy, hu], hv⟩
    · first | exact no e | cases e
  · rename_i hk
    split at e
    · rename_i i hi
      split at e
      · rename_i y g
        cases e
        obtain ⟨_, co, he, hr⟩ := G.rel.ob i _ g
        have hcell : ∃ v₀, s.heap.IsCell (ρ i) v₀ := by
          cases hr with
          | cell0 hd => exact ⟨_, co, he, hd⟩
          | cell1 hd _ => exact ⟨_, co, he, hd⟩
        obtain ⟨v₀, hc⟩ := hcell
        refine wpAny_storeName_cell G.kind ((G.kindOf x).trans hk) (G.cells x i hi).2 hc (fun h' hn hs => ?_)
        obtain ⟨o', ho', hd'⟩ := hn
        exact h _ (Mv.put (tk := s.toks) G.rel g (G.rel.nw i _ g rfl) (fun b ob hb hg => (hs.2 b hb).trans hg) ho' (.cell1 hd' V))
      · first | exact no e | cases e
    · first | exact no e | cases e
  · first | exact no e | cases e

theorem storeEach_ok : ∀ {ts : List Expr} {as : List AV} {σ σ' : St} {s : Shared} {ρ : Nat → Addr} {vs : List Value}, storeEach c ts as σ = some σ' → Gd W h₀ k c A env ρ σ s → VVs W s ρ σ as vs → ∀ {Q : Unit → Shared → Prop},
    (∀ s', MV W h₀ ρ σ s ρ σ' s' → Q () s') → wpAny (model W.prog W.w) A (assignInOrder ((assignEach ts env).map (·.2)) vs) Q E s
  | [], [], σ, σ', s, ρ, [], e, G, _, Q, h => by
    cases e
    exact wpAny_pure (h s (.refl G.rel))
  | t :: ts, a :: as, σ, σ', s, ρ, v :: vs, e, G, ⟨V, Vs⟩, Q, h => by
    simp only [storeEach] at e
    split at e
    · first | exact no e | cases e
    · rename_i x hx
      obtain ⟨p, rfl⟩ := nameOf_some hx
      split at e
      · rename_i σ₁ e₁
        show wpAny _ _ (do holding vs (assign (.Name x p) env v); assignInOrder _ vs) _ _ _
        refine wpAny_bind (wpAny_holding (wpAny_assign_Name (store_ok e₁ G V fun s₁ m₁ => ?_)))
        exact storeEach_ok e (G.mv m₁) (VVs.mv G.rel m₁ Vs) fun s₂ m₂ => h s₂ (m₁.trans G.rel m₂)
      · first | exact no e | cases e
  | [], _ :: _, _, _, _, _, _, e, _, _, _, _ => by cases e
  | [], [], _, _, _, _, _ :: _, _, _, V, _, _ => V.elim
  | t :: ts, [], _, _, _, _, _, e, _, _, _, _ => by cases e
  | t :: ts, _ :: _, _, _, _, _, [], _, _, V, _, _ => V.elim

theorem assignEach_len : ∀ (ts : List Expr), (assignEach ts env).length = ts.length
  | [] => rfl
  | t :: ts => by
    have := assignEach_len ts
    cases t <;> simp [assignEach, this]
theorem storeEach_names : ∀ {ts : List Expr} {as : List AV} {σ σ' : St}, storeEach c ts as σ = some σ' → ts.length = as.length ∧ ∀ p ∈ assignEach ts env, p.1 = false
  | [], [], _, _, _ => ⟨rfl, fun _ h => nomatch h⟩
  | t :: ts, a :: as, σ, σ', e => by
    simp only [storeEach] at e
    split at e
    · first | exact no e | cases e
    · rename_i x hx
      obtain ⟨p, rfl⟩ := nameOf_some hx
      split at e
      · have := storeEach_names e
        refine ⟨congrArg (· + 1) this.1, fun q hq => ?_⟩
        rcases List.mem_cons.mp hq with rfl | hq
        · rfl
        · exact this.2 q hq
      · first | exact no e | cases e
  | [], _ :: _, _, _, e => by cases e
  | t :: ts, [], _, _, e => by cases e

theorem asg_ok {t : Expr} {a : AV} {v : Value} (e : asg c t a σ = some σ') (G : Gd W h₀ k c A env ρ σ s) (V : VV W s ρ σ a v) {Q : Unit → Shared → Prop} (h : ∀ s', MV W h₀ ρ σ s ρ σ' s' → Q () s') :
    wpAny (model W.prog W.w) A (assign t env v) Q E s := by
  have hv := view_ok t
  unfold asg at e
  cases q : view t with
  | name x =>
    rw [q] at e hv
    obtain ⟨p, rfl⟩ := hv
    exact wpAny_assign_Name (store_ok e G V h)
  | tup elts =>
    rw [q] at e hv
    obtain ⟨k, p, rfl⟩ := hv
    obtain ⟨its, h1, e⟩ := Option.bind_eq_some_iff.mp e
    obtain rfl : a = .tup its := by
      cases a with
      | tup l => cases h1; rfl
      | _ => exact no h1
    obtain ⟨hl, hs⟩ := storeEach_names (env := env) e
    cases V with
    | @tup a _ vs ht hu hlen hv =>
      refine wpAny_assign_Tuple G.hand ht (by rw [assignEach_len, hl, hlen]; simp) (List.findIdx?_eq_none_iff.mpr fun p hp => hs p hp) fun h' hx => ?_
      have hk : ∀ b o, s.heap.get? b = some o → h'.get? b = some o := fun b o hb => hx b o (Nat.ne_of_lt (Heap.lt_size hb)) hb
      have m₁ : MV W h₀ ρ σ s ρ σ { s with heap := h' } := Mv.heap (tk := s.toks) G.rel hk
      rw [show vs.toArray.toList = vs from rfl]
      exact storeEach_ok e (G.mv m₁) (VVs.mv G.rel m₁ (VVs.of hlen hv)) fun s₂ m₂ => h s₂ (m₁.trans G.rel m₂)
  | _ => rw [q] at e; exact no e
end
end Mine
end

section
open PySem PySem.Spec PySem.Calls PyProof.Rows PySem.W
set_option Elab.async false
namespace Mine
section
variable {W : Wd} {h₀ : Heap} {k : Nat} {c : Ctx} {A : Around} {env : Env} {ρ ρ' : Nat → Addr} {σ σ' σ'' : St} {s s' : Shared} {E : Value → Shared → Prop}

theorem VVs.append : ∀ {xs : List AV} {vs : List Value} {ys : List AV} {us : List Value}, VVs W s ρ σ xs vs → VVs W s ρ σ ys us → VVs W s ρ σ (xs ++ ys) (vs ++ us)
  | [], [], _, _, _, h => h
  | _ :: _, _ :: _, _, _, ⟨a, b⟩, h => ⟨a, VVs.append b h⟩
  | [], _ :: _, _, _, h, _ => h.elim
  | _ :: _, [], _, _, h, _ => h.elim
theorem VV.tup' {a : Addr} {xs : List AV} {vs : List Value} (V : VVs W s ρ σ xs vs) (ht : s.heap.IsTuple a vs.toArray) (hu : Unt ρ σ a) : VV W s ρ σ (.tup xs) (.ref a) := .tup ht hu V.len V.get
theorem VV.lst' {a : Addr} {xs : List AV} {vs : List Value} (V : VVs W s ρ σ xs vs) (ht : s.heap.IsList a vs.toArray) (hu : Unt ρ σ a) : VV W s ρ σ (.lst xs) (.ref a) := .lst ht hu V.len V.get
theorem VV.tupI {xs : List AV} {v : Value} (V : VV W s ρ σ (.tup xs) v) : ∃ a vs, v = .ref a ∧ s.heap.IsTuple a vs.toArray ∧ Unt ρ σ a ∧ VVs W s ρ σ xs vs := by
  cases V with
  | tup ht hu hl hv => exact ⟨_, _, rfl, ht, hu, .of hl hv⟩
theorem VV.lstI {xs : List AV} {v : Value} (V : VV W s ρ σ (.lst xs) v) : ∃ a vs, v = .ref a ∧ s.heap.IsList a vs.toArray ∧ Unt ρ σ a ∧ VVs W s ρ σ xs vs := by
  cases V with
  | lst ht hu hl hv => exact ⟨_, _, rfl, ht, hu, .of hl hv⟩
theorem VV.intI {e : IE} {v : Value} (V : VV W s ρ σ (.int e) v) : ∃ t, v = .int (e.den W.θ) t := by cases V with | int e t => exact ⟨t, rfl⟩
theorem VV.strI {e : List Nat} {v : Value} (V : VV W s ρ σ (.str e) v) : ∃ t, v = .str ⟨e.toArray⟩ t := by cases V with | str e t => exact ⟨t, rfl⟩
theorem VV.boolI {b : Bool} {v : Value} (V : VV W s ρ σ (.bool b) v) : v = .bool b := by cases V; rfl
theorem VV.valI {u : Value} {v : Value} (V : VV W s ρ σ (.val u) v) : v = u := by cases V; rfl
theorem VV.noneI {v : Value} (V : VV W s ρ σ .none v) : v = .none := by cases V; rfl
theorem VV.refI {i : Nat} {v : Value} (V : VV W s ρ σ (.ref i) v) : v = .ref (ρ i) ∧ i < σ.n := by cases V with | ref i h => exact ⟨rfl, h⟩
theorem VVs.mono {s₁ : Shared} (M : Mono s.heap ρ σ s₁.heap ρ' σ') : ∀ {xs : List AV} {vs : List Value}, VVs W s ρ σ xs vs → VVs W s₁ ρ' σ' xs vs
  | [], [], _ => trivial
  | _ :: _, _ :: _, ⟨a, b⟩ => ⟨VR.mono M a, VVs.mono M b⟩
  | [], _ :: _, h => h.elim
  | _ :: _, [], h => h.elim

/-- entry by entry -/
noncomputable def DVs {κ : Type} (W : Wd) (s : Shared) (ρ : Nat → Addr) (σ : St) : List (κ × AV) → List (κ × Value) → Prop
  | [], [] => True
  | x :: xs, v :: vs => (x.1 = v.1 ∧ VV W s ρ σ x.2 v.2) ∧ DVs W s ρ σ xs vs
  | _, _ => False
section
variable {κ : Type}
theorem DVs.len : ∀ {xs : List (κ × AV)} {vs : List (κ × Value)}, DVs W s ρ σ xs vs → xs.length = vs.length
  | [], [], _ => rfl
  | _ :: _, _ :: _, ⟨_, b⟩ => congrArg (· + 1) (DVs.len b)
  | [], _ :: _, h => h.elim
  | _ :: _, [], h => h.elim
theorem DVs.get : ∀ {xs : List (κ × AV)} {vs : List (κ × Value)}, DVs W s ρ σ xs vs → ∀ (i : Nat) x v, xs[i]? = some x → vs[i]? = some v → x.1 = v.1 ∧ VV W s ρ σ x.2 v.2
  | [], [], _, _, _, _, e, _ => by simp at e
  | a :: xs, b :: vs, ⟨p, q⟩, 0, x, v, e, e' => by
    simp at e e'
    subst e e'; exact p
  | a :: xs, b :: vs, ⟨p, q⟩, i + 1, x, v, e, e' => DVs.get q i x v (by simpa using e) (by simpa using e')
  | [], _ :: _, h, _, _, _, _, _ => h.elim
  | _ :: _, [], h, _, _, _, _, _ => h.elim
theorem DVs.of : ∀ {xs : List (κ × AV)} {vs : List (κ × Value)}, xs.length = vs.length → (∀ (i : Nat) x v, xs[i]? = some x → vs[i]? = some v → x.1 = v.1) →
    (∀ (i : Nat) x v, xs[i]? = some x → vs[i]? = some v → VV W s ρ σ x.2 v.2) → DVs W s ρ σ xs vs
  | [], [], _, _, _ => trivial
  | x :: xs, v :: vs, hl, h, h' => ⟨⟨h 0 x v rfl rfl, h' 0 x v rfl rfl⟩, DVs.of (Nat.succ.inj hl) (fun i x' v' e e' => h (i + 1) x' v' (by simpa using e) (by simpa using e')) fun i x' v' e e' => h' (i + 1) x' v' (by simpa using e) (by simpa using e')⟩
  | [], _ :: _, hl, _, _ => by simp at hl
  | _ :: _, [], hl, _, _ => by simp at hl
theorem DVs.mv (R : Rel W.prog W.w W.θ h₀ ρ σ s.heap) (m : MV W h₀ ρ σ s ρ' σ' s') : ∀ {xs : List (κ × AV)} {vs : List (κ × Value)}, DVs W s ρ σ xs vs → DVs W s' ρ' σ' xs vs
  | [], [], _ => trivial
  | _ :: _, _ :: _, ⟨⟨e, a⟩, b⟩ => ⟨⟨e, m.vr R a⟩, DVs.mv R m b⟩
  | [], _ :: _, h => h.elim
  | _ :: _, [], h => h.elim
theorem DVs.keys : ∀ {xs : List (κ × AV)} {vs : List (κ × Value)}, DVs W s ρ σ xs vs → xs.map (·.1) = vs.map (·.1)
  | [], [], _ => rfl
  | _ :: _, _ :: _, ⟨⟨e, _⟩, b⟩ => by simp only [List.map_cons, e, DVs.keys b]
  | [], _ :: _, h => h.elim
  | _ :: _, [], h => h.elim
theorem DVs.look [DecidableEq κ] [BEq κ] [LawfulBEq κ] {y : AV} {k : κ} : ∀ {xs : List (κ × AV)} {vs : List (κ × Value)}, DVs W s ρ σ xs vs → xs.lookup k = some y → ∃ v, valueAt vs k = some v ∧ VV W s ρ σ y v
  | [], [], _, e => by cases e
  | (a, x) :: xs, (b, v) :: vs, ⟨⟨e, h⟩, q⟩, e' => by
    simp only at e h
    subst e
    rw [List.lookup_cons] at e'
    by_cases hk : k = a
    · subst hk
      rw [beq_self_eq_true] at e'
      cases e'
      exact ⟨v, by simp [valueAt], h⟩
    · have hk' : (k == a) = false := by simpa using hk
      rw [hk'] at e'
      obtain ⟨u, hu, hv⟩ := DVs.look q e'
      refine ⟨u, ?_, hv⟩
      unfold valueAt at hu ⊢
      rw [List.find?_cons]
      have : decide (a = k) = false := by simpa using Ne.symm hk
      simp only [this]
      exact hu
  | [], _ :: _, h, _ => h.elim
  | _ :: _, [], h, _ => h.elim
end
theorem VV.dicII {xs : List (Int × AV)} {v : Value} (V : VV W s ρ σ (.dicI xs) v) : ∃ a kvs ep, v = .ref a ∧ s.heap.DictAt (intKind W.prog W.w) a kvs ep ∧ Unt ρ σ a ∧ (a == sysModules) = false ∧ DVs W s ρ σ xs kvs := by
  cases V with
  | dicI ht hu hs hl hk hv => exact ⟨_, _, _, rfl, ht, hu, hs, .of hl hk hv⟩
theorem VV.dicSI {xs : List (Str × AV)} {v : Value} (V : VV W s ρ σ (.dicS xs) v) : ∃ a kvs ep, v = .ref a ∧ s.heap.DictAt (strKind W.prog W.w) a kvs ep ∧ Unt ρ σ a ∧ (a == sysModules) = false ∧ DVs W s ρ σ xs kvs := by
  cases V with
  | dicS ht hu hs hl hk hv => exact ⟨_, _, _, rfl, ht, hu, hs, .of hl hk hv⟩
theorem VV.dicI' {a : Addr} {xs : List (Int × AV)} {kvs : List (Int × Value)} {ep : Nat} (V : DVs W s ρ σ xs kvs) (ht : s.heap.DictAt (intKind W.prog W.w) a kvs ep) (hu : Unt ρ σ a) (hs : (a == sysModules) = false) : VV W s ρ σ (.dicI xs) (.ref a) :=
  .dicI ht hu hs V.len (fun i x v e e' => (V.get i x v e e').1) fun i x v e e' => (V.get i x v e e').2

/-! equality of ints -/
theorem polyOf_den (ctx : Lean.RArray Int) : ∀ e : IE, Lean.Grind.CommRing.Expr.denote ctx (polyOf e) = e.den ctx.get
  | .c n => by
    show Lean.Grind.CommRing.denoteInt (α := Int) n = n
    unfold Lean.Grind.CommRing.denoteInt
    cases n with
    | ofNat n => cases n <;> rfl
    | negSucc n => rfl
  | .v i => rfl
  | .add a b => by
    show Lean.Grind.CommRing.Expr.denote ctx (polyOf a) + Lean.Grind.CommRing.Expr.denote ctx (polyOf b) = _
    rw [polyOf_den ctx a, polyOf_den ctx b]; rfl
  | .sub a b => by
    show Lean.Grind.CommRing.Expr.denote ctx (polyOf a) - Lean.Grind.CommRing.Expr.denote ctx (polyOf b) = _
    rw [polyOf_den ctx a, polyOf_den ctx b]; rfl
  | .mul a b => by
    show Lean.Grind.CommRing.Expr.denote ctx (polyOf a) * Lean.Grind.CommRing.Expr.denote ctx (polyOf b) = _
    rw [polyOf_den ctx a, polyOf_den ctx b]; rfl
  | .neg a => by
    show - Lean.Grind.CommRing.Expr.denote ctx (polyOf a) = _
    rw [polyOf_den ctx a]; rfl

/-- the letters: some array of small ints -/
noncomputable def ThOk (W : Wd) : Prop := ∃ ctx : Lean.RArray Int, W.θ = ctx.get ∧ ∀ i, (ctx.get i).natAbs ≤ lettersB

theorem sameI_ok (hθ : ThOk W) {a b : IE} (e : sameI a b = true) : a.den W.θ = b.den W.θ := by
  obtain ⟨ctx, h, _⟩ := hθ
  have := Lean.Grind.CommRing.Expr.eq_of_toPoly_eq ctx (polyOf a) (polyOf b) e
  rw [polyOf_den, polyOf_den] at this
  rw [h]; exact this
theorem beq_dec (a b : Int) : (a == b) = decide (a = b) := by by_cases h : a = b <;> simp [h]
theorem eqI_ok (hθ : ThOk W) {a b : IE} {r : Bool} (e : eqI a b = some r) : decide (a.den W.θ = b.den W.θ) = r := by
  unfold eqI at e
  split at e
  · rename_i m n
    cases e
    show decide (m = n) = (m == n)
    by_cases h : m = n <;> simp [h]
  · split at e
    · rename_i h
      cases e
      simpa using sameI_ok hθ h
    · first | exact no e | cases e
theorem bnd_ok (hθ : ThOk W) {a : IE} (h : a.bnd lettersB < 2 ^ 63) {b : Int} : IntMulOk (a.den W.θ) b := by
  obtain ⟨ctx, e, hb⟩ := hθ
  have := IE.bnd_le (θ := W.θ) (B := lettersB) (fun i => by rw [e]; exact hb i) a
  exact .of_left (intBits_le_64 (by omega) (by omega))

theorem eqIs_ok (hθ : ThOk W) : ∀ {xs ys : List AV} {r : Bool} {vs us : List Value}, eqIs xs ys = some r → allInts xs = true → allInts ys = true → VVs W s ρ σ xs vs → VVs W s ρ σ ys us →
    ∃ ns ms, IntsAre vs ns ∧ IntsAre us ms ∧ decide (ns = ms) = r := by
  have hints : ∀ {xs : List AV} {vs : List Value}, allInts xs = true → VVs W s ρ σ xs vs → ∃ ns, IntsAre vs ns ∧ ns = xs.filterMap (fun x => match x with | .int e => some (e.den W.θ) | _ => none) := by
    intro xs
    induction xs with
    | nil => intro vs _ V; cases vs with
      | nil => exact ⟨[], .nil, rfl⟩
      | cons => exact V.elim
    | cons x xs ih => intro vs ha V; cases vs with
      | nil => exact V.elim
      | cons v vs =>
        cases x <;> try (cases ha; done)
        rename_i e
        obtain ⟨t, rfl⟩ := VV.intI V.1
        obtain ⟨ns, hn, en⟩ := ih ha V.2
        exact ⟨e.den W.θ :: ns, .cons _ t hn, by simp [en]⟩
  intro xs ys r vs us e ha hb V U
  obtain ⟨ns, hn, en⟩ := hints ha V
  obtain ⟨ms, hm, em⟩ := hints hb U
  refine ⟨ns, ms, hn, hm, ?_⟩
  subst en em
  clear hn hm V U hints
  induction xs generalizing ys r with
  | nil =>
    cases ys with
    | nil => cases e; rfl
    | cons y ys =>
      cases y <;> try (cases hb; done)
      cases e
      simp
  | cons x xs ih =>
    cases x <;> try (cases ha; done)
    cases ys with
    | nil => cases e; simp
    | cons y ys =>
      cases y <;> try (cases hb; done)
      rename_i a b
      simp only [eqIs] at e
      split at e
      · rename_i h
        have h₁ := eqI_ok hθ h
        have h₂ := ih e ha hb
        simp only [List.filterMap_cons, List.cons.injEq, Bool.decide_and, h₁, h₂, Bool.true_and]
      · rename_i h
        cases e
        have h₁ := eqI_ok hθ h
        simp only [List.filterMap_cons, List.cons.injEq, Bool.decide_and, h₁, Bool.false_and]
      · first | exact no e | cases e

theorem lst_get (G : Gd W h₀ k c A env ρ σ s) {i : Nat} {its : List AV} (g : σ.get i = some (.list its)) : ∃ vs n, s.heap.get? (ρ i) = some { cls := .type "list", data := .seq vs.toArray n } ∧ VVs W s ρ σ its vs := by
  obtain ⟨_, co, e, r⟩ := G.rel.ob i _ g
  cases r with
  | list hl hv => exact ⟨_, _, e, .of hl hv⟩
theorem acc_get (G : Gd W h₀ k c A env ρ σ s) {i : Nat} {its : List AV} (g : σ.get i = some (.acc its)) : ∃ vs n dx es m, s.heap.get? (ρ i) = some ⟨.ref 122, some dx, .seq vs.toArray n, #[]⟩ ∧ VVs W s ρ σ its vs ∧
    s.heap.get? dx = some (dictOf es m) ∧ Unt ρ σ dx ∧ (∀ x : Str, x ≠ "_initial_size" → getL x es = some none) := by
  obtain ⟨_, co, e, r⟩ := G.rel.ob i _ g
  cases r with
  | acc hl hv hd hu hg => exact ⟨_, _, _, _, _, e, .of hl hv, hd, hu, hg⟩

theorem eqD_ok (hθ : ThOk W) {kb : List (Int × Value)} {y : List (Int × AV)} (Y : DVs W s ρ σ y kb) {A : Around} : ∀ {x : List (Int × AV)} {ka : List (Int × Value)}, DVs W s ρ σ x ka →
    x.all (fun kv => match kv.2, y.lookup kv.1 with | .int a, some (.int b) => eqI a b == some true | _, _ => false) = true → KeqHits A s kb ka true
  | [], [], _, _ => .nil
  | (k, u) :: xs, (k', v) :: vs, ⟨⟨e, V⟩, q⟩, h => by
    rw [List.all_cons, Bool.and_eq_true] at h
    obtain ⟨h1, h2⟩ := h
    simp only at e h1 V
    subst e
    split at h1
    · rename_i b z hl
      obtain ⟨zv, hz, Z⟩ := Y.look hl
      obtain ⟨t, rfl⟩ := VV.intI V
      obtain ⟨t', rfl⟩ := VV.intI Z
      have := eqI_ok hθ (by simpa using h1 : eqI _ _ = some true)
      have hh := KeqHits.hit (A := A) (s := s) hz (SeqAt.EqAt.int_int (b.den W.θ) t (z.den W.θ) t') (eqD_ok hθ Y q h2)
      have e1 : (b.den W.θ == z.den W.θ) = true := by simpa using this
      rw [e1] at hh
      exact hh
    · first | exact no h1 | cases h1
  | [], _ :: _, h, _ => h.elim
  | _ :: _, [], h, _ => h.elim

theorem ordI_eq {f : Int → Int → Bool} {x y : IE} {r : Bool} (e : ordI f x y = some r) : ∃ m n, x = .c m ∧ y = .c n ∧ f m n = r := by
  unfold ordI at e
  cases h : iConst x with
  | none => rw [h] at e; first | exact no e | cases e
  | some m =>
    cases h' : iConst y with
    | none => rw [h, h'] at e; first | exact no e | cases e
    | some n =>
      rw [h, h'] at e
      exact ⟨m, n, iConst_eq h, iConst_eq h', Option.some.inj e⟩
theorem cmpI_ok (hθ : ThOk W) {op : CmpOp} {x y : IE} {r : Bool} {t t' : Tok} (e : cmpI op x y = some r) {Q : Value → Shared → Prop} (h : Q (.bool r) s) :
    wpAny (model W.prog W.w) A (compareOp op (.int (x.den W.θ) t) (.int (y.den W.θ) t')) Q E s := by
  cases op with
  | Lt => obtain ⟨m, n, rfl, rfl, rfl⟩ := ordI_eq e; exact PyProof.Rows.lt_int h
  | Gt => obtain ⟨m, n, rfl, rfl, rfl⟩ := ordI_eq e; exact PyProof.Rows.gt_int h
  | LtE => obtain ⟨m, n, rfl, rfl, rfl⟩ := ordI_eq e; exact PyProof.Rows.le_int h
  | Eq =>
    have := eqI_ok hθ e
    refine PyProof.Rows.eq_int ?_
    rw [show ((IE.den W.θ x) == (IE.den W.θ y)) = r from by rw [← this]; exact beq_dec _ _]; exact h
  | NotEq =>
    obtain ⟨r', q, e'⟩ := Option.map_eq_some_iff.mp e
    have := eqI_ok hθ q
    refine PyProof.Rows.ne_int ?_
    rw [show ((IE.den W.θ x) != (IE.den W.θ y)) = r from by rw [← e', ← this, bne, beq_dec]]; exact h
  | _ => first | exact no e | cases e
theorem cmpS_ok {op : CmpOp} {x y : List Nat} {r : Bool} {t t' : Tok} (e : cmpS op x y = some r) {Q : Value → Shared → Prop} (h : Q (.bool r) s) :
    wpAny (model W.prog W.w) A (compareOp op (.str ⟨x.toArray⟩ t) (.str ⟨y.toArray⟩ t')) Q E s := by
  cases op with
  | Lt => cases e; exact PyProof.Rows.lt_str h
  | Gt => cases e; exact PySem.P.gt_str h
  | Eq => cases e; exact PySem.P.eq_str h
  | NotEq => cases e; exact PySem.P.ne_str h
  | _ => first | exact no e | cases e
theorem neL_ok (hθ : ThOk W) {x y : List AV} {r : Bool} (e : neL x y = some r) {vs us : List Value} (V : VVs W s ρ σ x vs) (U : VVs W s ρ σ y us) : ∃ ns ms, IntsAre vs ns ∧ IntsAre us ms ∧ (!decide (ns = ms)) = r := by
  unfold neL at e
  split at e
  · rename_i hi
    obtain ⟨hi₁, hi₂⟩ := Bool.and_eq_true_iff.mp hi
    obtain ⟨r', q, e'⟩ := Option.map_eq_some_iff.mp e
    obtain ⟨ns, ms, h1, h2, h3⟩ := eqIs_ok hθ q hi₁ hi₂ V U
    exact ⟨ns, ms, h1, h2, by rw [h3]; exact e'⟩
  · first | exact no e | cases e
theorem neA_ok (hθ : ThOk W) {a b : AV} {r : Bool} {v u : Value} (e : neA a b σ = some r) (G : Gd W h₀ k c A env ρ σ s) (V : VV W s ρ σ a v) (U : VV W s ρ σ b u) {Q : Value → Shared → Prop} (h : Q (.bool r) s) :
    wpAny (model W.prog W.w) A (compareOp .NotEq v u) Q E s := by
  have hu : A.units + 64 < cLine := by have := G.units; omega
  cases a with
  | lst x =>
    cases b with
    | lst y =>
      obtain ⟨a, vs, rfl, hl, _, hv⟩ := V.lstI
      obtain ⟨b, us, rfl, hl', _, hv'⟩ := U.lstI
      obtain ⟨ns, ms, h1, h2, h3⟩ := neL_ok hθ e hv hv'
      exact ne_intsK hl h1 hl' h2 hu (by rw [h3]; exact h)
    | _ => first | exact no e | cases e
  | ref i =>
    cases b with
    | lst y =>
      obtain ⟨rfl, _⟩ := V.refI
      obtain ⟨b, us, rfl, hl', _, hv'⟩ := U.lstI
      dsimp only [neA] at e
      split at e
      · rename_i x g
        obtain ⟨vs, n, hg, hv⟩ := lst_get G g
        obtain ⟨ns, ms, h1, h2, h3⟩ := neL_ok hθ e hv hv'
        exact ne_intsK ⟨_, hg, rfl, _, rfl⟩ h1 hl' h2 hu (by rw [h3]; exact h)
      · first | exact no e | cases e
    | _ => first | exact no e | cases e
  | dicI x =>
    cases b with
    | dicI y =>
      obtain ⟨a, ka, ep, rfl, ha, _, hsa, hva⟩ := V.dicII
      obtain ⟨b, kb, ep', rfl, hb, _, hsb, hvb⟩ := U.dicII
      obtain ⟨r', q, e'⟩ := Option.map_eq_some_iff.mp (show (eqD x y).map (!·) = some r from e)
      unfold eqD at q
      split at q
      · rename_i hh
        obtain ⟨hh1, hh2⟩ := Bool.and_eq_true_iff.mp hh
        cases q
        cases e'
        refine keq_ne (r := true) hsa hsb ha.dictOf hb.dictOf (by omega) (fun _ => eqD_ok hθ hvb hva hh2) ?_
        have : (ka.length == kb.length) = true := by rw [← hva.len, ← hvb.len]; exact hh1
        rw [this]; exact h
      · first | exact no q | cases q
    | _ => first | exact no e | cases e
  | _ => first | exact no e | cases e
theorem neO_ok (hθ : ThOk W) {op : CmpOp} {a b : AV} {r : Bool} {v u : Value} (e : neO op a b σ = some r) (G : Gd W h₀ k c A env ρ σ s) (V : VV W s ρ σ a v) (U : VV W s ρ σ b u) {Q : Value → Shared → Prop} (h : Q (.bool r) s) :
    wpAny (model W.prog W.w) A (compareOp op v u) Q E s := by
  cases op with
  | NotEq => exact neA_ok hθ e G V U h
  | _ => first | exact no e | cases e
theorem cmpA_ok (hθ : ThOk W) {op : CmpOp} {a b : AV} {r : Bool} {v u : Value} (e : cmpA op a b σ = some r) (G : Gd W h₀ k c A env ρ σ s) (V : VV W s ρ σ a v) (U : VV W s ρ σ b u) {Q : Value → Shared → Prop} (h : Q (.bool r) s) :
    wpAny (model W.prog W.w) A (compareOp op v u) Q E s := by
  cases a with
  | int x =>
    cases b with
    | int y => obtain ⟨t, rfl⟩ := V.intI; obtain ⟨t', rfl⟩ := U.intI; exact cmpI_ok hθ e h
    | _ => first | exact no e | cases e
  | str x =>
    cases b with
    | str y => obtain ⟨t, rfl⟩ := V.strI; obtain ⟨t', rfl⟩ := U.strI; exact cmpS_ok e h
    | _ => first | exact no e | cases e
  | _ => exact neO_ok hθ e G V U h

theorem truthA_ok {a : AV} {r : Bool} {v : Value} (e : truthA a σ = some r) (G : Gd W h₀ k c A env ρ σ s) (V : VV W s ρ σ a v) {Q : Bool → Shared → Prop} (h : ∀ s', MV W h₀ ρ σ s ρ σ s' → Q r s') :
    wpAny (model W.prog W.w) A (truthy v) Q E s := by
  unfold truthA at e
  split at e
  · cases e
    rw [V.boolI]
    exact wpAny_truthy_bool (h s (.refl G.rel))
  · obtain ⟨rfl, _⟩ := V.refI
    split at e
    · rename_i its g
      split at e
      · rename_i hz
        cases e
        obtain ⟨vs, n, hg, hv⟩ := lst_get G g
        refine wpAny_truthy_list ⟨_, hg, rfl, _, rfl⟩ ?_ ?_
        · rw [List.size_toArray, ← hv.len]; omega
        · have : (!(vs.toArray.isEmpty)) = !its.isEmpty := by
            have := hv.len
            cases its <;> cases vs <;> simp_all
          rw [this]
          exact h _ (Mv.toks G.rel)
      · first | exact no e | cases e
    · first | exact no e | cases e
  · first | exact no e | cases e
end
end Mine
end

section
open PySem PySem.Spec PySem.Calls PyProof.Rows PySem.W
set_option Elab.async false
namespace Mine
section
variable {W : Wd} {h₀ : Heap} {k : Nat} {c : Ctx} {A : Around} {env : Env} {ρ ρ' : Nat → Addr} {σ σ' σ'' : St} {s s' : Shared} {E : Value → Shared → Prop}

theorem mv_push (R : Rel W.prog W.w W.θ h₀ ρ σ s.heap) (o : Obj) : MV W h₀ ρ σ s ρ σ { s with heap := s.heap.push o } := Mv.heap (tk := s.toks) R fun _ _ e => Heap.get?_push_of_some o e
theorem mk_tup (R : Rel W.prog W.w W.θ h₀ ρ σ s.heap) {xs : List AV} {vs : List Value} (V : VVs W s ρ σ xs vs) :
    VV W { s with heap := s.heap.push { cls := .type "tuple", data := .seq vs.toArray } } ρ σ (.tup xs) (.ref s.heap.objs.size) :=
  .tup' (VVs.mv R (mv_push R _) V) ⟨_, Heap.get?_push_size _ rfl, rfl, _, rfl⟩ R.unt_size
theorem mk_lst (R : Rel W.prog W.w W.θ h₀ ρ σ s.heap) {xs : List AV} {vs : List Value} (V : VVs W s ρ σ xs vs) :
    VV W { s with heap := s.heap.push { cls := .type "list", data := .seq vs.toArray } } ρ σ (.lst xs) (.ref s.heap.objs.size) :=
  .lst' (VVs.mv R (mv_push R _) V) ⟨_, Heap.get?_push_size _ rfl, rfl, _, rfl⟩ R.unt_size

theorem addT_ok {x y : List AV} (hz : x.length + y.length ≤ 1000) {v u : Value} (G : Gd W h₀ k c A env ρ σ s) (V : VV W s ρ σ (.tup x) v) (U : VV W s ρ σ (.tup y) u) {Q : Value → Shared → Prop}
    (h : ∀ z s', MV W h₀ ρ σ s ρ σ s' → VV W s' ρ σ (.tup (x ++ y)) z → Q z s') : wpAny (model W.prog W.w) A (binaryOp .Add v u) Q E s := by
  obtain ⟨a, vs, rfl, ht, _, hv⟩ := V.tupI
  obtain ⟨b, us, rfl, hb, _, hu⟩ := U.tupI
  obtain ⟨⟨cls, dd, data, sl⟩, ho, hc, n, hd⟩ := id ht
  obtain ⟨⟨cls2, dd2, data2, sl2⟩, ho2, hc2, n2, hd2⟩ := id hb
  simp only at hc hd hc2 hd2
  subst hc hd hc2 hd2
  have e : vs.toArray ++ us.toArray = (vs ++ us).toArray := by simp
  by_cases q : vs = []
  · refine concat_meets ⟨_, ho, rfl⟩ ⟨_, ho2, rfl⟩ noFill_tuple_add seq_tuple_add PySem.F.slot_tuple_add PySem.F.entry_tuple_add (PySem.F.args_tuple_add_2 _ _)
      (tuple_addW0 a b vs.toArray us.toArray n n2 dd dd2 sl sl2 (by simp [q])) ⟨ho, ho2, ?_⟩
    subst q
    have : ∀ {xs : List AV}, VVs W s ρ σ xs [] → xs = [] := by
      intro xs h; cases xs with
      | nil => rfl
      | cons => exact h.elim
    have ex := this hv
    subst ex
    exact h (.ref b) s (.refl G.rel) (.tup' hu hb ‹Unt ρ σ b›)
  · by_cases q2 : us = []
    · refine concat_meets ⟨_, ho, rfl⟩ ⟨_, ho2, rfl⟩ noFill_tuple_add seq_tuple_add PySem.F.slot_tuple_add PySem.F.entry_tuple_add (PySem.F.args_tuple_add_2 _ _)
        (tuple_addW1 a b vs.toArray us.toArray n n2 dd dd2 sl sl2 (by simpa using q) (by simp [q2])) ⟨ho, ho2, ?_⟩
      subst q2
      have : ∀ {xs : List AV}, VVs W s ρ σ xs [] → xs = [] := by
        intro xs h; cases xs with
        | nil => rfl
        | cons => exact h.elim
      have ex := this hu
      subst ex
      exact h (.ref a) s (.refl G.rel) (.tup' (by rw [List.append_nil]; exact hv) ht ‹Unt ρ σ a›)
    · refine concat_meets ⟨_, ho, rfl⟩ ⟨_, ho2, rfl⟩ noFill_tuple_add seq_tuple_add PySem.F.slot_tuple_add PySem.F.entry_tuple_add (PySem.F.args_tuple_add_2 _ _)
        (tuple_addW2 a b vs.toArray us.toArray n n2 dd dd2 sl sl2 (by simpa using q) (by simpa using q2) (by
          rw [List.size_toArray, List.size_toArray, ← hv.len, ← hu.len]
          exact Nat.le_trans hz (by decide))) ⟨ho, ho2, ?_⟩
      rw [e]
      exact h _ _ (mv_push G.rel _) (mk_tup G.rel (hv.append hu))
theorem binI_ok (hθ : ThOk W) {op : Operator} {x y : IE} {r : AV} {t t' : Tok} (e : binI op x y = some r) (G : Gd W h₀ k c A env ρ σ s) {Q : Value → Shared → Prop}
    (h : ∀ z s', MV W h₀ ρ σ s ρ σ s' → VV W s' ρ σ r z → Q z s') : wpAny (model W.prog W.w) A (binaryOp op (.int (x.den W.θ) t) (.int (y.den W.θ) t')) Q E s := by
  cases op with
  | Add => cases e; exact PyProof.Rows.add_int (h _ _ (Mv.toks G.rel) (by rw [← iAdd_den]; exact .int _ _))
  | Sub => cases e; exact PyProof.Rows.sub_int (h _ _ (Mv.toks G.rel) (by rw [← iSub_den]; exact .int _ _))
  | Mult =>
    dsimp only [binI] at e
    split at e
    · rename_i hb
      cases e
      exact PyProof.Rows.mul_int (h _ _ (Mv.toks G.rel) (by rw [← iMul_den]; exact .int _ _)) (bnd_ok hθ hb)
    · first | exact no e | cases e
  | _ => first | exact no e | cases e
theorem binA_ok (hθ : ThOk W) {op : Operator} {a b r : AV} {v u : Value} (e : binA op a b = some r) (G : Gd W h₀ k c A env ρ σ s) (V : VV W s ρ σ a v) (U : VV W s ρ σ b u) {Q : Value → Shared → Prop}
    (h : ∀ x s', MV W h₀ ρ σ s ρ σ s' → VV W s' ρ σ r x → Q x s') : wpAny (model W.prog W.w) A (binaryOp op v u) Q E s := by
  cases a with
  | int x =>
    cases b with
    | int y => obtain ⟨t, rfl⟩ := V.intI; obtain ⟨t', rfl⟩ := U.intI; exact binI_ok hθ e G h
    | _ => first | exact no e | cases e
  | tup x =>
    cases b with
    | tup y =>
      cases op with
      | Add =>
        change (if x.length + y.length ≤ 1000 then some (.tup (x ++ y)) else none) = some r at e
        split at e
        · rename_i hz
          cases e
          exact addT_ok hz G V U h
        · first | exact no e | cases e
      | _ => first | exact no e | cases e
    | _ => first | exact no e | cases e
  | _ => first | exact no e | cases e

theorem neg_ok {a : IE} {v : Value} (G : Gd W h₀ k c A env ρ σ s) (V : VV W s ρ σ (.int a) v) {Q : Value → Shared → Prop} (h : ∀ x s', MV W h₀ ρ σ s ρ σ s' → VV W s' ρ σ (.int (iNeg a)) x → Q x s') :
    wpAny (model W.prog W.w) A (unaryOp .USub v) Q E s := by
  obtain ⟨t, rfl⟩ := V.intI
  exact PyProof.Rows.neg_int (h _ _ (Mv.toks G.rel) (by rw [← iNeg_den]; exact .int _ _))

/-! items -/
noncomputable def notSlice (e : Expr) : Bool := !isSl e
theorem sub_operate {slice : Expr} (h : notSlice slice = true) (o i : Value) : subscripted slice false o i = operate [o, i] (getItem o i) := by
  cases slice <;> first | rfl | cases h

theorem nth_ok {its : List AV} {n : Int} {r : AV} {vs : List Value} (e : nth its n = some r) (V : VVs W s ρ σ its vs) :
    (0 ≤ n ∧ ∃ v, vs[n.toNat]? = some v ∧ VV W s ρ σ r v) ∨ (n < 0 ∧ -(vs.length : Int) ≤ n ∧ ∃ v, vs[(n + vs.length).toNat]? = some v ∧ VV W s ρ σ r v) := by
  have get : ∀ j, its[j]? = some r → ∃ v, vs[j]? = some v ∧ VV W s ρ σ r v := fun j hj => by
    obtain ⟨hlt, _⟩ := List.getElem?_eq_some_iff.mp hj
    have : j < vs.length := by rw [← V.len]; exact hlt
    exact ⟨vs[j], List.getElem?_eq_getElem this, V.get j r _ hj (List.getElem?_eq_getElem this)⟩
  unfold nth at e
  split at e
  · exact .inl ⟨by assumption, get _ e⟩
  · split at e
    · rename_i h1 h2
      rw [V.len] at h2 e
      exact .inr ⟨by omega, by omega, get _ e⟩
    · first | exact no e | cases e
theorem VV.intcI {n : Int} {v : Value} (V : VV W s ρ σ (.int (.c n)) v) : ∃ t, v = .int n t := VV.intI V
theorem nth_idx {its : List AV} {n : Int} {r : AV} {vs : List Value} (e : nth its n = some r) (V : VVs W s ρ σ its vs) : ∃ j v, seqIndex? n vs.length = some j ∧ vs[j]? = some v ∧ VV W s ρ σ r v := by
  rcases nth_ok e V with ⟨h0, v, hv, V'⟩ | ⟨h0, h1, v, hv, V'⟩
  · refine ⟨n.toNat, v, ?_, hv, V'⟩
    obtain ⟨hlt, _⟩ := List.getElem?_eq_some_iff.mp hv
    unfold seqIndex?
    have e1 : ¬ n < 0 := by omega
    have e2 : n < vs.length := by omega
    simp [e1, h0, e2]
  · refine ⟨(n + vs.length).toNat, v, ?_, hv, V'⟩
    obtain ⟨hlt, _⟩ := List.getElem?_eq_some_iff.mp hv
    unfold seqIndex?
    have e1 : 0 ≤ n + vs.length := by omega
    have e2 : n + vs.length < vs.length := by omega
    simp only [h0, if_true, e1, e2, decide_true, Bool.and_self]

/-- the list subclass' item -/
noncomputable def AccGet (W : Wd) : Prop := ∀ (A : Around) (s : Shared) (a dx : Addr) (vs : List Value) (n j : Nat) (es : List DictEntry) (m : Nat) (i : Int) (t : Tok) (x : Value) (value slice : Expr) (Q : Value → Shared → Prop) (E : Value → Shared → Prop),
  W.K.In s.heap → s.heap.get? a = some ⟨.ref 122, some dx, .seq vs.toArray n, #[]⟩ → s.heap.get? dx = some (dictOf es m) → i < 0 → notSlice slice = true → -(2 ^ 63) ≤ i → i < 2 ^ 63 → seqIndex? i vs.length = some j → vs[j]? = some x → Q x s → wpAny (model W.prog W.w) A (subscriptTail value slice (.ref a) (.int i t)) Q E s

theorem subI_ok (hacc : AccGet W) {a r : AV} {n : Int} {t : Tok} {v : Value} (e : subI a n σ = some r) (G : Gd W h₀ k c A env ρ σ s) (V : VV W s ρ σ a v) {value slice : Expr} (hn : notSlice slice = true) {Q : Value → Shared → Prop}
    (h : ∀ x s', MV W h₀ ρ σ s ρ σ s' → VV W s' ρ σ r x → Q x s') : wpAny (model W.prog W.w) A (subscriptTail value slice v (.int n t)) Q E s := by
  cases a with
  | lst l =>
    obtain ⟨a, vs, rfl, hl, _, hv⟩ := V.lstI
    dsimp only [subI] at e
    split at e
    · rename_i hb
      rcases nth_ok e hv with ⟨h0, v, hx, V'⟩ | ⟨h0, h1, v, hx, V'⟩
      · refine tail_any hl.typeIs slot_list_getitem.lookup (wpAny_getItem_list hl h0 ?_ (by simpa using hx) (h _ _ (.refl G.rel) V')) (sub_operate hn _ _)
        omega
      · refine tail_any hl.typeIs slot_list_getitem.lookup (wpAny_getItem_list_neg hl h0 (by simpa using h1) ?_ (by simpa using hx) (h _ _ (.refl G.rel) V')) (sub_operate hn _ _)
        omega
    · first | exact no e | cases e
  | tup l =>
    obtain ⟨a, vs, rfl, hl, _, hv⟩ := V.tupI
    dsimp only [subI] at e
    split at e
    · rename_i hb
      obtain ⟨j, v, hj, hx, V'⟩ := nth_idx e hv
      refine tail_any hl.typeIs slot_tuple_getitem.lookup (PyProof.Rows.getItem_tuple hl ?_ ?_ (by simpa using hj) (by simpa using hx) (h _ _ (.refl G.rel) V')) (sub_operate hn _ _)
      · omega
      · omega
    · first | exact no e | cases e
  | str l =>
    obtain ⟨t', rfl⟩ := V.strI
    dsimp only [subI] at e
    split at e
    · rename_i hb
      cases q : l[n.toNat]? with
      | none => rw [q] at e; first | exact no e | cases e
      | some ch =>
        rw [q] at e
        cases e
        refine tail_any (T := "str") rfl slot_str_getitem.lookup (PyProof.Rows.getItem_str (c := ch) ?_ ?_ (h _ _ (Mv.toks G.rel) (.str [ch] _))) (sub_operate hn _ _)
        · show (decide (n < -(2 ^ 63 : Int)) || decide (n ≥ 2 ^ 63)) = false
          simp; omega
        · show (seqIndex? n (Str.length ⟨l.toArray⟩)).bind _ = some ch
          obtain ⟨hlt, _⟩ := List.getElem?_eq_some_iff.mp q
          have : seqIndex? n (Str.length ⟨l.toArray⟩) = some n.toNat := by
            show seqIndex? n l.toArray.size = _
            unfold seqIndex?
            have e1 : ¬ n < 0 := by omega
            have e2 : n < (l.length : Int) := by omega
            simp [e1, hb.1, e2]
          rw [this]
          simpa using q
    · first | exact no e | cases e
  | ref j =>
    obtain ⟨rfl, _⟩ := V.refI
    dsimp only [subI] at e
    split at e
    · rename_i its g
      obtain ⟨vs, m, dx, es, m', ho, hv, hdd, _⟩ := acc_get G g
      split at e
      · obtain ⟨j, v, hj, hx, V'⟩ := nth_idx e hv
        refine hacc A s (ρ _) dx vs m j es m' n t v value slice Q E G.kinH ho hdd (by omega) hn (by omega) (by omega) hj hx (h _ _ (.refl G.rel) V')
      · first | exact no e | cases e
    · first | exact no e | cases e
  | _ => first | exact no e | cases e
theorem subA_ok (hacc : AccGet W) {a b r : AV} {v u : Value} (e : subA a b σ = some r) (G : Gd W h₀ k c A env ρ σ s) (V : VV W s ρ σ a v) (U : VV W s ρ σ b u) {value slice : Expr} (hn : notSlice slice = true) {Q : Value → Shared → Prop}
    (h : ∀ x s', MV W h₀ ρ σ s ρ σ s' → VV W s' ρ σ r x → Q x s') : wpAny (model W.prog W.w) A (subscriptTail value slice v u) Q E s := by
  cases b with
  | int x =>
    dsimp only [subA] at e
    cases q : iConst x with
    | none => rw [q] at e; first | exact no e | cases e
    | some n =>
      rw [q] at e
      obtain rfl := iConst_eq q
      obtain ⟨t, rfl⟩ := U.intcI
      exact subI_ok hacc e G V hn h
  | str x =>
    cases a with
    | dicS es =>
      obtain ⟨t, rfl⟩ := U.strI
      obtain ⟨a, kvs, ep, rfl, ha, _, hs, hv⟩ := V.dicSI
      obtain ⟨z, hz, Z⟩ := hv.look e
      exact tail_any ha.dictOf.typeIs slot_dict_getitem.lookup (wpAny_getItem_of (knd := strKind W.prog W.w) (by simp [PySem.strKind, Value.isStrOf]) ha.dictOf.mapOf hz (h _ _ (Mv.toks G.rel) Z)) (sub_operate hn _ _)
    | _ => first | exact no e | cases e
  | _ => first | exact no e | cases e
end
end Mine
end

section
open PySem PySem.Spec PySem.Calls PyProof.Rows PySem.W
set_option Elab.async false
namespace Mine
section
variable {W : Wd} {h₀ : Heap} {k : Nat} {c : Ctx} {A : Around} {env : Env} {ρ ρ' : Nat → Addr} {σ σ' σ'' : St} {s s' : Shared} {E : Value → Shared → Prop}

/-- iteration over the list subclass -/
structure AccIt (W : Wd) : Prop where
  iter : ∀ (A : Around) (s : Shared) (l dx : Addr) (vs : List Value) (n : Nat) (es : List DictEntry) (m : Nat) (Q : Value → Shared → Prop) (E : Value → Shared → Prop), W.K.In s.heap → s.heap.get? l = some ⟨.ref 122, some dx, .seq vs.toArray n, #[]⟩ → s.heap.get? dx = some (dictOf es m) →
    Q (.ref s.heap.objs.size) { s with heap := s.heap.push { cls := .type "list_iterator", data := .fields #[.ref l, .int 0 0] } } → wpAny (model W.prog W.w) A (pyIter (.ref l)) Q E s
  next : ∀ (A : Around) (s : Shared) (it l dx : Addr) (vs : List Value) (n i : Nat) (x : Value) (Q : Option Value → Shared → Prop) (E : Value → Shared → Prop), s.heap.IsListIter it l i → s.heap.get? l = some ⟨.ref 122, some dx, .seq vs.toArray n, #[]⟩ →
    vs[i]? = some x → (∀ h', h'.IsListIter it l (i + 1) → Heap.SameBut it s.heap h' → Q (some x) { s with heap := h' }) → wpAny (model W.prog W.w) A (pyNext (.ref it)) Q E s
  fin : ∀ (A : Around) (s : Shared) (it l dx : Addr) (vs : List Value) (n i : Nat) (Q : Option Value → Shared → Prop) (E : Value → Shared → Prop), A.handled = none → s.heap.IsListIter it l i → s.heap.get? l = some ⟨.ref 122, some dx, .seq vs.toArray n, #[]⟩ →
    vs[i]? = none → (∀ h', Heap.ExtBut it s.heap h' → Q none { s with heap := h' }) → wpAny (model W.prog W.w) A (pyNext (.ref it)) Q E s

/-- the iterator I of S, k items given out -/
inductive SrcAt (W : Wd) (s : Shared) (ρ : Nat → Addr) (σ : St) (I : Addr) (k : Nat) : Src → Prop
  | lst {its : List AV} {l : Addr} {vs : List Value} : s.heap.IsListIter I l k → s.heap.IsList l vs.toArray → Unt ρ σ l → VVs W s ρ σ its vs → Unt ρ σ I → SrcAt W s ρ σ I k (.lst its)
  | tup {its : List AV} {l : Addr} {vs : List Value} : s.heap.IsTupleIter I l k → s.heap.IsTuple l vs.toArray → Unt ρ σ l → VVs W s ρ σ its vs → Unt ρ σ I → SrcAt W s ρ σ I k (.tup its)
  | rng {lo : Int} {n : Nat} : IsRangeIter s.heap I (lo + k) ((n : Int) - k) 1 → Unt ρ σ I → SrcAt W s ρ σ I k (.rng lo n)
  | itI {es : List (Int × AV)} {d : Addr} {kvs : List (Int × Value)} {ep : Nat} {ok ov : Value} : IsItemIter s.heap I d k kvs.length ep ok ov → s.heap.DictAt (intKind W.prog W.w) d kvs ep → Unt ρ σ d → DVs W s ρ σ es kvs → Unt ρ σ I → SrcAt W s ρ σ I k (.itI es)
  | vaI {es : List (Int × AV)} {d : Addr} {kvs : List (Int × Value)} {ep : Nat} : s.heap.IsValIter I d k kvs.length ep → s.heap.DictAt (intKind W.prog W.w) d kvs ep → Unt ρ σ d → DVs W s ρ σ es kvs → Unt ρ σ I → SrcAt W s ρ σ I k (.vaI es)
  | acc {i : Nat} : s.heap.IsListIter I (ρ i) k → i < σ.n → Unt ρ σ I → SrcAt W s ρ σ I k (.acc i)
variable {I : Addr} {S : Src}
theorem isList_kept {h h' : Heap} {a : Addr} {its : Array Value} (x : h.IsList a its) (hk : ∀ o, h.get? a = some o → h'.get? a = some o) : h'.IsList a its := by
  obtain ⟨o, ho, r⟩ := x
  exact ⟨o, hk o ho, r⟩
theorem isTuple_kept {h h' : Heap} {a : Addr} {its : Array Value} (x : h.IsTuple a its) (hk : ∀ o, h.get? a = some o → h'.get? a = some o) : h'.IsTuple a its := by
  obtain ⟨o, ho, r⟩ := x
  exact ⟨o, hk o ho, r⟩
theorem isListIter_kept {h h' : Heap} {a l : Addr} {i : Nat} (x : h.IsListIter a l i) (hk : ∀ o, h.get? a = some o → h'.get? a = some o) : h'.IsListIter a l i := by
  obtain ⟨o, ho, r⟩ := x
  exact ⟨o, hk o ho, r⟩
theorem isTupleIter_kept {h h' : Heap} {a l : Addr} {i : Nat} (x : h.IsTupleIter a l i) (hk : ∀ o, h.get? a = some o → h'.get? a = some o) : h'.IsTupleIter a l i := by
  obtain ⟨o, ho, r⟩ := x
  exact ⟨o, hk o ho, r⟩
theorem isValIter_kept {h h' : Heap} {a d : Addr} {i n ep : Nat} (x : h.IsValIter a d i n ep) (hk : ∀ o, h.get? a = some o → h'.get? a = some o) : h'.IsValIter a d i n ep := by
  obtain ⟨o, ho, r⟩ := x
  exact ⟨o, hk o ho, r⟩
theorem dictAt_kept {K : Type} [DecidableEq K] {prog : Program} {w : World} {knd : PySem.KeyKind prog w K} {h h' : Heap} {a : Addr} {kvs : List (K × Value)} {ep : Nat} (x : h.DictAt knd a kvs ep) (hk : ∀ o, h.get? a = some o → h'.get? a = some o) : h'.DictAt knd a kvs ep := by
  obtain ⟨o, es, ho, r⟩ := x
  exact ⟨o, es, hk o ho, r⟩
theorem dictOf_kept {K : Type} [DecidableEq K] {prog : Program} {w : World} {knd : PySem.KeyKind prog w K} {h h' : Heap} {a : Addr} {kvs : List (K × Value)} (x : h.DictOf knd a kvs) (hk : ∀ o, h.get? a = some o → h'.get? a = some o) : h'.DictOf knd a kvs := by
  obtain ⟨o, es, ep, ho, r⟩ := x
  exact ⟨o, es, ep, hk o ho, r⟩
theorem dictOf_ex {K : Type} [DecidableEq K] {prog : Program} {w : World} {knd : PySem.KeyKind prog w K} {h : Heap} {a : Addr} {kvs : List (K × Value)} (x : h.DictOf knd a kvs) : ∃ o, h.get? a = some o := by
  obtain ⟨o, es, ep, ho, r⟩ := x
  exact ⟨o, ho⟩
theorem ns_ex {h : Heap} {a : Addr} {m : Str → Option Value} (x : h.Ns a m) : ∃ o, h.get? a = some o := by
  obtain ⟨o, es, ep, ho, r⟩ := x
  exact ⟨o, ho⟩
theorem ex_lt {h : Heap} {a : Addr} (x : ∃ o, h.get? a = some o) : a < h.objs.size := by
  obtain ⟨o, ho⟩ := x
  exact Heap.lt_size ho
theorem list_ex {h : Heap} {a : Addr} {its : Array Value} (x : h.IsList a its) : ∃ o, h.get? a = some o := by
  obtain ⟨o, ho, r⟩ := x
  exact ⟨o, ho⟩
theorem Unt.mv (R : Rel W.prog W.w W.θ h₀ ρ σ s.heap) (m : MV W h₀ ρ σ s ρ' σ' s') {a : Addr} {o : Obj} (e : s.heap.get? a = some o) (u : Unt ρ σ a) : Unt ρ' σ' a := (m.mono R).unt a o e u
theorem SrcAt.mv (R : Rel W.prog W.w W.θ h₀ ρ σ s.heap) (m : MV W h₀ ρ σ s ρ' σ' s') (x : SrcAt W s ρ σ I k S) : SrcAt W s' ρ' σ' I k S := by
  cases x with
  | lst hi hl hu hv hI =>
    obtain ⟨o, ho, _⟩ := id hi
    obtain ⟨o', ho', _⟩ := id hl
    exact .lst (isListIter_kept hi fun o e => m.kept _ o e hI) (isList_kept hl fun o e => m.kept _ o e hu) (hu.mv R m ho') (hv.mv R m) (hI.mv R m ho)
  | tup hi hl hu hv hI =>
    obtain ⟨o, ho, _⟩ := id hi
    obtain ⟨o', ho', _⟩ := id hl
    exact .tup (isTupleIter_kept hi fun o e => m.kept _ o e hI) (isTuple_kept hl fun o e => m.kept _ o e hu) (hu.mv R m ho') (hv.mv R m) (hI.mv R m ho)
  | rng hi hI => exact .rng (m.kept _ _ hi hI) (hI.mv R m hi)
  | itI hi hd hu hv hI =>
    obtain ⟨o', _, ho', _⟩ := id hd
    exact .itI (m.kept _ _ hi hI) (dictAt_kept hd fun o e => m.kept _ o e hu) (hu.mv R m ho') (hv.mv R m) (hI.mv R m hi)
  | vaI hi hd hu hv hI =>
    obtain ⟨o, ho, _⟩ := id hi
    obtain ⟨o', _, ho', _⟩ := id hd
    exact .vaI (isValIter_kept hi fun o e => m.kept _ o e hI) (dictAt_kept hd fun o e => m.kept _ o e hu) (hu.mv R m ho') (hv.mv R m) (hI.mv R m ho)
  | acc hi hn hI =>
    obtain ⟨o, ho, _⟩ := id hi
    exact .acc (by rw [m.ext _ hn]; exact isListIter_kept hi fun o e => m.kept _ o e hI) (Nat.lt_of_lt_of_le hn m.n) (hI.mv R m ho)
theorem SrcAt.unt (x : SrcAt W s ρ σ I k S) : Unt ρ σ I := by cases x <;> assumption
/-- the iterator's object -/
theorem SrcAt.obj (x : SrcAt W s ρ σ I k S) : ∃ oi, s.heap.get? I = some oi ∧ notIt oi = false := by
  cases x with
  | lst hi => obtain ⟨o, ho, hc, _⟩ := hi; exact ⟨o, ho, by unfold notIt; rw [hc]; decide⟩
  | tup hi => obtain ⟨o, ho, hc, _⟩ := hi; exact ⟨o, ho, by unfold notIt; rw [hc]; decide⟩
  | rng hi => exact ⟨_, hi, by unfold notIt; exact (by decide : (!(["list_iterator", "tuple_iterator", "range_iterator", "dict_itemiterator", "dict_valueiterator", "enumerate"] : List String).contains "range_iterator") = false)⟩
  | itI hi => exact ⟨_, hi, by unfold notIt; exact (by decide : (!(["list_iterator", "tuple_iterator", "range_iterator", "dict_itemiterator", "dict_valueiterator", "enumerate"] : List String).contains "dict_itemiterator") = false)⟩
  | vaI hi => obtain ⟨o, ho, hc, _⟩ := hi; exact ⟨o, ho, by unfold notIt; rw [hc]; decide⟩
  | acc hi => obtain ⟨o, ho, hc, _⟩ := hi; exact ⟨o, ho, by unfold notIt; rw [hc]; decide⟩

/-- the turn's own letting go of a tuple -/
theorem letGo_plain {tgt : Expr} {v : Value} {o : Obj} {T : String} (ho : s.heap.get? I = some o) (hc : o.cls = .type T)
    (hT : (["enumerate", "zip", "dict_itemiterator", "dict_reverseitemiterator", "odict_iterator", "itertools.zip_longest", "itertools.pairwise"] : List String).contains T = false) {Q : Unit → Shared → Prop} (h : Q () s) :
    wpAny (model W.prog W.w) A (letOwnedTupleGo tgt (.ref I) v) Q E s := by
  have key : wpAny (model W.prog W.w) A (do
      let (.ref r, .ref a) := ((Value.ref I, v) : Value × Value) | return
      let o ← load r
      match o.cls, o.data with
      | .type n, .fields vs =>
        if ["enumerate", "zip", "dict_itemiterator", "dict_reverseitemiterator", "odict_iterator", "itertools.zip_longest", "itertools.pairwise"].contains n && vs[0]? == some (rawInt a) then
          rule "for.unpacks-the-owned-tuple"
          updateField r 0 .none
      | _, _ => pure ()) Q E s := by
    cases v <;> try exact wpAny_pure h
    refine wpAny_bind (wpAny_load ho ?_)
    rw [hc]
    cases o.data <;> try exact wpAny_pure h
    simp only [hT, Bool.false_and, Bool.false_eq_true, if_false]
    exact wpAny_pure h
  cases tgt <;> first | exact key | exact wpAny_pure h


/-- one turn: the next item and the letting go -/
theorem next_ok (hai : AccIt W) {tgt : Expr} (htg : tgtOk S tgt = true) {r : Option AV} (e : nxt S k σ = some r) (G : Gd W h₀ k' c A env ρ σ s) (x : SrcAt W s ρ σ I k S)
    {ρ₀ : Nat → Addr} {σ₀ : St} {s₀ : Shared} (R₀ : Rel W.prog W.w W.θ h₀ ρ₀ σ₀ s₀.heap) (m : MV W h₀ ρ₀ σ₀ s₀ ρ σ s) (hI : s₀.heap.get? I = none)
    {P : Option Value → Shared → Prop} {E₁ : Value → Shared → Prop} {Q : Value → Shared → Prop} (hP : ∀ v s₁, wpAny (model W.prog W.w) A (letOwnedTupleGo tgt (.ref I) v) (fun _ s₂ => Q v s₂) E₁ s₁ → P (some v) s₁)
    (h0 : r = none → ∀ s₁, MV W h₀ ρ₀ σ₀ s₀ ρ σ s₁ → P none s₁)
    (h1 : ∀ a, r = some a → ∀ v s₁, MV W h₀ ρ₀ σ₀ s₀ ρ σ s₁ → VV W s₁ ρ σ a v → SrcAt W s₁ ρ σ I (k + 1) S → Q v s₁) :
    wpAny (model W.prog W.w) A (pyNext (.ref I)) P E s := by
  obtain ⟨oi, hoi, hnt⟩ := x.obj
  have hu := x.unt
  have touch : ∀ {h' : Heap} {tk : Nat}, (∀ b o, b ≠ I → s.heap.get? b = some o → h'.get? b = some o) → MV W h₀ ρ₀ σ₀ s₀ ρ σ { s with heap := h', toks := tk } := fun hk => Mv.touch R₀ m hI hoi hnt hu hk
  have mono : ∀ {h' : Heap} {tk : Nat}, (∀ b o, b ≠ I → s.heap.get? b = some o → h'.get? b = some o) → Mono s.heap ρ σ ({ s with heap := h', toks := tk } : Shared).heap ρ σ := fun hk =>
    ⟨Nat.le_refl _, fun _ _ => rfl, fun b o e _ z => hk b o (fun q => by subst q; rw [hoi] at e; cases e; rw [hnt] at z; cases z) e, fun _ _ _ u => u⟩
  cases x with
  | @lst its l vs hi hl hul hv hI' =>
    cases e
    obtain ⟨o, ho, hc, _⟩ := id hi
    obtain ⟨ol, hol, hcl, _⟩ := id hl
    have hne : l ≠ I := fun q => by subst q; rw [hol] at ho; cases ho; rw [hcl] at hc; exact absurd (Value.type.inj hc) (by decide)
    cases q : its[k]? with
    | none =>
      have hx : vs[k]? = none := List.getElem?_eq_none_iff.mpr (by rw [← hv.len]; exact List.getElem?_eq_none_iff.mp q)
      exact wpAny_pyNext_list_end G.hand hi hl (by simpa using hx) fun h' hx' => h0 q _ (touch (tk := s.toks) fun b o hb => hx' b o hb)
    | some a =>
      obtain ⟨hlt, _⟩ := List.getElem?_eq_some_iff.mp q
      have hlt' : k < vs.length := by rw [← hv.len]; exact hlt
      have hx : vs[k]? = some vs[k] := List.getElem?_eq_getElem hlt'
      refine wpAny_pyNext_list_item (x := vs[k]) hi hl (by rw [List.getElem?_toArray]; exact hx) fun h' hi' hs => hP _ _ ?_
      have hk : ∀ b o, b ≠ I → s.heap.get? b = some o → h'.get? b = some o := fun b o hb e => (hs.2 b hb).trans e
      obtain ⟨o', ho', hc', _⟩ := id hi'
      refine letGo_plain ho' hc' (by decide) (h1 a q _ _ (touch (tk := s.toks) hk) (VR.mono (mono (tk := s.toks) hk) (hv.get k a _ q hx)) (.lst hi' (isList_kept hl fun o e => hk _ o hne e) hul (hv.mono (mono (tk := s.toks) hk)) hu))
  | @tup its l vs hi hl hul hv hI' =>
    cases e
    obtain ⟨o, ho, hc, _⟩ := id hi
    obtain ⟨ol, hol, hcl, _⟩ := id hl
    have hne : l ≠ I := fun q => by subst q; rw [hol] at ho; cases ho; rw [hcl] at hc; exact absurd (Value.type.inj hc) (by decide)
    cases q : its[k]? with
    | none =>
      have hx : vs[k]? = none := List.getElem?_eq_none_iff.mpr (by rw [← hv.len]; exact List.getElem?_eq_none_iff.mp q)
      exact wpAny_pyNext_tuple_end G.hand hi hl (by simpa using hx) fun h' hx' => h0 q _ (touch (tk := s.toks) fun b o hb => hx' b o hb)
    | some a =>
      obtain ⟨hlt, _⟩ := List.getElem?_eq_some_iff.mp q
      have hlt' : k < vs.length := by rw [← hv.len]; exact hlt
      have hx : vs[k]? = some vs[k] := List.getElem?_eq_getElem hlt'
      refine wpAny_pyNext_tuple_item (x := vs[k]) hi hl (by rw [List.getElem?_toArray]; exact hx) fun h' hi' hs => hP _ _ ?_
      have hk : ∀ b o, b ≠ I → s.heap.get? b = some o → h'.get? b = some o := fun b o hb e => (hs.2 b hb).trans e
      obtain ⟨o', ho', hc', _⟩ := id hi'
      refine letGo_plain ho' hc' (by decide) (h1 a q _ _ (touch (tk := s.toks) hk) (VR.mono (mono (tk := s.toks) hk) (hv.get k a _ q hx)) (.tup hi' (isTuple_kept hl fun o e => hk _ o hne e) hul (hv.mono (mono (tk := s.toks) hk)) hu))
  | @rng lo n hi hI' =>
    cases e
    by_cases q : k < n
    · rw [if_pos q] at h1
      refine wpAny_pyNext_range_item hi (by omega) fun h' hi' hs => hP _ _ ?_
      have hk : ∀ b o, b ≠ I → s.heap.get? b = some o → h'.get? b = some o := fun b o hb e => (hs.2 b hb).trans e
      refine letGo_plain hi' rfl (by decide) (h1 _ rfl _ _ (touch hk) (.int (.c (lo + k)) _) (.rng ?_ hu))
      have e1 : lo + ((k + 1 : Nat) : Int) = lo + k + 1 := by omega
      have e2 : (n : Int) - ((k + 1 : Nat) : Int) = (n : Int) - k - 1 := by omega
      rw [e1, e2]; exact hi'
    · rw [if_neg q] at h0
      exact wpAny_pyNext_range_end G.hand hi (by omega) fun h' hx' => h0 rfl _ (touch (tk := s.toks) fun b o hb => hx' b o hb)
  | @itI es d kvs ep ok ov hi hd hud hv hI' =>
    cases e
    obtain ⟨od, _, hod, hxd, _⟩ := id hd
    have hne : d ≠ I := fun q => by
      subst q
      have hi2 : s.heap.get? d = some _ := hi
      rw [hod] at hi2; first | exact no hi2 | cases hi2
      exact absurd hxd.1 (by simp)
    cases q : es[k]? with
    | none =>
      have hx : kvs[k]? = none := List.getElem?_eq_none_iff.mpr (by rw [← hv.len]; exact List.getElem?_eq_none_iff.mp q)
      exact wpAny_pyNext_items_end G.hand hi hd hx fun h' hx' => h0 (by rw [q]; rfl) _ (touch (tk := s.toks) fun b o hb => hx' b o hb)
    | some a =>
      obtain ⟨hlt, _⟩ := List.getElem?_eq_some_iff.mp q
      have hlt' : k < kvs.length := by rw [← hv.len]; exact hlt
      have hx : kvs[k]? = some ((kvs[k]).1, (kvs[k]).2) := List.getElem?_eq_getElem hlt'
      obtain ⟨e1, V⟩ := hv.get k a _ q hx
      refine wpAny_pyNext_items_item hi hd hx fun key h' hkey hi' hnew _ hk => hP _ _ ?_
      cases tgt <;> first | (cases htg; done) | skip
      refine wpAny_letOwnedTupleGo_items hi' fun h'' hi'' hs' => ?_
      have hIlt : I < s.heap.objs.size := Heap.lt_size hoi
      have hk2 : ∀ b o, b ≠ I → s.heap.get? b = some o → h''.get? b = some o := fun b o hb e => (hs'.2 b hb).trans (hk b o hb e)
      have hm := touch (tk := s.toks) hk2
      refine h1 _ (by rw [q]; rfl) _ _ hm ?_ (.itI hi'' (dictAt_kept hd fun o e => hk2 _ o hne e) hud ?_ hu)
      · obtain ⟨t, rfl⟩ := Value.isInt_shape (v := key) (by simpa [intKind] using hkey)
        refine .tup' (vs := [.int (kvs[k]).1 t, (kvs[k]).2]) ⟨?_, VR.mono (mono (tk := s.toks) hk2) V, trivial⟩ ⟨_, (hs'.2 _ (Nat.ne_of_gt hIlt)).trans hnew, rfl, _, rfl⟩ G.rel.unt_size
        rw [e1]; exact .int (.c _) t
      · exact DVs.of hv.len (fun i x v e e' => (hv.get i x v e e').1) fun i x v e e' => VR.mono (mono (tk := s.toks) hk2) (hv.get i x v e e').2
  | @vaI es d kvs ep hi hd hud hv hI' =>
    cases e
    obtain ⟨o, ho, hc, _⟩ := id hi
    obtain ⟨od, _, hod, hxd, _⟩ := id hd
    have hne : d ≠ I := fun q => by
      subst q
      rw [hod] at ho; first | exact no ho | cases ho
      rw [hxd.1] at hc; exact absurd (Value.type.inj hc) (by decide)
    cases q : es[k]? with
    | none =>
      have hx : kvs[k]? = none := List.getElem?_eq_none_iff.mpr (by rw [← hv.len]; exact List.getElem?_eq_none_iff.mp q)
      exact wpAny_pyNext_values_end G.hand hi hd hx fun h' hx' => h0 (by rw [q]; rfl) _ (touch (tk := s.toks) fun b o hb => hx' b o hb)
    | some a =>
      obtain ⟨hlt, _⟩ := List.getElem?_eq_some_iff.mp q
      have hlt' : k < kvs.length := by rw [← hv.len]; exact hlt
      have hx : kvs[k]? = some ((kvs[k]).1, (kvs[k]).2) := List.getElem?_eq_getElem hlt'
      obtain ⟨e1, V⟩ := hv.get k a _ q hx
      refine wpAny_pyNext_values_item hi hd hx fun h' hi' hs => hP _ _ ?_
      have hk : ∀ b o, b ≠ I → s.heap.get? b = some o → h'.get? b = some o := fun b o hb e => (hs.2 b hb).trans e
      obtain ⟨o', ho', hc', _⟩ := id hi'
      refine letGo_plain ho' hc' (by decide) (h1 _ (by rw [q]; rfl) _ _ (touch (tk := s.toks) hk) (VR.mono (mono (tk := s.toks) hk) V) (.vaI hi' (dictAt_kept hd fun o e => hk _ o hne e) hud ?_ hu))
      exact DVs.of hv.len (fun i x v e e' => (hv.get i x v e e').1) fun i x v e e' => VR.mono (mono (tk := s.toks) hk) (hv.get i x v e e').2
  | @acc i hi hn hI' =>
    simp only [nxt] at e
    split at e
    · rename_i its g
      obtain ⟨vs, n, dx, es, m', hob, hv, _⟩ := acc_get G g
      have hne : ρ i ≠ I := fun q => hu i _ g q
      cases e
      cases q : its[k]? with
      | none =>
        have hx : vs[k]? = none := List.getElem?_eq_none_iff.mpr (by rw [← hv.len]; exact List.getElem?_eq_none_iff.mp q)
        exact hai.fin A s I (ρ i) dx vs n k _ _ G.hand hi hob hx fun h' hx' => h0 q _ (touch (tk := s.toks) fun b o hb => hx' b o hb)
      | some a =>
        obtain ⟨hlt, _⟩ := List.getElem?_eq_some_iff.mp q
        have hlt' : k < vs.length := by rw [← hv.len]; exact hlt
        have hx : vs[k]? = some vs[k] := List.getElem?_eq_getElem hlt'
        refine hai.next A s I (ρ i) dx vs n k _ _ _ hi hob hx fun h' hi' hs => hP _ _ ?_
        have hk : ∀ b o, b ≠ I → s.heap.get? b = some o → h'.get? b = some o := fun b o hb e => (hs.2 b hb).trans e
        obtain ⟨o', ho', hc', _⟩ := id hi'
        exact letGo_plain ho' hc' (by decide) (h1 a q _ _ (touch (tk := s.toks) hk) (VR.mono (mono (tk := s.toks) hk) (hv.get k a _ q hx)) (.acc hi' hn hu))
    · first | exact no e | cases e
end
end Mine
end

section
open PySem PySem.Spec PySem.Calls PyProof.Rows PySem.W
set_option Elab.async false
namespace Mine
section
variable {W : Wd} {h₀ : Heap} {k : Nat} {c : Ctx} {A : Around} {env : Env} {ρ ρ' : Nat → Addr} {σ σ' σ'' : St} {s s' : Shared} {E : Value → Shared → Prop} {I : Addr} {S : Src}

theorem pyIter_ok (hai : AccIt W) {a : AV} {v : Value} (e : srcOf a σ = some S) (G : Gd W h₀ k c A env ρ σ s) (V : VV W s ρ σ a v) {Q : Value → Shared → Prop}
    (h : ∀ I s₁, MV W h₀ ρ σ s ρ σ s₁ → s.heap.get? I = none → SrcAt W s₁ ρ σ I 0 S → Q (.ref I) s₁) : wpAny (model W.prog W.w) A (pyIter v) Q E s := by
  have fresh : s.heap.get? s.heap.objs.size = none := by
    cases q : s.heap.get? s.heap.objs.size with
    | none => rfl
    | some o => exact absurd (Heap.lt_size q) (Nat.lt_irrefl _)
  unfold srcOf at e
  split at e
  · cases e
    obtain ⟨l, vs, rfl, hl, hu, hv⟩ := V.lstI
    exact wpAny_pyIter_list hl (h _ _ (mv_push G.rel _) fresh (.lst ⟨_, Heap.get?_push_size _ rfl, rfl, rfl⟩ (hl.push _) hu (hv.mv G.rel (mv_push G.rel _)) G.rel.unt_size))
  · cases e
    obtain ⟨l, vs, rfl, hl, hu, hv⟩ := V.tupI
    exact wpAny_pyIter_tuple hl (h _ _ (mv_push G.rel _) fresh (.tup ⟨_, Heap.get?_push_size _ rfl, rfl, rfl⟩ (hl.push _) hu (hv.mv G.rel (mv_push G.rel _)) G.rel.unt_size))
  · rename_i lo hi
    split at e
    · rename_i hz
      cases e
      cases V with
      | rng hr hu =>
        refine wpAny_pyIter_range hr ?_ (h _ _ (mv_push G.rel _) fresh (.rng (Eq.trans (Heap.get?_push_size _ rfl) ?_) G.rel.unt_size))
        · have e2 : Builtin.Range.rangeSize lo hi 1 = ((hi - lo).toNat : Int) := by
            unfold Builtin.Range.rangeSize
            rw [if_pos (by decide)]
            split <;> simp <;> omega
          unfold Builtin.Range.small
          rw [e2]
          have fits : ∀ x : Int, x.natAbs < 100000 → Builtin.Range.rangeFitsLong x = true := fun x hx => by
            unfold Builtin.Range.rangeFitsLong
            simp
            omega
          rw [fits lo (by omega), fits hi (by omega), fits 1 (by omega), fits ((hi - lo).toNat : Int) (by omega), if_pos (by decide), fits (hi + (1 - 1)) (by omega)]
          simp
        · have e2 : Builtin.Range.rangeSize lo hi 1 = ((hi - lo).toNat : Int) - ((0 : Nat) : Int) := by
            unfold Builtin.Range.rangeSize
            rw [if_pos (by decide)]
            split <;> simp <;> omega
          rw [e2, Int.natCast_zero, Int.add_zero]
    · first | exact no e | cases e
  · cases e
    cases V with
    | itI hv hu hd hud hs hl hk hval => exact wpAny_pyIter_items hv hd (h _ _ (mv_push G.rel _) fresh (.itI (Heap.get?_push_size _ rfl) (hd.push _) hud (DVs.mv G.rel (mv_push G.rel _) (DVs.of hl hk hval)) G.rel.unt_size))
  · cases e
    cases V with
    | vaI hv hu hd hud hs hl hk hval => exact wpAny_pyIter_values hv hd (h _ _ (mv_push G.rel _) fresh (.vaI ⟨_, Heap.get?_push_size _ rfl, rfl, rfl⟩ (hd.push _) hud (DVs.mv G.rel (mv_push G.rel _) (DVs.of hl hk hval)) G.rel.unt_size))
  · obtain ⟨rfl, hi⟩ := V.refI
    split at e
    · rename_i its g
      cases e
      obtain ⟨vs, n, dx, es, m', hob, hv, hdd, _⟩ := acc_get G g
      exact hai.iter A s _ dx vs n es m' Q E G.kinH hob hdd (h _ _ (mv_push G.rel _) fresh (.acc ⟨_, Heap.get?_push_size _ rfl, rfl, rfl⟩ hi G.rel.unt_size))
    · first | exact no e | cases e
  · first | exact no e | cases e

theorem entry_itemiter_iter : entryFor table "dict_itemiterator.__iter__" = some Builtin.«dict_keyiterator.__iter__» :=
  entryFor_alias (id' := "dict_keyiterator.__iter__") (by kernel_rfl) (by first | rfl | decide +kernel | (unfold String.splitOn; simp +decide [String.splitOnAux])) (by decide +kernel) (by kernel_rfl)
theorem iterAgain_ok (x : SrcAt W s ρ σ I k S) {Q : Value → Shared → Prop} (h : Q (.ref I) s) : wpAny (model W.prog W.w) A (pyIter (.ref I)) Q E s := by
  cases x with
  | lst hi => exact wpAny_pyIter_listiter hi h
  | tup hi => exact wpAny_pyIter_tupleiter hi h
  | rng hi => exact wpAny_pyIter_rangeiter hi h
  | itI hi =>
    have hT : s.TypeIs (.ref I) "dict_itemiterator" := ⟨_, hi, rfl⟩
    refine wpAny_pyIter_slot hT F.slot_dict_itemiterator_iter (wpAny_call_entry F.slot_dict_itemiterator_iter hT entry_itemiter_iter ?_ (F.args_dict_itemiterator_iter_1 _))
    exact wpAny_pure ⟨_, rfl, "dict_itemiterator", _, hT, F.slot_dict_itemiterator_next.lookup, h⟩
  | vaI hi => exact wpAny_pyIter_valiter hi h
  | acc hi => exact wpAny_pyIter_listiter hi h

variable {R : Fns}
theorem folded_not {iter : Expr} (h : isSetE iter = false) (x : Value) : foldedSetIterable iter env x = pure x := by
  cases iter <;> first | rfl | cases h

theorem forL_ok (hai : AccIt W) (HR : FnsOk W k R) {tgt iter : Expr} {body : List Stmt} {pos : Pos} {r : AFl} {a : AV} {σ₁ : St} (hset : isSetE iter = false) (e0 : R.ev c iter σ = some (a, σ₁)) (e1 : srcOf a σ₁ = some S) (htg : tgtOk S tgt = true)
    {f : Nat} (e2 : forL R c tgt body S f 0 σ₁ = some (r, σ')) (G : Gd W h₀ k c A env ρ σ s) {Q : Flow → Shared → Prop} (h : ∀ f s' ρ', MV W h₀ ρ σ s ρ' σ' s' → FR W s' ρ' σ' r f → Q f s') :
    wpAny (model W.prog W.w) A (exec (.For tgt iter body [] pos) env) Q E s := by
  refine wpAny_For (HR.ev h₀ c iter σ a σ₁ e0 A env ρ s G _ E fun v s₁ ρ₁ m₁ V₁ => ?_) (folded_not hset)
  have G₁ := G.mv m₁
  refine pyIter_ok hai e1 G₁ V₁ fun I s₂ m₂ hI x₂ => ?_
  have key := codeAny_forLoop_any (prog := W.prog) (w := W.w) (A := A) (target := tgt) (it := .ref I) (body := body) (orelse := []) (env := env)
    (R := fun r s' => match r with | .ok f => Q f s' | .error e => cameBackBy (model W.prog W.w) A env E e s')
    (fun n s₃ => ∃ j ρ₃ σ₃, forL R c tgt body S n j σ₃ = some (r, σ') ∧ MV W h₀ ρ₁ σ₁ s₁ ρ₃ σ₃ s₃ ∧ SrcAt W s₃ ρ₃ σ₃ I j S) ?_ (s := s₂) f ⟨0, ρ₁, σ₁, e2, m₂, x₂⟩
  · exact key
  intro n s₃ hn
  obtain ⟨j, ρ₃, σ₃, e3, m₃, x₃⟩ := hn
  cases n with
  | zero => first | exact no e3 | cases e3
  | succ n =>
    have G₃ := G₁.mv m₃
    unfold forL at e3
    cases q : nxt S j σ₃ with
    | none => rw [q] at e3; first | exact no e3 | cases e3
    | some it =>
      rw [q] at e3
      refine next_ok hai htg q G₃ x₃ G₁.rel m₃ hI (fun _ _ z => z) (fun hn s₄ m₄ => ?_) fun a ha v s₄ m₄ V₄ x₄ => ?_
      · subst hn
        cases e3
        exact wpAny_execs_nil (h _ _ _ (m₁.trans G.rel m₄) .next)
      · subst ha
        simp only at e3
        split at e3
        · first | exact no e3 | cases e3
        · rename_i σ₅ e5
          have G₄ := G₁.mv m₄
          refine asg_ok e5 G₄ V₄ fun s₅ m₅ => ?_
          have G₅ := G₄.mv m₅
          have x₅ := x₄.mv G₄.rel m₅
          split at e3
          · first | exact no e3 | cases e3
          · rename_i σ₆ e6
            refine HR.ex h₀ c body σ₅ _ σ₆ e6 A env ρ₃ s₅ G₅ _ _ fun fl s₆ ρ₆ m₆ hf => ?_
            cases hf
            exact ⟨n, Nat.lt_succ_self n, j + 1, ρ₆, σ₆, e3, (m₄.trans G₁.rel m₅).trans G₁.rel m₆, x₅.mv G₅.rel m₆⟩
          · rename_i v' σ₆ e6
            cases e3
            refine HR.ex h₀ c body σ₅ _ _ e6 A env ρ₃ s₅ G₅ _ _ fun fl s₆ ρ₆ m₆ hf => ?_
            cases hf with
            | ret hv => exact h _ _ _ (m₁.trans G.rel ((m₄.trans G₁.rel m₅).trans G₁.rel m₆)) (.ret hv)

theorem whileL_ok (HR : FnsOk W k R) {test : Expr} {body : List Stmt} {pos : Pos} {r : AFl} {f : Nat} (e : whileL R c test body f σ = some (r, σ')) (G : Gd W h₀ k c A env ρ σ s) {Q : Flow → Shared → Prop}
    (h : ∀ f s' ρ', MV W h₀ ρ σ s ρ' σ' s' → FR W s' ρ' σ' r f → Q f s') : wpAny (model W.prog W.w) A (exec (.While test body [] pos) env) Q E s := by
  refine wpAny_While (codeAny_whileLoop (fun n s₃ => ∃ ρ₃ σ₃, whileL R c test body n σ₃ = some (r, σ') ∧ MV W h₀ ρ σ s ρ₃ σ₃ s₃) ?_ f ⟨ρ, σ, e, .refl G.rel⟩)
  intro n s₃ hn
  obtain ⟨ρ₃, σ₃, e3, m₃⟩ := hn
  have G₃ := G.mv m₃
  cases n with
  | zero => first | exact no e3 | cases e3
  | succ n =>
    unfold whileL at e3
    split at e3
    · first | exact no e3 | cases e3
    · rename_i σ₄ e4
      cases e3
      refine HR.ts h₀ c test σ₃ false σ' e4 A env ρ₃ s₃ G₃ _ _ fun s₄ ρ₄ m₄ => ?_
      rw [if_neg (by decide)]
      exact wpAny_execs_nil (h _ _ _ (m₃.trans G.rel m₄) .next)
    · rename_i σ₄ e4
      refine HR.ts h₀ c test σ₃ true σ₄ e4 A env ρ₃ s₃ G₃ _ _ fun s₄ ρ₄ m₄ => ?_
      rw [if_pos rfl]
      have G₄ := G₃.mv m₄
      split at e3
      · first | exact no e3 | cases e3
      · rename_i σ₆ e6
        refine HR.ex h₀ c body σ₄ _ σ₆ e6 A env ρ₄ s₄ G₄ _ _ fun fl s₆ ρ₆ m₆ hf => ?_
        cases hf
        exact ⟨n, Nat.lt_succ_self n, ρ₆, σ₆, e3, (m₃.trans G.rel m₄).trans G.rel m₆⟩
      · rename_i v' σ₆ e6
        cases e3
        refine HR.ex h₀ c body σ₄ _ _ e6 A env ρ₄ s₄ G₄ _ _ fun fl s₆ ρ₆ m₆ hf => ?_
        cases hf with
        | ret hv => exact h _ _ _ ((m₃.trans G.rel m₄).trans G.rel m₆) (.ret hv)
end
end Mine
end

section
open PySem PySem.Spec PySem.Calls PyProof.Rows PySem.W
set_option Elab.async false
namespace Mine
section
variable {W : Wd} {h₀ : Heap} {k : Nat} {c : Ctx} {A : Around} {env : Env} {ρ ρ' : Nat → Addr} {σ σ' σ'' : St} {s s' : Shared} {E : Value → Shared → Prop} {I : Addr} {S : Src}

/-! letting a new object go -/
theorem drop_mono (R' : Rel W.prog W.w W.θ h₀ ρ' σ' s'.heap) {i : Nat} {o : AO} (g : σ'.get i = some o) {h' : Heap} (hk : ∀ b o, b ≠ ρ' i → s'.heap.get? b = some o → h'.get? b = some o) : Mono s'.heap ρ' σ' h' ρ' (σ'.del i) :=
  ⟨Nat.le_refl _, fun _ _ => rfl, fun b o₁ e u _ => hk b o₁ (fun q => u i o g q.symm) e, fun b o₁ e u j o₂ gj => by
    rw [St.get_del] at gj
    by_cases hij : i = j
    · rw [if_pos hij] at gj; first | exact no gj | cases gj
    · rw [if_neg hij] at gj; exact u j o₂ gj⟩
theorem Mv.drop (m : MV W h₀ ρ σ s ρ' σ' s') {i : Nat} {o : AO} (g : σ'.get i = some o) (hi : s.heap.get? (ρ' i) = none) (hn : h₀.get? (ρ' i) = none) {h' : Heap} {tk : Nat} (hk : ∀ b o, b ≠ ρ' i → s'.heap.get? b = some o → h'.get? b = some o) :
    MV W h₀ ρ σ s ρ' (σ'.del i) { s' with heap := h', toks := tk } := by
  have lv : ∀ j o₁, (σ'.del i).get j = some o₁ → i ≠ j ∧ σ'.get j = some o₁ := fun j o₁ q => by
    rw [St.get_del] at q
    by_cases hij : i = j
    · rw [if_pos hij] at q; first | exact no q | cases q
    · rw [if_neg hij] at q; exact ⟨hij, q⟩
  have M := drop_mono m.rel g hk
  have ne : ∀ b o, s.heap.get? b = some o → b ≠ ρ' i := fun b o e q => by rw [q, hi] at e; first | exact no e | cases e
  refine ⟨m.n, m.ext, fun j o₁ q => m.live j o₁ (lv j o₁ q).2, fun b o₁ e => ?_, fun b o₁ e u => hk b o₁ (ne b o₁ e) (m.kept b o₁ e u), ?_, ⟨fun j o₁ q => ?_, fun j o₁ q => m.rel.nw j o₁ (lv j o₁ q).2, fun j l o₁ o₂ p q => m.rel.inj j l o₁ o₂ (lv j o₁ p).2 (lv l o₂ q).2, fun b o₁ e => ?_⟩⟩
  · obtain ⟨o₂, e₂⟩ := m.ex b o₁ e
    exact ⟨o₂, hk b o₂ (ne b o₁ e) e₂⟩
  · obtain ⟨h, t, e⟩ := m.rest
    exact ⟨h', tk, by rw [e]⟩
  · obtain ⟨hij, g'⟩ := lv j o₁ q
    obtain ⟨hj, co, e, r⟩ := m.rel.ob j o₁ g'
    exact ⟨hj, co, hk _ _ (fun z => hij (m.rel.inj i j o o₁ g g' z.symm)) e, r.mono M⟩
  · exact hk b o₁ (fun q => by rw [q, hn] at e; cases e) (m.rel.base b o₁ e)

/-! cells -/
noncomputable def CR (ρ : Nat → Addr) (n : Nat) : List (Str × Nat) → List (Str × Addr) → Prop
  | [], [] => True
  | x :: xs, y :: ys => (x.1 = y.1 ∧ x.2 < n ∧ y.2 = ρ x.2) ∧ CR ρ n xs ys
  | _, _ => False
theorem CR.look {n : Nat} : ∀ {xs : List (Str × Nat)} {ys : List (Str × Addr)}, CR ρ n xs ys → ∀ x i, xs.lookup x = some i → i < n ∧ ys.lookup x = some (ρ i)
  | [], [], _, _, _, e => by cases e
  | (a, i) :: xs, (b, y) :: ys, ⟨⟨e, hi, hy⟩, r⟩, x, j, h => by
    simp only at e hi hy
    subst e hy
    rw [List.lookup_cons] at h ⊢
    cases hb : x == a with
    | true => rw [hb] at h; cases h; exact ⟨hi, rfl⟩
    | false => rw [hb] at h; exact CR.look r x j h
  | [], _ :: _, h, _, _, _ => h.elim
  | _ :: _, [], h, _, _, _ => h.elim
theorem CR.mono {n n' : Nat} (hn : n ≤ n') (hx : ∀ i, i < n → ρ' i = ρ i) : ∀ {xs : List (Str × Nat)} {ys : List (Str × Addr)}, CR ρ n xs ys → CR ρ' n' xs ys
  | [], [], _ => trivial
  | _ :: _, _ :: _, ⟨⟨e, hi, hy⟩, r⟩ => ⟨⟨e, Nat.lt_of_lt_of_le hi hn, by rw [hx _ hi]; exact hy⟩, CR.mono hn hx r⟩
  | [], _ :: _, h => h.elim
  | _ :: _, [], h => h.elim

theorem closure_ok (G : Gd W h₀ k c A env ρ σ s) (f : Str × NameKind → List (Str × Addr) → Sem (ForInStep (List (Str × Addr))))
    (hf : ∀ name kind cells, f (name, kind) cells = if kind == .free then (do let a ← cellOf env name; pure (.yield ((name, a) :: cells))) else pure (.yield cells)) :
    ∀ (names : List (Str × NameKind)) (acc : List (Str × Nat)) (accA : List (Str × Addr)) (r : List (Str × Nat)), freeCells c names acc = some r → CR ρ σ.n acc accA →
      ∃ rA, CR ρ σ.n r rA ∧ forIn names accA f = pure rA
  | [], acc, accA, r, e, C => by
    cases e
    exact ⟨accA, C, rfl⟩
  | (n, kd) :: rest, acc, accA, r, e, C => by
    unfold freeCells at e
    rw [List.forIn_cons, hf]
    split at e
    · rename_i hk
      split at e
      · rename_i i hi
        obtain ⟨hlt, hc⟩ := G.cells n i hi
        obtain ⟨rA, h1, h2⟩ := closure_ok G f hf rest ((n, i) :: acc) ((n, ρ i) :: accA) r e ⟨⟨rfl, hlt, rfl⟩, C⟩
        refine ⟨rA, h1, ?_⟩
        rw [if_pos hk]
        have : cellOf env n = pure (ρ i) := by unfold cellOf; rw [hc]
        rw [this]
        exact h2
      · first | exact no e | cases e
    · rename_i hk
      obtain ⟨rA, h1, h2⟩ := closure_ok G f hf rest acc accA r e C
      exact ⟨rA, h1, by rw [if_neg hk]; exact h2⟩

theorem closureFor_ok (G : Gd W h₀ k c A env ρ σ s) {sc : Scope} {r : List (Str × Nat)} (e : freeCells c sc.names [] = some r) : ∃ rA, CR ρ σ.n r rA ∧ closureFor sc env = pure rA := by
  unfold closureFor
  obtain ⟨rA, h1, h2⟩ := closure_ok G (fun x cs => if x.2 == .free then (do let a ← cellOf env x.1; pure (.yield ((x.1, a) :: cs))) else pure (.yield cs)) (fun _ _ _ => rfl) sc.names [] [] r e trivial
  refine ⟨rA, h1, ?_⟩
  have h3 : ∀ (f : Str × NameKind → List (Str × Addr) → Sem (ForInStep (List (Str × Addr)))), (∀ x cs, f x cs = (if x.2 == .free then (do let a ← cellOf env x.1; pure (.yield ((x.1, a) :: cs))) else pure (.yield cs))) → (forIn sc.names [] f >>= fun r => pure r) = (pure rA : Sem _) := by
    intro f hf
    have : f = (fun x cs => if x.2 == .free then (do let a ← cellOf env x.1; pure (.yield ((x.1, a) :: cs))) else pure (.yield cs)) := by funext x cs; exact hf x cs
    rw [this, h2]; rfl
  exact h3 _ fun x cs => by
    obtain ⟨n, kd⟩ := x
    cases h : kd == NameKind.free <;> simp [h]

/-- the cells laid -/
theorem newCells_ok {ρ₀ : Nat → Addr} {σ₀ : St} {s₀ : Shared} (R₀ : Rel W.prog W.w W.θ h₀ ρ₀ σ₀ s₀.heap) : ∀ (names : List (Str × NameKind)) (acc : List (Str × Nat)) (accA : List (Str × Addr)) (σ : St) (ρ : Nat → Addr) (s : Shared), MV W h₀ ρ₀ σ₀ s₀ ρ σ s → CR ρ σ.n acc accA →
    ∃ ρ', MV W h₀ ρ₀ σ₀ s₀ ρ' (newCells names acc σ).2 { s with heap := pushCells s.heap names } ∧ CR ρ' (newCells names acc σ).2.n (newCells names acc σ).1 (cellsFrom s.heap.objs.size names accA) ∧ (∀ i, i < σ.n → ρ' i = ρ i) ∧ σ.n ≤ (newCells names acc σ).2.n
  | [], acc, accA, σ, ρ, s, m, C => ⟨ρ, m, C, fun _ _ => rfl, Nat.le_refl _⟩
  | (n, kd) :: rest, acc, accA, σ, ρ, s, m, C => by
    unfold newCells pushCells cellsFrom
    by_cases hk : (kd == .cell) = true
    · simp only [if_pos hk]
      have fresh : s.heap.get? s.heap.objs.size = none := by
        cases q : s.heap.get? s.heap.objs.size with
        | none => rfl
        | some o => exact absurd (Heap.lt_size q) (Nat.lt_irrefl _)
      have m₁ : MV W h₀ ρ σ s _ _ _ := Mv.new (tk := s.toks) (o' := .cell .none) (co := { cls := .type "cell", data := .cell none }) m.rel fresh (fun _ _ e => Heap.get?_push_of_some _ e) (Heap.get?_push_size _ rfl) (.cell0 rfl)
      obtain ⟨ρ', h1, h2, h3, h4⟩ := newCells_ok R₀ rest ((n, σ.n) :: acc) ((n, s.heap.objs.size) :: accA) _ _ _ (m.trans R₀ m₁) ⟨⟨rfl, Nat.lt_succ_self _, (if_pos rfl).symm⟩, C.mono m₁.n m₁.ext⟩
      rw [show ({ s with heap := s.heap.push { cls := .type "cell", data := .cell none }, toks := s.toks } : Shared).heap.objs.size = s.heap.objs.size + 1 from Heap.size_push ..] at h2
      exact ⟨ρ', h1, h2, fun i hi => (h3 i (Nat.lt_of_lt_of_le hi m₁.n)).trans (m₁.ext i hi), Nat.le_trans m₁.n h4⟩
    · simp only [if_neg hk]
      exact newCells_ok R₀ rest acc accA σ ρ s m C

theorem relabel_eq (G : Gd W h₀ k c A env ρ σ s) (sc : Scope) : relabel sc env = relabelA sc c := by
  unfold relabel relabelA
  have : ∀ n, env.kindOf n = c.kind n := G.kindOf
  simp only [G.sc, this]

/-- the comprehension's own ground -/
theorem compEnv_ok {sc : Scope} {cells : List (Str × Nat)} {cl : List (Str × Addr)} (hk : sc.kind = .function) (C : CR ρ σ.n cells cl) (G : Gd W h₀ k c A env ρ σ s) {Q : Env → Shared → Prop}
    (h : ∀ cenv ρ' s₁, MV W h₀ ρ σ s ρ' (newCells sc.names cells (σ.new (.ns []))).2 s₁ → Gd W h₀ k ⟨relabelA sc c, c.fid, σ.n, (newCells sc.names cells (σ.new (.ns []))).1⟩ A { cenv with scope := relabel sc env } ρ' (newCells sc.names cells (σ.new (.ns []))).2 s₁ →
      cenv.locals = ρ' σ.n → s.heap.get? (ρ' σ.n) = none → Q cenv s₁) :
    wpAny (model W.prog W.w) A (newFunctionEnv sc env.globals cl [] env.qual none .none (some env)) Q E s := by
  simp only [newFunctionEnv, Option.isSome_some, if_true]
  refine wpAny_bind (wpAny_alloc ?_)
  refine wpAny_bind (wpAny_layCells _ (fun name kind cells => by cases hkc : kind == NameKind.cell <;> simp [hkc]) _ _ _ _ ?_)
  have fresh : s.heap.get? s.heap.objs.size = none := by
    cases q : s.heap.get? s.heap.objs.size with
    | none => rfl
    | some o => exact absurd (Heap.lt_size q) (Nat.lt_irrefl _)
  have m₁ : MV W h₀ ρ σ s _ _ _ := Mv.new (tk := s.toks) (o' := .ns []) (co := { cls := .type "dict", data := .dict #[] }) G.rel fresh (fun _ _ e => Heap.get?_push_of_some _ e) (Heap.get?_push_size _ rfl) (.ns rfl (fun e he => by simp at he) (fun x y e => by cases e))
  obtain ⟨ρ', h1, h2, h3, h4⟩ := newCells_ok G.rel sc.names cells cl _ _ _ m₁ (C.mono m₁.n m₁.ext)
  rw [List.forIn_nil]
  refine wpAny_bind (wpAny_pure (wpAny_pure ?_))
  have e0 : ρ' σ.n = s.heap.objs.size := (h3 σ.n (Nat.lt_succ_self _)).trans (if_pos rfl)
  have h₀n : h₀.get? (ρ' σ.n) = none := by
    rw [e0]
    cases q : h₀.get? s.heap.objs.size with
    | none => rfl
    | some o => rw [G.rel.base _ _ q] at fresh; first | exact no fresh | cases fresh
  refine h _ ρ' _ h1 ?_ e0.symm (by rw [e0]; exact fresh)
  exact { rel := h1.rel, kin := G.kin, top := G.top, sc := relabel_eq G sc, kd := by show (relabelA sc c).kind = _; exact hk, gl := G.gl, bl := G.bl, loc := e0.symm, locn := h₀n, lidlt := Nat.lt_of_lt_of_le (Nat.lt_succ_self _) h4,
          cells := h2.look, big := G.big, hand := G.hand, depth := G.depth, units := G.units }
end
end Mine
end

section
open PySem PySem.Spec PySem.Calls PyProof.Rows PySem.W
set_option Elab.async false
set_option maxHeartbeats 1000000
namespace Mine
section
variable {prog : Program} {w : World} {A : Around} {R : Result → Shared → Prop} {s : Shared}

/-- the loop of a comprehension with any target -/
theorem compLoop_list {elt target iter : Expr} {ifs : List Expr} {scope : Scope} {pos : Pos} {it acc : Value} {env : Env} (I : Nat → Shared → Prop)
    (turn : ∀ n s, I n s → wpAny (model prog w) A (pyNext it) (fun r s₁ => match r with
      | none => R (.ok .next) s₁
      | some v => wpAny (model prog w) A (letOwnedTupleGo target it v) (fun _ s₁' => wpAny (model prog w) A (assign target env v) (fun _ s₂ =>
          wpAny (model prog w) A (forIn ifs true fun c r => if r = true then do let ok ← isTrue c env (eval c env); pure (ForInStep.yield ok) else pure (ForInStep.yield r)) (fun ok s₃ =>
            if ok = true then wpAny (model prog w) A (eval elt env) (fun x s₄ =>
              wpAny (model prog w) A (call (.builtin "list.append") [acc, x]) (fun _ s₅ => ∃ m, m < n ∧ I m s₅) (notedBy (model prog w) A env fun e s' => R (.error e) s') s₄) (notedBy (model prog w) A env fun e s' => R (.error e) s') s₃
            else ∃ m, m < n ∧ I m s₃) (notedBy (model prog w) A env fun e s' => R (.error e) s') s₂) (notedBy (model prog w) A env fun e s' => R (.error e) s') s₁') (notedBy (model prog w) A env fun e s' => R (.error e) s') s₁) (notedBy (model prog w) A env fun e s' => R (.error e) s') s)
    (n : Nat) (h : I n s) : codeAny (model prog w) A (.compLoop (.ListComp elt [⟨target, iter, ifs, 0⟩] scope pos) 0 it acc env) R s := by
  refine codeAny_loop rfl I (fun n s hI => ?_) n h
  show wpAny _ A ((compTurn (.ListComp elt [⟨target, iter, ifs, 0⟩] scope pos) 0 it acc env).onRaise (fun x => do noteFrame x env; theTreesLotGoes x)) _ _ s
  refine wpAny_noted ?_
  rw [compTurn_list]
  refine wpAny_bind (wpAny_standAt (wpAny_bind (wpAny_mono (turn n s hI) (fun r s₁ h₁ => ?_) fun _ _ h' => h')))
  cases r with
  | none => exact wpAny_pure h₁
  | some v =>
    refine wpAny_bind (wpAny_mono h₁ (fun _ s₁' h₁ => ?_) fun _ _ h' => h')
    refine wpAny_bind (wpAny_mono h₁ (fun _ s₂ h₂ => wpAny_bind (wpAny_mono h₂ (fun ok s₃ h₃ => ?_) fun _ _ h' => h')) fun _ _ h' => h')
    cases ok with
    | false => exact wpAny_pure ⟨rfl, h₃⟩
    | true => exact wpAny_bind (wpAny_bind (wpAny_mono h₃ (fun x s₄ h₄ => wpAny_bind (wpAny_mono h₄ (fun _ s₅ h₅ => wpAny_pure (wpAny_pure ⟨rfl, h₅⟩)) fun _ _ h' => h')) fun _ _ h' => h'))

theorem compLoop_dict {kx vx target iter : Expr} {ifs : List Expr} {scope : Scope} {pos : Pos} {it : Value} {D : Addr} {env : Env} (I : Nat → Shared → Prop)
    (turn : ∀ n s, I n s → wpAny (model prog w) A (pyNext it) (fun r s₁ => match r with
      | none => R (.ok .next) s₁
      | some v => wpAny (model prog w) A (letOwnedTupleGo target it v) (fun _ s₁' => wpAny (model prog w) A (assign target env v) (fun _ s₂ =>
          wpAny (model prog w) A (forIn ifs true fun c r => if r = true then do let ok ← isTrue c env (eval c env); pure (ForInStep.yield ok) else pure (ForInStep.yield r)) (fun ok s₃ =>
            if ok = true then wpAny (model prog w) A (eval kx env) (fun kv s₄ => wpAny (model prog w) A (eval vx env) (fun vv s₅ =>
              wpAny (model prog w) A (dictSet D kv vv) (fun _ s₆ => ∃ m, m < n ∧ I m s₆) (notedBy (model prog w) A env fun e s' => R (.error e) s') s₅) (notedBy (model prog w) A env fun e s' => R (.error e) s') s₄) (notedBy (model prog w) A env fun e s' => R (.error e) s') s₃
            else ∃ m, m < n ∧ I m s₃) (notedBy (model prog w) A env fun e s' => R (.error e) s') s₂) (notedBy (model prog w) A env fun e s' => R (.error e) s') s₁') (notedBy (model prog w) A env fun e s' => R (.error e) s') s₁) (notedBy (model prog w) A env fun e s' => R (.error e) s') s)
    (n : Nat) (h : I n s) : codeAny (model prog w) A (.compLoop (.DictComp kx vx [⟨target, iter, ifs, 0⟩] scope pos) 0 it (.ref D) env) R s := by
  refine codeAny_loop rfl I (fun n s hI => ?_) n h
  show wpAny _ A ((compTurn (.DictComp kx vx [⟨target, iter, ifs, 0⟩] scope pos) 0 it (.ref D) env).onRaise (fun x => do noteFrame x env; theTreesLotGoes x)) _ _ s
  refine wpAny_noted ?_
  rw [compTurn_dict]
  refine wpAny_bind (wpAny_standAt (wpAny_bind (wpAny_mono (turn n s hI) (fun r s₁ h₁ => ?_) fun _ _ h' => h')))
  cases r with
  | none => exact wpAny_pure h₁
  | some v =>
    refine wpAny_bind (wpAny_mono h₁ (fun _ s₁' h₁ => ?_) fun _ _ h' => h')
    refine wpAny_bind (wpAny_mono h₁ (fun _ s₂ h₂ => wpAny_bind (wpAny_mono h₂ (fun ok s₃ h₃ => ?_) fun _ _ h' => h')) fun _ _ h' => h')
    cases ok with
    | false => exact wpAny_pure ⟨rfl, h₃⟩
    | true =>
      refine wpAny_bind (wpAny_bind (wpAny_mono h₃ (fun kv s₄ h₄ => ?_) fun _ _ h' => h'))
      refine wpAny_bind (wpAny_holding (wpAny_mono h₄ (fun vv s₅ h₅ => ?_) fun _ _ h' => h'))
      exact wpAny_bind (wpAny_standAt (wpAny_holding (wpAny_mono h₅ (fun _ s₆ h₆ => wpAny_pure ⟨rfl, h₆⟩) fun _ _ h' => h')))
end
section
variable {W : Wd} {h₀ : Heap} {k : Nat} {c : Ctx} {A : Around} {env : Env} {ρ ρ' : Nat → Addr} {σ σ' σ'' : St} {s s' : Shared} {E : Value → Shared → Prop} {I : Addr} {S : Src} {R : Fns}

theorem ifsL_ok (HR : FnsOk W k R) {ifs : List Expr} {r : Bool} (e : ifsL R c ifs σ = some (r, σ')) (G : Gd W h₀ k c A env ρ σ s) {Q : Bool → Shared → Prop} (h : ∀ s' ρ', MV W h₀ ρ σ s ρ' σ' s' → Q r s') :
    wpAny (model W.prog W.w) A (forIn ifs true fun c r => if r = true then do let ok ← isTrue c env (eval c env); pure (ForInStep.yield ok) else pure (ForInStep.yield r)) Q E s := by
  unfold ifsL at e
  split at e
  · cases e
    exact wpAny_tests_nil (h _ _ (.refl G.rel))
  · exact wpAny_tests_one (HR.ts h₀ c _ σ r σ' e A env ρ s G _ _ h)
  · first | exact no e | cases e

theorem scopeOk_names {sc : Scope} (h : scopeOk sc = true) : sc.kind = .function ∧ ∀ x ∈ sc.names, x.2 = .local → sc.names.lookup x.1 = some .local := by
  unfold scopeOk at h
  rw [Bool.and_eq_true, beq_iff_eq, List.all_eq_true] at h
  refine ⟨h.1, fun x hx e => ?_⟩
  have := h.2 x hx
  rw [e] at this
  simpa using this

theorem lst_plain (G : Gd W h₀ k c A env ρ σ s) {i : Nat} {its : List AV} (g : σ.get i = some (.list its)) : ∃ vs, s.heap.PlainList (ρ i) vs.toArray ∧ VVs W s ρ σ its vs :=
  let ⟨vs, n, h, v⟩ := lst_get G g; ⟨vs, ⟨n, h⟩, v⟩
theorem dic_get (G : Gd W h₀ k c A env ρ σ s) {i : Nat} {es : List (Int × AV)} (g : σ.get i = some (.dic es)) : ∃ kvs, s.heap.DictOf (intKind W.prog W.w) (ρ i) kvs ∧ DVs W s ρ σ es kvs := by
  obtain ⟨_, co, e, r⟩ := G.rel.ob i _ g
  cases r with
  | dic hx hd hk hp hn hl hv => exact ⟨_, ⟨co, _, _, e, hx, hd, hk, hp, hn⟩, DVs.of hl (fun i x v e e' => (hv i x v e e').1) fun i x v e e' => (hv i x v e e').2⟩
theorem append_ok (G : Gd W h₀ k c A env ρ σ s) {i : Nat} {its : List AV} (g : σ.get i = some (.list its)) (hz : its.length ≤ 1000) {x : AV} {v : Value} (V : VV W s ρ σ x v) {Q : Value → Shared → Prop}
    (h : ∀ s', MV W h₀ ρ σ s ρ (σ.put i (.list (its ++ [x]))) s' → Q .none s') : wpAny (model W.prog W.w) A (call (.builtin "list.append") [.ref (ρ i), v]) Q E s := by
  obtain ⟨vs, hp, hv⟩ := lst_plain G g
  refine wpAny_list_append_plain hp (fun h' hp' hs => ?_) ?_
  · obtain ⟨n, hn⟩ := hp'
    have V' : VVs W s ρ σ (its ++ [x]) (vs ++ [v]) := hv.append ⟨V, trivial⟩
    have e : (vs.toArray.push v) = (vs ++ [v]).toArray := by simp
    rw [e] at hn
    exact h _ (Mv.put (tk := s.toks) G.rel g (G.rel.nw i _ g rfl) (fun b ob hb hg => (hs.2 b hb).trans hg) hn (.list V'.len V'.get))
  · rw [List.size_toArray, ← hv.len]
    exact Nat.le_trans hz (by decide)
theorem stored_new {kvs : List (Int × Value)} {n : Int} {v : Value} (h : ∀ x ∈ kvs, x.1 ≠ n) : stored kvs n v = kvs ++ [(n, v)] := by
  unfold stored
  rw [if_neg]
  simp only [List.any_eq_true, decide_eq_true_eq, not_exists, not_and]
  exact h
theorem dictSet_ok (G : Gd W h₀ k c A env ρ σ s) {i : Nat} {es : List (Int × AV)} (g : σ.get i = some (.dic es)) (hz : es.length ≤ 1000) {n : Int} {t : Tok} (hn : es.any (fun p => p.1 == n) = false) {x : AV} {v : Value} (V : VV W s ρ σ x v) {Q : Unit → Shared → Prop}
    (h : ∀ s', MV W h₀ ρ σ s ρ (σ.put i (.dic (es ++ [(n, x)]))) s' → Q () s') : wpAny (model W.prog W.w) A (dictSet (ρ i) (.int n t) v) Q E s := by
  obtain ⟨kvs, hd, hv⟩ := dic_get G g
  have hne : ∀ y ∈ kvs, y.1 ≠ n := fun y hy e => by
    have : n ∈ es.map (·.1) := by rw [hv.keys]; exact List.mem_map.mpr ⟨y, hy, e⟩
    obtain ⟨z, hz, e'⟩ := List.mem_map.mp this
    rw [List.any_eq_false] at hn
    exact hn z hz (by simpa using e')
  refine wpAny_dictSet_pairs (knd := intKind W.prog W.w) (k := n) (by simp [intKind, Value.isInt]) hd (fun h' hd' hs => ?_) ?_
  · rw [stored_new hne] at hd'
    obtain ⟨o, ds, ep, ho, hx, hda, hk, hp, hnd⟩ := hd'
    have V' : DVs W s ρ σ (es ++ [(n, x)]) (kvs ++ [(n, v)]) := by
      clear hp hnd hk hne hd hn hz h g
      induction es generalizing kvs with
      | nil => cases kvs with
        | nil => exact ⟨⟨rfl, V⟩, trivial⟩
        | cons => exact hv.elim
      | cons e es ih => cases kvs with
        | nil => exact hv.elim
        | cons kv kvs => exact ⟨hv.1, ih kvs hv.2⟩
    exact h _ (Mv.put G.rel g (G.rel.nw i _ g rfl) (fun b ob hb hg => (hs.2 b hb).trans hg) ho (.dic hx hda hk hp hnd V'.len V'.get))
  · rw [← hv.len]
    exact Nat.le_trans hz (by decide)

theorem Gd.re (G : Gd W h₀ k c A env ρ σ s) (R : Rel W.prog W.w W.θ h₀ ρ σ s'.heap) : Gd W h₀ k c A env ρ σ s' := { G with rel := R }
/-- where a turn of a comprehension stands: n turns are left -/
noncomputable def CI (W : Wd) (h₀ : Heap) (k : Nat) (A : Around) (R : Fns) (c₁ : Ctx) (env₁ : Env) (tgt : Expr) (ifs : List Expr) (put : St → Option St) (S : Src) (I : Addr) (ρ₁ : Nat → Addr) (σ₁ : St) (s₁ : Shared) (D L : Addr) (σ₂ : St) (n : Nat) (s : Shared) : Prop :=
  ∃ j ρ σ, compG R c₁ tgt ifs put S n j σ = some σ₂ ∧ MV W h₀ ρ₁ σ₁ s₁ ρ σ s ∧ (ρ σ₁.n = D ∧ ρ (σ₁.n + 1) = L ∧ σ₁.n + 1 < σ.n) ∧ Gd W h₀ k c₁ A env₁ ρ σ s ∧ SrcAt W s ρ σ I j S
theorem at_mv {d : Nat} {D L : Addr} (hd : ρ d = D ∧ ρ (d + 1) = L ∧ d + 1 < σ.n) (m : MV W h₀ ρ σ s ρ' σ' s') : ρ' d = D ∧ ρ' (d + 1) = L ∧ d + 1 < σ'.n :=
  ⟨(m.ext _ (Nat.lt_of_succ_lt hd.2.2)).trans hd.1, (m.ext _ hd.2.2).trans hd.2.1, Nat.lt_of_lt_of_le hd.2.2 m.n⟩
theorem comp_turn (hai : AccIt W) (HR : FnsOk W k R) {tgt : Expr} {ifs : List Expr} {c₁ : Ctx} {env₁ : Env} {put : St → Option St} {ρ₁ : Nat → Addr} {σ₁ σ₂ : St} {s₁ : Shared} {D L : Addr} (htg : tgtOk S tgt = true) (R₁ : Rel W.prog W.w W.θ h₀ ρ₁ σ₁ s₁.heap)
    (hI : s₁.heap.get? I = none) {E' : Value → Shared → Prop} {P0 : Shared → Prop} {EL : (Shared → Prop) → Shared → Prop}
    (h0 : ∀ ρ s, MV W h₀ ρ₁ σ₁ s₁ ρ σ₂ s → ρ σ₁.n = D ∧ ρ (σ₁.n + 1) = L ∧ σ₁.n + 1 < σ₂.n → P0 s)
    (hput : ∀ σ σ' ρ s, put σ = some σ' → Gd W h₀ k c₁ A env₁ ρ σ s → ρ σ₁.n = D → σ₁.n < σ.n → ∀ post, (∀ s' ρ', MV W h₀ ρ σ s ρ' σ' s' → post s') → EL post s)
    {n : Nat} {s₅ : Shared} (hn : CI W h₀ k A R c₁ env₁ tgt ifs put S I ρ₁ σ₁ s₁ D L σ₂ n s₅) :
    wpAny (model W.prog W.w) A (pyNext (.ref I)) (fun r t₁ => match r with
      | none => P0 t₁
      | some v => wpAny (model W.prog W.w) A (letOwnedTupleGo tgt (.ref I) v) (fun _ t₂ => wpAny (model W.prog W.w) A (assign tgt env₁ v) (fun _ t₃ =>
          wpAny (model W.prog W.w) A (forIn ifs true fun c r => if r = true then do let ok ← isTrue c env₁ (eval c env₁); pure (ForInStep.yield ok) else pure (ForInStep.yield r)) (fun ok t₄ =>
            if ok = true then EL (fun t₅ => ∃ m, m < n ∧ CI W h₀ k A R c₁ env₁ tgt ifs put S I ρ₁ σ₁ s₁ D L σ₂ m t₅) t₄ else ∃ m, m < n ∧ CI W h₀ k A R c₁ env₁ tgt ifs put S I ρ₁ σ₁ s₁ D L σ₂ m t₄) E' t₃) E' t₂) E' t₁) E' s₅ := by
  obtain ⟨j, ρ₅, σ₅, e5, m₅, d5, G₅, x₅⟩ := hn
  cases n with
  | zero => exact no e5
  | succ n =>
    unfold compG at e5
    obtain ⟨it, q, e⟩ := bndE e5
    clear e5
    refine next_ok hai htg q G₅ x₅ R₁ m₅ hI (fun _ _ z => z) (fun hn s₆ m₆ => ?_) fun a ha v s₆ m₆ V₆ x₆ => ?_
    · subst hn
      cases e
      exact h0 ρ₅ s₆ m₆ d5
    · subst ha
      have G₆ := G₅.re m₆.rel
      obtain ⟨σ₇, e7, e⟩ := bndE e
      obtain ⟨b, σ₈, e8, e⟩ := bndP e
      refine asg_ok e7 G₆ V₆ fun s₇ m₇ => ?_
      have G₇ := G₆.mv m₇
      have x₇ := x₆.mv G₆.rel m₇
      refine ifsL_ok HR e8 G₇ fun s₈ ρ₈ m₈ => ?_
      have G₈ := G₇.mv m₈
      have x₈ := x₇.mv G₇.rel m₈
      have d8 := at_mv (at_mv d5 m₇) m₈
      have m₉ := (m₆.trans R₁ m₇).trans R₁ m₈
      cases b with
      | false =>
        rw [if_neg Bool.false_ne_true]
        exact ⟨n, Nat.lt_succ_self n, j + 1, ρ₈, σ₈, e, m₉, d8, G₈, x₈⟩
      | true =>
        rw [if_pos rfl]
        obtain ⟨σ₉, e9, e⟩ := bndE e
        exact hput σ₈ σ₉ ρ₈ s₈ e9 G₈ d8.1 (Nat.lt_of_succ_lt d8.2.2) _ fun s' ρ' m' => ⟨n, Nat.lt_succ_self n, j + 1, ρ', σ₉, e, m₉.trans R₁ m', at_mv d8 m', G₈.mv m', x₈.mv G₈.rel m'⟩
/-- what stands when the loop is done -/
theorem comp_end {ρ₁ ρ : Nat → Addr} {σ₁ σ₂ : St} {s₁ : Shared} {L D : Addr} (R₁ : Rel W.prog W.w W.θ h₀ ρ₁ σ₁ s₁.heap) (m : MV W h₀ ρ₁ σ₁ s₁ ρ σ₂ s) (hd : ρ σ₁.n = D ∧ ρ (σ₁.n + 1) = L ∧ σ₁.n + 1 < σ₂.n) (hlv : isNsAt σ₂ (σ₁.n + 1) = true)
    (hC : s₁.heap.get? L = none) {Q : Value → Shared → Prop}
    (h : ∀ s', MV W h₀ ρ₁ σ₁ s₁ ρ ((σ₂.del (σ₁.n + 1)).del σ₁.n) s' → Rel W.prog W.w W.θ h₀ ρ (σ₂.del (σ₁.n + 1)) s'.heap → Q (.ref (ρ σ₁.n)) s') :
    ∃ m, s.heap.Ns L m ∧ ∀ h', Heap.SameBut L s.heap h' → Q (.ref D) { s with heap := h' } := by
  obtain ⟨rfl, rfl, hlt⟩ := hd
  obtain ⟨loc, gN⟩ := isNsAt_eq hlv
  obtain ⟨_, co, eco, r⟩ := m.rel.ob _ _ gN
  have hb : h₀.get? (ρ (σ₁.n + 1)) = none := by
    cases q : h₀.get? (ρ (σ₁.n + 1)) with
    | none => rfl
    | some o => rw [R₁.base _ _ q] at hC; exact no hC.symm
  cases r with
  | @ns _ _ des ep hda hsk hl =>
    refine ⟨nsFind des, ⟨co, des, ep, eco, hda, hsk, fun _ => rfl⟩, fun h' hs' => ?_⟩
    have m₇ := Mv.drop (tk := s.toks) m gN hC hb fun b o hb e => (hs'.2 b hb).trans e
    exact h _ (m₇.trans R₁ (Mv.del m₇.rel σ₁.n)) m₇.rel
theorem compE_ok (hai : AccIt W) (HR : FnsOk W k R) {e : Expr} {newAcc : Sem Value} {o : AO} {obj : Obj} {put : Ctx → Nat → St → Option St} {tgt iter : Expr} {ifs : List Expr} {sc : Scope} {pos : Pos} {d : Nat}
    (hev : eval e env = comprehension e sc env (firstIterPos [⟨tgt, iter, ifs, 0⟩] pos) newAcc (firstAsync [⟨tgt, iter, ifs, 0⟩]) (firstIter [⟨tgt, iter, ifs, 0⟩] env)) (hcl : clausesOf e = [⟨tgt, iter, ifs, 0⟩])
    (hnew : ∀ {s : Shared} {Q : Value → Shared → Prop}, Q (.ref s.heap.objs.size) { s with heap := s.heap.push obj } → wpAny (model W.prog W.w) A newAcc Q E s)
    (hfr : obj.isFreed = false) (hOR : ∀ h ρ σ, OR W.prog W.w W.θ h ρ σ o obj) (EL : Env → Addr → (Value → Shared → Prop) → (Shared → Prop) → Shared → Prop)
    (hloop : ∀ {I D : Addr} {env₁ : Env} {Rr : Result → Shared → Prop} {s : Shared} (Iv : Nat → Shared → Prop),
      (∀ n s₅, Iv n s₅ → wpAny (model W.prog W.w) A (pyNext (.ref I)) (fun r s₁ => match r with
      | none => Rr (.ok .next) s₁
      | some v => wpAny (model W.prog W.w) A (letOwnedTupleGo tgt (.ref I) v) (fun _ s₁' => wpAny (model W.prog W.w) A (assign tgt env₁ v) (fun _ s₂ =>
          wpAny (model W.prog W.w) A (forIn ifs true fun c r => if r = true then do let ok ← isTrue c env₁ (eval c env₁); pure (ForInStep.yield ok) else pure (ForInStep.yield r)) (fun ok s₃ =>
            if ok = true then EL env₁ D (notedBy (model W.prog W.w) A env₁ fun e s' => Rr (.error e) s') (fun s₄ => ∃ m, m < n ∧ Iv m s₄) s₃ else ∃ m, m < n ∧ Iv m s₃) (notedBy (model W.prog W.w) A env₁ fun e s' => Rr (.error e) s') s₂) (notedBy (model W.prog W.w) A env₁ fun e s' => Rr (.error e) s') s₁') (notedBy (model W.prog W.w) A env₁ fun e s' => Rr (.error e) s') s₁) (notedBy (model W.prog W.w) A env₁ fun e s' => Rr (.error e) s') s₅) →
      ∀ n, Iv n s → (∀ {Q : Value → Shared → Prop}, Q (.ref I) s → wpAny (model W.prog W.w) A (pyIter (.ref I)) Q (notedBy (model W.prog W.w) A env₁ fun x s' => Rr (.error x) s') s) → codeAny (model W.prog W.w) A (.compStart e 0 (.ref I) (.ref D) env₁) Rr s)
    (hput : ∀ c₁ env₁ σ σ' ρ s, put c₁ d σ = some σ' → Gd W h₀ k c₁ A env₁ ρ σ s → d < σ.n → ∀ post E', (∀ s' ρ', MV W h₀ ρ σ s ρ' σ' s' → post s') → EL env₁ (ρ d) E' post s)
    (eq : compE R o put c tgt iter ifs sc σ = some (d, σ')) (G : Gd W h₀ k c A env ρ σ s) {Q : Value → Shared → Prop}
    (h : ∀ s' ρ', MV W h₀ ρ σ s ρ' ((σ'.del (d + 1)).del d) s' → Rel W.prog W.w W.θ h₀ ρ' (σ'.del (d + 1)) s'.heap → Q (.ref (ρ' d)) s') : wpAny (model W.prog W.w) A (eval e env) Q E s := by
  obtain ⟨hsc, eq⟩ := okb eq
  obtain ⟨iv, σ₁, e0, eq⟩ := bndP eq
  obtain ⟨S, e1, eq⟩ := bndE eq
  obtain ⟨cells, ef, eq⟩ := bndE eq
  obtain ⟨htg, eq⟩ := okb eq
  obtain ⟨σ₂, e2, eq⟩ := bndE eq
  obtain ⟨hlv, eq⟩ := ok_eq eq
  cases eq
  rw [Bool.and_eq_true] at hsc
  obtain ⟨hkd, hnm⟩ := scopeOk_names hsc.1
  obtain ⟨cl, C, hcl'⟩ := closureFor_ok G (sc := sc) ef
  rw [hev]
  refine wpAny_comprehension_free (use := none) hcl (folded_not (notT hsc.2)) hcl' hkd hnm ?_
  refine HR.ev h₀ c iter σ iv σ₁ e0 A env ρ s G _ E fun v s₁ ρ₁ m₁ V₁ => ?_
  have G₁ := G.mv m₁
  refine pyIter_ok hai e1 G₁ V₁ fun I s₂ m₂ hI x₂ => ?_
  have fresh : s₂.heap.get? s₂.heap.objs.size = none := by
    cases q : s₂.heap.get? s₂.heap.objs.size with
    | none => rfl
    | some o => exact absurd (Heap.lt_size q) (Nat.lt_irrefl _)
  refine hnew ?_
  have m₃ : MV W h₀ ρ₁ σ₁ s₂ _ _ _ := Mv.new (tk := s₂.toks) (o' := o) (co := obj) m₂.rel fresh (fun _ _ e => Heap.get?_push_of_some _ e) (Heap.get?_push_size _ hfr) (hOR _ _ _)
  have m13 := m₂.trans G₁.rel m₃
  refine compEnv_ok hkd (C.mono (Nat.le_trans m₁.n m13.n) fun i hi => (m13.ext i (Nat.lt_of_lt_of_le hi m₁.n)).trans (m₁.ext i hi)) (G₁.mv m13) fun cenv ρ₄ s₄ m₄ G₄ hloc hfr => ?_
  have x₄ := (x₂.mv m₂.rel m₃).mv m13.rel m₄
  have m14 := m13.trans G₁.rel m₄
  have hD : ρ₄ σ₁.n = s₂.heap.objs.size := (m₄.ext σ₁.n (Nat.lt_succ_self _)).trans (if_pos rfl)
  have hC : s₁.heap.get? cenv.locals = none := by
    rw [hloc]
    cases q : s₁.heap.get? (ρ₄ (σ₁.new o).n) with
    | none => rfl
    | some o =>
      obtain ⟨o', e'⟩ := m13.ex _ _ q
      exact no (hfr.symm.trans e')
  refine hloop (CI W h₀ k A R (cCx c sc cells o σ₁) { cenv with scope := relabel sc env } tgt ifs (put (cCx c sc cells o σ₁) σ₁.n) S I ρ₁ σ₁ s₁ s₂.heap.objs.size cenv.locals σ') (fun n s₅ hn => comp_turn hai HR htg G₁.rel hI
    (EL := EL { cenv with scope := relabel sc env } s₂.heap.objs.size (notedBy (model W.prog W.w) A { cenv with scope := relabel sc env } fun e s' => compPost (model W.prog W.w) A E none Q (.ref s₂.heap.objs.size) cenv.locals (.error e) s'))
    (P0 := fun s => compPost (model W.prog W.w) A E none Q (.ref s₂.heap.objs.size) cenv.locals (.ok .next) s)
    (fun ρ₅ s₆ m₆ d₆ => comp_end G₁.rel m₆ d₆ hlv hC fun s' m₇ r₇ => h s' ρ₅ (m₁.trans G.rel m₇) r₇) (fun σ₈ σ₉ ρ₈ s₈ e9 G₈ d₈ l₈ post hp => d₈ ▸ hput _ _ σ₈ σ₉ ρ₈ s₈ e9 G₈ l₈ post _ hp) hn) turnsF ⟨0, ρ₄, _, e2, m14, ⟨hD, hloc.symm, G₄.lidlt⟩, G₄, x₄⟩ (iterAgain_ok x₄)
theorem listComp_ok (hai : AccIt W) (HR : FnsOk W k R) {elt tgt iter : Expr} {ifs : List Expr} {sc : Scope} {pos : Pos} {r : AV} (eq : lcE R c elt tgt iter ifs sc σ = some (r, σ')) (G : Gd W h₀ k c A env ρ σ s) {Q : Value → Shared → Prop}
    (h : ∀ v s' ρ', MV W h₀ ρ σ s ρ' σ' s' → VV W s' ρ' σ' r v → Q v s') : wpAny (model W.prog W.w) A (eval (.ListComp elt [⟨tgt, iter, ifs, 0⟩] sc pos) env) Q E s := by
  obtain ⟨d, σ₂, e1, eq⟩ := bndP eq
  obtain ⟨its, e2, eq⟩ := mapE eq
  cases eq
  refine compE_ok hai HR (eval_ListComp ..) rfl (fun h => wpAny_newList h) (by rfl) (fun h ρ σ => .list rfl (fun i x v e => by simp at e))
    (fun env₁ D E' post s => wpAny (model W.prog W.w) A (eval elt env₁) (fun x s₄ => wpAny (model W.prog W.w) A (call (.builtin "list.append") [.ref D, x]) (fun _ s => post s) E' s₄) E' s)
    (fun Iv turn n hn it => codeAny_compStart_list (compLoop_list Iv turn n hn) (it (compLoop_list Iv turn n hn))) (fun c₁ env₁ σ σ' ρ s eq G hd post E' hp => ?_) e1 G fun s' ρ' m r' => ?_
  · obtain ⟨x, σ₁, e1, eq⟩ := bndP eq
    obtain ⟨its, e2, eq⟩ := bndE eq
    obtain ⟨hz, eq⟩ := ok_eq eq
    subst eq
    refine HR.ev h₀ _ elt σ x σ₁ e1 A _ ρ s G _ _ fun xv s₁ ρ₁ m₁ V₁ => ?_
    rw [← m₁.ext d hd]
    exact append_ok (G.mv m₁) (listV_eq e2) (of_decide_eq_true hz) V₁ fun s' m' => hp s' ρ₁ (m₁.trans G.rel m')
  · have g3 : (σ₂.del (d + 1)).get d = some (.list its) := by rw [St.get_del, if_neg (Nat.succ_ne_self _)]; exact listV_eq e2
    obtain ⟨_, co', eco', r⟩ := r'.ob _ _ g3
    cases r with
    | list hll hlv => exact h _ _ ρ' m (.lst' (VVs.mv r' (Mv.del r' d) (VVs.of hll hlv)) ⟨_, eco', rfl, _, rfl⟩ (Rel.unt_del r' g3))
theorem dictComp_ok (hai : AccIt W) (HR : FnsOk W k R) {ke ve tgt iter : Expr} {ifs : List Expr} {sc : Scope} {pos : Pos} {r : AV} (eq : dcE R c ke ve tgt iter ifs sc σ = some (r, σ')) (G : Gd W h₀ k c A env ρ σ s) {Q : Value → Shared → Prop}
    (h : ∀ v s' ρ', MV W h₀ ρ σ s ρ' σ' s' → VV W s' ρ' σ' r v → Q v s') : wpAny (model W.prog W.w) A (eval (.DictComp ke ve [⟨tgt, iter, ifs, 0⟩] sc pos) env) Q E s := by
  obtain ⟨d, σ₂, e1, eq⟩ := bndP eq
  obtain ⟨es, e2, eq⟩ := mapE eq
  cases eq
  refine compE_ok hai HR (arm_eval_DictComp ..) rfl (fun h => wpAny_newObj_type h) (by rfl) (fun h ρ σ => .dic (kvs := []) ⟨rfl, rfl, rfl⟩ rfl (fun e he => by simp at he) .nil (by simp) rfl (fun i x v e => by simp at e))
    (fun env₁ D E' post s => wpAny (model W.prog W.w) A (eval ke env₁) (fun kv s₄ => wpAny (model W.prog W.w) A (eval ve env₁) (fun vv s₅ => wpAny (model W.prog W.w) A (dictSet D kv vv) (fun _ s => post s) E' s₅) E' s₄) E' s)
    (fun Iv turn n hn it => codeAny_compStart_dict (compLoop_dict Iv turn n hn) (it (compLoop_dict Iv turn n hn))) (fun c₁ env₁ σ σ' ρ s eq G hd post E' hp => ?_) e1 G fun s' ρ' m r' => ?_
  · obtain ⟨x, σ₁, e1, eq⟩ := bndP eq
    obtain ⟨nk, e3, eq⟩ := bndE eq
    obtain ⟨y, σ₃, e4, eq⟩ := bndP eq
    obtain ⟨its, e2, eq⟩ := bndE eq
    obtain ⟨hz, eq⟩ := ok_eq eq
    subst eq
    obtain rfl := intK_eq e3
    rw [Bool.and_eq_true] at hz
    refine HR.ev h₀ _ ke σ _ σ₁ e1 A _ ρ s G _ _ fun xv s₁ ρ₁ m₁ V₁ => ?_
    obtain ⟨tk, rfl⟩ := VV.intcI V₁
    refine HR.ev h₀ _ ve σ₁ y σ₃ e4 A _ ρ₁ s₁ (G.mv m₁) _ _ fun yv s₂ ρ₂ m₂ V₂ => ?_
    have m₃ := m₁.trans G.rel m₂
    rw [← m₃.ext d hd]
    exact dictSet_ok (G.mv m₃) (dicV_eq e2) (of_decide_eq_true hz.1) (notT hz.2) V₂ fun s' m' => hp s' ρ₂ (m₃.trans G.rel m')
  · have g3 : (σ₂.del (d + 1)).get d = some (.dic es) := by rw [St.get_del, if_neg (Nat.succ_ne_self _)]; exact dicV_eq e2
    obtain ⟨_, co', eco', r⟩ := r'.ob _ _ g3
    have hn : h₀.get? (ρ' d) = none := r'.nw _ _ g3 rfl
    cases r with
    | @dic _ kvs _ ds ep' hx hda' hk' hp hnd hll hlv =>
      refine h _ _ ρ' m (VV.dicI' (DVs.mv r' (Mv.del r' d) (DVs.of hll (fun i x v e e' => (hlv i x v e e').1) fun i x v e e' => (hlv i x v e e').2)) ⟨_, _, eco', hx, hda', hk', hp, hnd⟩ (Rel.unt_del r' g3) ?_)
      obtain ⟨ob, hob⟩ := G.big
      cases q : (ρ' d == sysModules) with
      | false => rfl
      | true => rw [beq_iff_eq.mp q, hob] at hn; exact no hn.symm
end
end Mine
end

section
open PySem PySem.Spec PySem.Calls PyProof.Rows PySem.W
set_option Elab.async false
namespace Mine
section
variable {W : Wd} {h₀ : Heap} {k : Nat} {c : Ctx} {A : Around} {env : Env} {ρ ρ' : Nat → Addr} {σ σ' σ'' : St} {s s' : Shared} {E : Value → Shared → Prop} {I : Addr} {S : Src} {R : Fns}

/-! arguments -/
theorem star_cons {e : Expr} {rest : List Expr} (h : isStar e = false) : starEach (e :: rest) env = (false, eval e env) :: starEach rest env := by
  cases e <;> first | rfl | cases h
theorem evsF_ok (HR : FnsOk W k R) (pos : Pos) : ∀ {es : List Expr} {xs : List AV} {σ σ' : St} {s : Shared} {ρ : Nat → Addr}, evsF R c es σ = some (xs, σ') → Gd W h₀ k c A env ρ σ s → ∀ {Q : List Value → Shared → Prop},
    (∀ vs s' ρ', MV W h₀ ρ σ s ρ' σ' s' → VVs W s' ρ' σ' xs vs → Q vs s') → wpAny (model W.prog W.w) A (spliced (backTo pos (starEach es env))) Q E s
  | [], xs, σ, σ', s, ρ, e, G, Q, h => by
    cases e
    exact spliced_nil (h [] s ρ (.refl G.rel) trivial)
  | e :: es, xs, σ, σ', s, ρ, eq, G, Q, h => by
    simp only [evsF] at eq
    split at eq
    · first | exact no eq | cases eq
    · rename_i hst
      split at eq
      · rename_i x σ₁ e1
        split at eq
        · rename_i ys σ₂ e2
          cases eq
          rw [star_cons hst]
          show wpAny _ _ (spliced ((false, eval e env) :: backTo pos (starEach es env))) _ _ _
          refine spliced_cons (HR.ev h₀ c e σ x σ₁ e1 A env ρ s G _ _ fun v s₁ ρ₁ m₁ V₁ => ?_)
          have G₁ := G.mv m₁
          exact evsF_ok HR pos e2 G₁ fun vs s₂ ρ₂ m₂ V₂ => h _ _ _ (m₁.trans G.rel m₂) ⟨m₂.vr G₁.rel V₁, V₂⟩
        · first | exact no eq | cases eq
      · first | exact no eq | cases eq
theorem evsF_plain : ∀ {es : List Expr} {xs : List AV} {σ σ' : St}, evsF R c es σ = some (xs, σ') → ∀ (pos : Pos), (backTo pos (starEach es env)).any (·.1) = false ∧ ((backTo pos (starEach es env)).all fun x => !x.1) = true
  | [], _, _, _, _, _ => ⟨rfl, rfl⟩
  | e :: es, xs, σ, σ', eq, pos => by
    simp only [evsF] at eq
    split at eq
    · first | exact no eq | cases eq
    · rename_i hst
      split at eq
      · split at eq
        · rename_i e2
          obtain ⟨a, b⟩ := evsF_plain e2 pos
          rw [star_cons hst]
          exact ⟨by show (false || _) = false; rw [Bool.false_or]; exact a, by show (!false && _) = true; exact b⟩
        · first | exact no eq | cases eq
      · first | exact no eq | cases eq

/-- a call with plain arguments: the callee is looked at after them -/
theorem callArgs_ok (HR : FnsOk W k R) {pos : Pos} {f : Value} {first : List Value} {es : List Expr} {xs : List AV} (e : evsF R c es σ = some (xs, σ')) (G : Gd W h₀ k c A env ρ σ s) {Q : Value → Shared → Prop}
    (hk : ∀ h, W.K.In h → ∃ k, (k = Keeper.frame ∨ k = Keeper.machine ∨ k = Keeper.boundFrame) ∧ Looks (model W.prog W.w) h (keeperOf f) k)
    (h : ∀ vs s' ρ', MV W h₀ ρ σ s ρ' σ' s' → VVs W s' ρ' σ' xs vs → wpAny (model W.prog W.w) A (call f (first ++ vs)) Q E s') : wpAny (model W.prog W.w) A (callWith pos f first (backTo pos (starEach es env)) []) Q E s := by
  refine callWith_of (P := W.K.In) (by rw [(evsF_plain e pos).1]; rfl) hk ?_
  cases es with
  | nil =>
    cases e
    exact evalArgs_nil3 ⟨G.kinH, h [] s ρ (.refl G.rel) trivial⟩
  | cons x rest =>
    have hst : isStar x = false := by
      simp only [evsF] at e
      split at e
      · first | exact no e | cases e
      · assumption
    have key := evsF_ok HR pos e G (Q := fun vs s₁ => W.K.In s₁.heap ∧ wpAny (model W.prog W.w) A (call f (first ++ vs)) Q E s₁) (E := E) fun vs s' ρ' m V => ⟨(G.mv m).kinH, h vs s' ρ' m V⟩
    rw [star_cons hst] at key ⊢
    exact evalArgs_plain key

/-- the displays -/
noncomputable def pairsOf (env : Env) (pos : Pos) : List (Option Expr) → List Expr → List (Sem Value × Sem Value)
  | some k :: ks, v :: vs => (eval k env, do let x ← eval v env; standAt pos; pure x) :: pairsOf env pos ks vs
  | _, _ => []
theorem pairs_shape (pos : Pos) : ∀ {ks : List (Option Expr)} {vs : List Expr} {r : List (Int × AV)} {σ σ' : St}, pairsF R c ks vs σ = some (r, σ') →
    (evalEachOpt ks env).zip ((evalEach vs env).map fun v => do let x ← v; standAt pos; pure x) = (pairsOf env pos ks vs).map (fun p => (some p.1, p.2)) ∧ (pairsOf env pos ks vs).length = ks.length
  | [], [], _, _, _, _ => ⟨rfl, rfl⟩
  | k :: ks, v :: vs, r, σ, σ', e => by
    simp only [pairsF] at e
    split at e
    · first | exact no e | cases e
    · rename_i k'
      split at e
      · split at e
        · first | exact no e | cases e
        · split at e
          · first | exact no e | cases e
          · rename_i e2
            obtain ⟨a, b⟩ := pairs_shape pos e2
            refine ⟨?_, by simp only [pairsOf, List.length_cons, b]⟩
            simp only [evalEachOpt, evalEach, List.map_cons, List.zip_cons_cons, pairsOf, a]
            rfl
      · first | exact no e | cases e
  | [], _ :: _, _, _, _, e => by cases e
  | _ :: _, [], _, _, _, e => by cases e
/-- the evaluated pairs -/
noncomputable def CVs (W : Wd) (s : Shared) (ρ : Nat → Addr) (σ : St) : List (Int × AV) → List (Value × Value) → List (Int × Value) → Prop
  | [], [], [] => True
  | x :: xs, v :: vs, kv :: kvs => ((∃ t, v.1 = .int x.1 t) ∧ kv = (x.1, v.2) ∧ VV W s ρ σ x.2 v.2) ∧ CVs W s ρ σ xs vs kvs
  | _, _, _ => False
theorem CVs.carries : ∀ {xs : List (Int × AV)} {vs : List (Value × Value)} {kvs : List (Int × Value)}, CVs W s ρ σ xs vs kvs → Carries (intKind W.prog W.w) vs kvs ∧ DVs W s ρ σ xs kvs
  | [], [], [], _ => ⟨trivial, trivial⟩
  | x :: xs, (v, u) :: vs, kv :: kvs, ⟨⟨⟨t, e⟩, e2, V⟩, r⟩ => by
    obtain ⟨a, b⟩ := CVs.carries r
    simp only at e
    subst e e2
    exact ⟨⟨by simp [intKind, Value.isInt], rfl, a⟩, ⟨rfl, V⟩, b⟩
  | [], [], _ :: _, h => h.elim
  | [], _ :: _, _, h => h.elim
  | _ :: _, [], _, h => h.elim
  | _ :: _, _ :: _, [], h => h.elim
theorem CVs.mv (R : Rel W.prog W.w W.θ h₀ ρ σ s.heap) (m : MV W h₀ ρ σ s ρ' σ' s') : ∀ {xs : List (Int × AV)} {vs : List (Value × Value)} {kvs : List (Int × Value)}, CVs W s ρ σ xs vs kvs → CVs W s' ρ' σ' xs vs kvs
  | [], [], [], _ => trivial
  | _ :: _, _ :: _, _ :: _, ⟨⟨e, e2, V⟩, r⟩ => ⟨⟨e, e2, m.vr R V⟩, CVs.mv R m r⟩
  | [], [], _ :: _, h => h.elim
  | [], _ :: _, _, h => h.elim
  | _ :: _, [], _, h => h.elim
  | _ :: _, _ :: _, [], h => h.elim
theorem pairsF_ok (HR : FnsOk W k R) (pos : Pos) : ∀ {ks : List (Option Expr)} {vs : List Expr} {r : List (Int × AV)} {σ σ' : St} {s : Shared} {ρ : Nat → Addr}, pairsF R c ks vs σ = some (r, σ') → Gd W h₀ k c A env ρ σ s → ∀ {Q : List (Value × Value) → Shared → Prop},
    (∀ us s' ρ' kvs, MV W h₀ ρ σ s ρ' σ' s' → CVs W s' ρ' σ' r us kvs → (r.map (·.1)).Nodup → Q us s') → wpAny (model W.prog W.w) A (evalPairs (pairsOf env pos ks vs)) Q E s
  | [], [], _, _, _, s, ρ, e, G, Q, h => by
    cases e
    exact wpAny_pure (h [] s ρ [] (.refl G.rel) trivial (by simp))
  | ko :: ks, v :: vs, r, σ, σ', s, ρ, e, G, Q, h => by
    simp only [pairsF] at e
    split at e
    · first | exact no e | cases e
    · rename_i ke
      split at e
      · rename_i n σ₁ e1
        split at e
        · first | exact no e | cases e
        · rename_i x σ₂ e2
          split at e
          · first | exact no e | cases e
          · rename_i r' σ₃ e3
            split at e
            · first | exact no e | cases e
            · rename_i hnew
              cases e
              show wpAny _ _ (do let kv ← eval ke env; let vv ← holding [kv] (do let x ← eval v env; standAt pos; pure x); return (kv, vv) :: (← holding [kv, vv] (evalPairs (pairsOf env pos ks vs)))) _ _ _
              refine wpAny_bind (HR.ev h₀ c ke σ _ σ₁ e1 A env ρ s G _ _ fun kv s₁ ρ₁ m₁ V₁ => ?_)
              obtain ⟨t, rfl⟩ := VV.intcI V₁
              have G₁ := G.mv m₁
              refine wpAny_bind (wpAny_holding (wpAny_bind (HR.ev h₀ c v σ₁ x σ₂ e2 A env ρ₁ s₁ G₁ _ _ fun vv s₂ ρ₂ m₂ V₂ => wpAny_bind (wpAny_standAt (wpAny_pure ?_)))))
              have G₂ := G₁.mv m₂
              refine wpAny_bind (wpAny_holding (pairsF_ok HR pos e3 G₂ fun us s₃ ρ₃ kvs m₃ V₃ hnd => wpAny_pure ?_))
              refine h _ s₃ ρ₃ ((n, vv) :: kvs) ((m₁.trans G.rel m₂).trans G.rel m₃) ⟨⟨⟨t, rfl⟩, rfl, m₃.vr G₂.rel V₂⟩, V₃⟩ ?_
              rw [List.map_cons, List.nodup_cons]
              refine ⟨fun hm => hnew ?_, hnd⟩
              obtain ⟨y, hy, ey⟩ := List.mem_map.mp hm
              exact List.any_eq_true.mpr ⟨y, hy, by simpa using ey⟩
      · first | exact no e | cases e
  | [], _ :: _, _, _, _, _, _, e, _, _, _ => by cases e
  | _ :: _, [], _, _, _, _, _, e, _, _, _ => by cases e
theorem merged_nil : ∀ (acc kvs : List (Int × Value)), ((acc ++ kvs).map (·.1)).Nodup → merged acc kvs = acc ++ kvs
  | acc, [], _ => by simp [merged]
  | acc, kv :: kvs, h => by
    show merged (stored acc kv.1 kv.2) kvs = _
    have hne : ∀ y ∈ acc, y.1 ≠ kv.1 := fun y hy e => by
      rw [List.map_append, List.nodup_append] at h
      exact h.2.2 y.1 (List.mem_map.mpr ⟨y, hy, rfl⟩) kv.1 (by simp) e
    rw [stored_new hne, merged_nil (acc ++ [(kv.1, kv.2)]) kvs (by simpa using h)]
    simp

theorem dispF_ok (HR : FnsOk W k R) {keys : List (Option Expr)} {vals : List Expr} {pos : Pos} {a : AV} (e : dispF R c keys vals σ = some (a, σ')) (G : Gd W h₀ k c A env ρ σ s) {Q : Value → Shared → Prop}
    (h : ∀ v s' ρ', MV W h₀ ρ σ s ρ' σ' s' → VV W s' ρ' σ' a v → Q v s') : wpAny (model W.prog W.w) A (eval (.Dict keys vals pos) env) Q E s := by
  unfold dispF at e
  split at e
  · first | exact no e | cases e
  · rename_i hlen
    rw [Bool.and_eq_true, decide_eq_true_eq] at hlen
    split at e
    · first | exact no e | cases e
    · rename_i es σ₁ e1
      split at e
      · rename_i gD
        cases e
        obtain ⟨sh, hl⟩ := pairs_shape (env := env) pos e1
        refine wpAny_Dict_pairs (knd := intKind W.prog W.w) sh ?_ (by rw [hl]; exact hlen.2) ?_
        · intro q
          rw [q] at hl
          cases keys with
          | nil => simp at hlen
          | cons => simp at hl
        have fresh : s.heap.get? s.heap.objs.size = none := by
          cases q : s.heap.get? s.heap.objs.size with
          | none => rfl
          | some o => exact absurd (Heap.lt_size q) (Nat.lt_irrefl _)
        have m₀ : MV W h₀ ρ σ s _ _ _ := Mv.new (tk := s.toks) (o' := .dic []) (co := { cls := .type "dict", data := .dict #[] }) G.rel fresh (fun _ _ e => Heap.get?_push_of_some _ e) (Heap.get?_push_size _ rfl) (.dic (kvs := []) ⟨rfl, rfl, rfl⟩ rfl (fun e he => by simp at he) .nil (by simp) rfl (fun i x v e => by simp at e))
        have G₀ := G.mv m₀
        refine pairsF_ok HR pos e1 G₀ fun us s₁ ρ₁ kvs m₁ V₁ hnd => ?_
        have G₁ := G₀.mv m₁
        obtain ⟨hc, hd⟩ := V₁.carries
        have hD : ρ₁ σ.n = s.heap.objs.size := (m₁.ext σ.n (Nat.lt_succ_self _)).trans (if_pos rfl)
        obtain ⟨kv0, hd0, hv0⟩ := dic_get G₁ gD
        have : kv0 = [] := by cases kv0 with
          | nil => rfl
          | cons => exact hv0.elim
        subst this
        rw [hD] at hd0
        refine ⟨kvs, hc, hd0, fun h' hd' hs' => ?_⟩
        rw [merged_nil [] kvs (by simpa [hd.keys] using hnd)] at hd'
        obtain ⟨o, ds, ep, ho, hx, hda, hk, hp, hnd'⟩ := hd'
        have m₂ : MV W h₀ ρ₁ σ₁ s₁ ρ₁ (σ₁.put σ.n (.dic es)) { s₁ with heap := h', toks := s₁.toks + us.length } :=
          Mv.put G₁.rel gD (G₁.rel.nw _ _ gD rfl) (fun b ob hb hg => (hs'.2 b (by rw [← hD]; exact hb)).trans hg) (by rw [hD]; exact ho) (.dic hx hda hk hp hnd' hd.len hd.get)
        have g2 : (σ₁.put σ.n (.dic es)).get σ.n = some (.dic es) := by rw [St.get_put, if_pos rfl]
        have m₃ := m₂.trans G₁.rel (Mv.del (s := { s₁ with heap := h', toks := s₁.toks + us.length }) m₂.rel σ.n)
        refine h _ _ ρ₁ ((m₀.trans G.rel m₁).trans G.rel m₃) ?_
        refine VV.dicI' (s := { s₁ with heap := h', toks := s₁.toks + us.length }) (DVs.mv G₁.rel m₃ hd) ⟨_, _, ho, hx, hda, hk, hp, hnd'⟩ (by rw [← hD]; exact Rel.unt_del (s := { s₁ with heap := h', toks := s₁.toks + us.length }) m₂.rel g2) ?_
        obtain ⟨ob, hob⟩ := G.big
        cases q : (s.heap.objs.size == sysModules) with
        | false => rfl
        | true =>
          have := G.rel.base _ _ hob
          rw [← beq_iff_eq.mp q, fresh] at this
          cases this
      · first | exact no e | cases e

/-! slices of tuples -/
theorem partF_ok (HR : FnsOk W k R) {e : Option Expr} {l : Option Int} (eq : partF R c e σ = some (l, σ')) (G : Gd W h₀ k c A env ρ σ s) {Q : Value → Shared → Prop}
    (h : ∀ v s' ρ', MV W h₀ ρ σ s ρ' σ' s' → IsPart v l → Q v s') : wpAny (model W.prog W.w) A (evalPart e env) Q E s := by
  unfold partF at eq
  split at eq
  · cases eq
    rw [evalPart_none]
    exact wpAny_pure (h _ _ ρ (.refl G.rel) .none)
  · split at eq
    · rename_i e1
      cases eq
      rw [evalPart_some]
      refine HR.ev h₀ c _ σ _ _ e1 A env ρ s G _ _ fun v s₁ ρ₁ m₁ V₁ => ?_
      obtain ⟨t, rfl⟩ := VV.intcI V₁
      exact h _ _ ρ₁ m₁ (.int _ t)
    · first | exact no eq | cases eq

theorem bounds_of {lo hi : Option Int} {n : Nat} (h : slOk lo hi n = true) : ∃ a b : Nat, a ≤ n ∧ b ≤ n ∧ Builtin.Slice.sliceAdjust lo hi 1 (n : Int) = ((a : Int), (b : Int)) ∧ (lo.map Int.toNat).getD 0 = a ∧ (hi.map Int.toNat).getD n = b ∧ n ≤ 1000 := by
  unfold slOk at h
  rw [Bool.and_eq_true, Bool.and_eq_true, decide_eq_true_eq] at h
  obtain ⟨⟨h1, h2⟩, h3⟩ := h
  have q1 : ¬ ((1 : Int) < 0) := by omega
  cases lo with
  | none =>
    cases hi with
    | none => exact ⟨0, n, Nat.zero_le _, Nat.le_refl _, by unfold Builtin.Slice.sliceAdjust; simp, rfl, rfl, h3⟩
    | some y =>
      have hy : 0 ≤ y ∧ y ≤ n := by simpa using h2
      refine ⟨0, y.toNat, Nat.zero_le _, by omega, ?_, rfl, rfl, h3⟩
      unfold Builtin.Slice.sliceAdjust
      have q2 : ¬ (y < 0) := by omega
      simp only [q1, q2, if_false]
      congr 1
      omega
  | some x =>
    have hx : 0 ≤ x ∧ x ≤ n := by simpa using h1
    have q2 : ¬ (x < 0) := by omega
    cases hi with
    | none =>
      refine ⟨x.toNat, n, by omega, Nat.le_refl _, ?_, rfl, rfl, h3⟩
      unfold Builtin.Slice.sliceAdjust
      simp only [q1, q2, if_false]
      congr 1
      omega
    | some y =>
      have hy : 0 ≤ y ∧ y ≤ n := by simpa using h2
      have q3 : ¬ (y < 0) := by omega
      refine ⟨x.toNat, y.toNat, by omega, by omega, ?_, rfl, rfl, h3⟩
      unfold Builtin.Slice.sliceAdjust
      simp only [q1, q2, q3, if_false]
      congr 1 <;> omega
theorem places_of (a b : Nat) : Builtin.Slice.slicePlaces (a : Int) (b : Int) 1 = b - a := by
  unfold Builtin.Slice.slicePlaces
  have h1 : (1 : Int) > 0 := by omega
  simp only [h1, if_true, Int.ediv_one]
  split <;> omega
theorem part_ok {v : Value} {l : Option Int} (h : IsPart v l) {Q : Option Int → Shared → Prop} (hq : Q l s) : wpAny (model W.prog W.w) A (Builtin.Slice.slicePartIndex v) Q E s := by
  cases h with
  | none => exact slicePart_none hq
  | int i t => exact slicePart_int hq
theorem applied_ok {sl : Addr} {n : Nat} {vl vu : Value} {lo hi : Option Int} {a b : Nat} {Q : Int × Int × Nat → Shared → Prop} (hs : s.heap.IsSliceOf sl vl vu .none) (pl : IsPart vl lo) (pu : IsPart vu hi) (he : Builtin.Slice.sliceAdjust lo hi 1 (n : Int) = ((a : Int), (b : Int)))
    (h : Q ((a : Int), 1, b - a) s) : wpAny (model W.prog W.w) A (Builtin.Slice.sliceApplied (.ref sl) (pure (n : Int))) Q E s := by
  obtain ⟨os, hos, hcs, hds⟩ := id hs
  unfold Builtin.Slice.sliceApplied Builtin.Slice.sliceFields
  refine wpAny_bind (wpAny_bind (wpAny_field hos hds (x := vl) rfl (wpAny_bind (wpAny_field hos hds (x := vu) rfl (wpAny_bind (wpAny_field hos hds (x := .none) rfl (wpAny_pure ?_)))))))
  refine wpAny_bind (slicePart_none ?_)
  show wpAny _ _ (if ((1 : Int) == 0) = true then _ else _) _ _ s
  rw [if_neg (by decide)]
  refine wpAny_bind (part_ok pl (wpAny_bind (part_ok pu (wpAny_bind (wpAny_pure ?_)))))
  show wpAny _ _ (match Builtin.Slice.sliceAdjust lo hi 1 (n : Int) with | (lo, hi) => pure (lo, (1 : Int), Builtin.Slice.slicePlaces lo hi 1)) _ _ s
  rw [he]
  show wpAny _ _ (pure ((a : Int), (1 : Int), Builtin.Slice.slicePlaces (a : Int) (b : Int) 1)) _ _ s
  rw [places_of a b]
  exact wpAny_pure h
theorem pick_of (xs : Array Value) (a b : Nat) (hb : b ≤ xs.size) : ((List.range (b - a)).filterMap fun (k : Nat) => xs[((a : Int) + (k : Int) * 1).toNat]?).toArray = ((xs.toList.take b).drop a).toArray := by
  have e : (fun (k : Nat) => xs[((a : Int) + (k : Int) * 1).toNat]?) = fun k => xs[a + k]? := by
    funext k
    have : ((a : Int) + (k : Int) * 1).toNat = a + k := by omega
    rw [this]
  rw [e]
  have := pick_run xs a (b - a)
  rw [List.filterMap_map] at this
  have e2 : ((fun x => xs[x]?) ∘ fun x => a + x) = fun k => xs[a + k]? := rfl
  rw [e2] at this
  rw [this, List.drop_take]

theorem tupSlice_ok {t sl : Addr} {vs : List Value} {vl vu : Value} {lo hi : Option Int} {a b : Nat} {Q : Value → Shared → Prop} (ht : s.heap.IsTuple t vs.toArray) (hs : s.heap.IsSliceOf sl vl vu .none) (pl : IsPart vl lo) (pu : IsPart vu hi)
    (he : Builtin.Slice.sliceAdjust lo hi 1 (vs.length : Int) = ((a : Int), (b : Int))) (hb : b ≤ vs.length) (hz : vs.length ≤ 1000) (h0 : (vs.take b).drop a = vs → Q (.ref t) s)
    (h : Q (.ref s.heap.objs.size) { s with heap := s.heap.push { cls := .type "tuple", data := .seq ((vs.take b).drop a).toArray } }) : wpAny (model W.prog W.w) A (getItem (.ref t) (.ref sl)) Q E s := by
  obtain ⟨os, hos, hcs, hds⟩ := id hs
  have hTs : s.TypeIs (.ref sl) "slice" := ⟨os, hos, hcs⟩
  unfold getItem
  try with_reducible refine wpAny_holding ?_
  first | refine wpAny_bind (wpAny_pure ?_) | skip
  refine wpAny_bind (wpAny_sequenceKey ht.typeIs (by decide) ?_)
  refine wpAny_bind (wpAny_callSpecial?_slot (name := Str.ofString "__getitem__") ht.typeIs slot_tuple_getitem
    (wpAny_call_entry slot_tuple_getitem ht.typeIs entry_tuple_getitem ?_ (args_tuple_getitem _ _)))
  show wpAny _ _ (Builtin.Tuple.tupleItemsOf (.ref t) >>= _) _ _ s
  refine wpAny_bind (tupleItemsOf_ ht ?_)
  refine wpAny_bind (wpAny_typeOf hTs ?_)
  rw [if_pos (by decide)]
  have hsz : vs.toArray.size = vs.length := List.size_toArray ..
  refine wpAny_bind (applied_ok hs pl pu (by rw [hsz]; exact he) ?_)
  show wpAny _ _ (if ((a : Int) == 0 && (1 : Int) == 1 && (b - a) == vs.toArray.size) = true then _ else _) _ _ s
  by_cases hc : ((a : Int) == 0 && (1 : Int) == 1 && (b - a) == vs.toArray.size) = true
  · rw [if_pos hc]
    have h1 : a = 0 ∧ b = vs.length := by
      rw [hsz] at hc
      simp at hc
      omega
    have hw : (vs.take b).drop a = vs := by rw [h1.1, h1.2]; simp
    first
      | refine wpAny_bind (m := Builtin.Tuple.tupleIsExact _) (wpAny_bind (wpAny_typeOf ht.typeIs (wpAny_pure ?_)))
      | refine wpAny_bind (wpAny_bind (m := Builtin.Tuple.tupleIsExact _) (wpAny_bind (wpAny_typeOf ht.typeIs (wpAny_pure ?_))))
    rw [if_pos (by decide)]
    first
      | exact wpAny_bind (wpAny_rule (wpAny_pure ⟨_, rfl, wpAny_pure (h0 hw)⟩))
      | exact wpAny_bind (wpAny_rule (wpAny_bind (wpAny_pure (wpAny_pure ⟨_, rfl, wpAny_pure (h0 hw)⟩))))
      | exact wpAny_bind (wpAny_bind (wpAny_rule (wpAny_bind (wpAny_pure (wpAny_pure (wpAny_pure ⟨_, rfl, wpAny_pure (h0 hw)⟩))))))
  · rw [if_neg hc, pick_of _ a b (by rw [hsz]; exact hb)]
    have hok : sizeOk (.seq ((vs.toArray.toList.take b).drop a).toArray) := by
      show ((vs.toArray.toList.take b).drop a).toArray.size ≤ sizeLine
      rw [List.size_toArray, List.length_drop, List.length_take]
      exact Nat.le_trans (by omega) (show 1000 ≤ sizeLine by decide)
    first
      | exact wpAny_bind (m := Builtin.Tuple.tupleExact _) (wpAny_newObj_type (wpAny_pure ⟨_, rfl, wpAny_pure h⟩) hok)
      | exact wpAny_bind (m := Builtin.Tuple.tupleExact _) (wpAny_newObj_type (wpAny_bind (wpAny_pure (wpAny_pure ⟨_, rfl, wpAny_pure h⟩))) hok)
      | exact wpAny_bind (wpAny_bind (m := Builtin.Tuple.tupleExact _) (wpAny_newObj_type (wpAny_pure (wpAny_pure ⟨_, rfl, wpAny_pure h⟩)) hok))
      | exact wpAny_bind (wpAny_bind (m := Builtin.Tuple.tupleExact _) (wpAny_newObj_type (wpAny_pure ⟨_, rfl, wpAny_pure h⟩) hok))
end
end Mine
end

section
open PySem PySem.Spec PySem.Calls PyProof.Rows PySem.W
set_option Elab.async false
namespace Mine
section
variable {W : Wd} {h₀ : Heap} {k : Nat} {c : Ctx} {A : Around} {env : Env} {ρ ρ' : Nat → Addr} {σ σ' σ'' : St} {s s' : Shared} {E : Value → Shared → Prop} {I : Addr} {S : Src} {R : Fns}

theorem VVs.takeDrop : ∀ {xs : List AV} {vs : List Value}, VVs W s ρ σ xs vs → ∀ b a, VVs W s ρ σ ((xs.take b).drop a) ((vs.take b).drop a)
  | [], [], _, b, a => by simp [VVs]
  | x :: xs, v :: vs, h, 0, a => by simp [VVs]
  | x :: xs, v :: vs, ⟨h, r⟩, b + 1, 0 => ⟨h, by simpa using VVs.takeDrop r b 0⟩
  | x :: xs, v :: vs, ⟨h, r⟩, b + 1, a + 1 => VVs.takeDrop r b a
  | [], _ :: _, h, _, _ => h.elim
  | _ :: _, [], h, _, _ => h.elim

theorem sliceF_ok (HR : FnsOk W k R) {o : Expr} {lo hi : Option Expr} {p pos : Pos} {a : AV} (e : sliceF R c o lo hi σ = some (a, σ')) (G : Gd W h₀ k c A env ρ σ s) {Q : Value → Shared → Prop}
    (h : ∀ v s' ρ', MV W h₀ ρ σ s ρ' σ' s' → VV W s' ρ' σ' a v → Q v s') : wpAny (model W.prog W.w) A (eval (.Subscript o (.Slice lo hi none p) pos) env) Q E s := by
  unfold sliceF at e
  split at e
  · rename_i its σ₁ e1
    split at e
    · first | exact no e | cases e
    · rename_i l σ₂ e2
      split at e
      · first | exact no e | cases e
      · rename_i u σ₃ e3
        split at e
        · rename_i hok
          cases e
          refine Subscript_ (HR.ev h₀ c o σ _ σ₁ e1 A env ρ s G _ _ fun v s₁ ρ₁ m₁ V₁ => ?_)
          have G₁ := G.mv m₁
          refine wpAny_Slice (partF_ok HR e2 G₁ fun vl s₂ ρ₂ m₂ pl => ?_)
          have G₂ := G₁.mv m₂
          refine partF_ok HR e3 G₂ fun vu s₃ ρ₃ m₃ pu => ?_
          have G₃ := G₂.mv m₃
          rw [evalPart_none]
          refine wpAny_pure ?_
          obtain ⟨t, vs, rfl, ht, hu, hv⟩ := VV.tupI (m₃.vr G₂.rel (m₂.vr G₁.rel V₁))
          have m₄ := mv_push G₃.rel { cls := .type "slice", data := .fields #[vl, vu, .none] }
          have G₄ := G₃.mv m₄
          rw [hv.len] at hok
          obtain ⟨x, y, hx, hy, he, ex, ey, hz⟩ := bounds_of hok
          have m04 := ((m₁.trans G.rel m₂).trans G.rel m₃).trans G.rel m₄
          have hv4 := VVs.mv G₃.rel m₄ hv
          refine tail_any (T := "tuple") (ops := [.ref s₃.heap.objs.size, .ref t]) (ht.push _).typeIs slot_tuple_getitem.lookup (tupSlice_ok (ht.push _) (Heap.IsSliceOf.new ..) pl pu he hy hz (fun hw => ?_) ?_) rfl
          · refine h _ _ ρ₃ m04 ?_
            have : slOf l u its = its := by
              unfold slOf
              rw [ex, hv.len, ey]
              have hl := congrArg List.length hw
              simp only [List.length_drop, List.length_take] at hl
              have h0 : x = 0 ∨ vs.length = 0 := by omega
              rcases h0 with h0 | h0
              · rw [h0, List.drop_zero, List.take_of_length_le (by rw [hv.len]; omega)]
              · have : its = [] := List.eq_nil_of_length_eq_zero (by rw [hv.len]; exact h0)
                rw [this]; simp
            rw [this]
            exact .tup' hv4 (ht.push _) hu
          · have m₅ := mv_push G₄.rel { cls := .type "tuple", data := .seq ((vs.take y).drop x).toArray }
            refine h _ _ ρ₃ (m04.trans G.rel m₅) ?_
            have := mk_tup G₄.rel (hv4.takeDrop y x)
            unfold slOf
            rw [ex, hv.len, ey]
            exact this
        · first | exact no e | cases e
  · first | exact no e | cases e

/-! what the text's classes and functions say of themselves -/
structure KOk (K : Frag) : Prop where
  meth : ∀ C x f, methT C x = some f → plainGet K C x = true ∧ findIn K (.ref C) x = some (some (.ref f)) ∧ isFn K (.ref f) = true ∧ keepIn K (.ref f) = true
  accG : findIn K (.ref 122) "__getattribute__" = some (some (.builtin "list.__getattribute__")) ∧ findIn K (.ref 122) "__getattr__" = some none
  acc : ∀ x f, accT x = some f → findIn K (.ref 122) x = some (some (.ref f)) ∧ isFn K (.ref f) = true ∧ keepIn K (.ref f) = true ∧ x ≠ ("_initial_size" : Str)
  attr : ∀ C x, attrT C x = true → plainGet K C x = true ∧ hasDictIn K C = true ∧ ∃ a, findIn K (.ref C) x = some a ∧ noGet K a = true
  known : ∀ a, a ∈ knownA → keepIn K (.ref a) = true

theorem canon_list_ga : (Manifest.canonical "list.__getattribute__" != "object.__getattribute__") = false := by decide +kernel
/-- a method of the text's own, on an object of the list subclass -/
theorem meth_acc {K : Frag} {M : Model} {x C f : Addr} {ox od : Obj} {name : Str} {pl : Sem Bool} {Q : Value × List Value → Shared → Prop} (X : K.In s.heap) (I : InstAt s.heap x ox C (some od)) (hga : findIn K (.ref C) "__getattribute__" = some (some (.builtin "list.__getattribute__")))
    (hk : findIn K (.ref C) "__getattr__" = some none) (hf : findIn K (.ref C) name = some (some (.ref f))) (ht : typeIn K (.ref f) = some (.type "function")) (hs : lookIn name od = some none) (h : Q (.ref f, [.ref x]) s) :
    wpAny M A (getMethod (.ref x) name pl) Q E s := by
  have hd := I.dict
  unfold getMethod specialOf
  refine wpAny_bind (wpAny_bind (I.type.here ((looks_findIn X hga).here ?_)))
  dsimp only
  rw [if_neg (by rw [canon_list_ga]; decide)]
  refine wpAny_bind (wpAny_bind (I.type.here ((looks_findIn X hk).here ?_)))
  refine wpAny_bind (wpAny_bind (I.type.here ((looks_findIn X hf).here (wpAny_bind ((looks_typeIn X ht).here ?_)))))
  rw [if_neg (by decide +kernel)]
  refine wpAny_bind (wpAny_loadPart I.at_ ?_)
  cases e : ox.dict with
  | none => rw [e] at hd; exact hd.elim
  | some dx =>
    rw [e] at hd
    refine wpAny_bind (wpAny_bind (wpAny_loadPart hd ?_))
    rw [nsLook_of hs]
    exact wpAny_pure (wpAny_bind (wpAny_rule (wpAny_pure h)))

/-- the told ones -/
noncomputable def PrimOk (W : Wd) : Prop :=
  ∀ h₀ k c f args σ r σ', primA f args σ = some (some (r, σ')) → ∀ A env ρ s, Gd W h₀ k c A env ρ σ s → ∀ vs, VVs W s ρ σ args vs → ∀ (Q : Value → Shared → Prop) (E : Value → Shared → Prop),
    (∀ v s' ρ', MV W h₀ ρ σ s ρ' σ' s' → VV W s' ρ' σ' r v → Q v s') → wpAny (model W.prog W.w) A (PySem.call (.ref f) vs) Q E s

theorem callR_ok (HP : PrimOk W) (HR : FnsOk W k R) {f : Addr} {args : List AV} {r : AV} (e : callR R c f args σ = some (r, σ')) (G : Gd W h₀ k c A env ρ σ s) {vs : List Value} (V : VVs W s ρ σ args vs) {Q : Value → Shared → Prop}
    (h : ∀ v s' ρ', MV W h₀ ρ σ s ρ' σ' s' → VV W s' ρ' σ' r v → Q v s') : wpAny (model W.prog W.w) A (call (.ref f) vs) Q E s := by
  unfold callR at e
  split at e
  · rename_i q
    subst e
    exact HP h₀ k c f args σ r σ' q A env ρ s G vs V Q E h
  · exact HR.call h₀ c f args σ r σ' e A env ρ s G vs V Q E h

theorem VVs.one {x : AV} {vs : List Value} (V : VVs W s ρ σ [x] vs) : ∃ v, vs = [v] ∧ VV W s ρ σ x v := by
  cases vs with
  | nil => exact V.elim
  | cons v vs => cases vs with
    | nil => exact ⟨v, rfl, V.1⟩
    | cons => exact V.2.elim
theorem VVs.two {x y : AV} {vs : List Value} (V : VVs W s ρ σ [x, y] vs) : ∃ v u, vs = [v, u] ∧ VV W s ρ σ x v ∧ VV W s ρ σ y u := by
  cases vs with
  | nil => exact V.elim
  | cons v vs =>
    obtain ⟨u, rfl, U⟩ := VVs.one V.2
    exact ⟨v, u, rfl, V.1, U⟩
theorem VVs.zero {vs : List Value} (V : VVs W s ρ σ [] vs) : vs = [] := by
  cases vs with
  | nil => rfl
  | cons => exact V.elim

theorem rngA_ok {args : List AV} {r : AV} (e : rngA args σ = some (r, σ')) (G : Gd W h₀ k c A env ρ σ s) {vs : List Value} (V : VVs W s ρ σ args vs) {Q : Value → Shared → Prop}
    (h : ∀ v s', MV W h₀ ρ σ s ρ σ' s' → VV W s' ρ σ' r v → Q v s') : wpAny (model W.prog W.w) A (call (.type "range") vs) Q E s := by
  cases args with
  | nil => first | exact no e | cases e
  | cons a l =>
    dsimp only [rngA] at e
    cases q : intK a with
    | none => rw [q] at e; first | exact no e | cases e
    | some m =>
      obtain rfl := intK_eq q
      cases l with
      | nil =>
        change (if m.natAbs < 1000 then some (AV.rng 0 m, σ) else none) = some (r, σ') at e
        split at e
        · cases e
          obtain ⟨v, rfl, V1⟩ := V.one
          obtain ⟨t, rfl⟩ := VV.intcI V1
          exact call_range_1 (h _ _ (Mv.heap G.rel fun _ _ e => Heap.get?_push_of_some _ e) (.rng (IsRange.new ..) G.rel.unt_size))
        · first | exact no e | cases e
      | cons b l =>
        cases l with
        | cons _ _ => first | exact no e | cases e
        | nil =>
          cases q : intK b with
          | none =>
            cases b with
            | int x => cases x <;> first | (cases e) | (cases q)
            | _ => first | exact no e | cases e
          | some n =>
            obtain rfl := intK_eq q
            change (if m.natAbs < 1000 ∧ n.natAbs < 1000 then some (AV.rng m n, σ) else none) = some (r, σ') at e
            split at e
            · cases e
              obtain ⟨v, u, rfl, V1, U⟩ := V.two
              obtain ⟨t, rfl⟩ := VV.intcI V1
              obtain ⟨t', rfl⟩ := VV.intcI U
              exact call_range_2 (h _ _ (Mv.heap G.rel fun _ _ e => Heap.get?_push_of_some _ e) (.rng (IsRange.new ..) G.rel.unt_size))
            · first | exact no e | cases e
theorem typeA_ok {t : String} {args : List AV} {r : AV} (e : typeA t args σ = some (r, σ')) (G : Gd W h₀ k c A env ρ σ s) {vs : List Value} (V : VVs W s ρ σ args vs) {Q : Value → Shared → Prop}
    (h : ∀ v s', MV W h₀ ρ σ s ρ σ' s' → VV W s' ρ σ' r v → Q v s') : wpAny (model W.prog W.w) A (call (.type t) vs) Q E s := by
  unfold typeA at e
  split at e
  · rename_i ht
    subst ht
    exact rngA_ok e G V h
  · split at e
    · rename_i ht
      subst ht
      split at e
      · split at e
        · rename_i hz
          cases e
          obtain ⟨v, rfl, V1⟩ := V.one
          obtain ⟨l, vs, rfl, hl, hu, hv⟩ := VV.lstI V1
          refine call_tuple_list hl (fun h' hk => ?_) (by rw [List.size_toArray, ← hv.len]; exact Nat.le_trans hz (by decide))
          have m₁ : MV W h₀ ρ σ s ρ σ { s with heap := h' } := Mv.heap (tk := s.toks) G.rel hk
          have G₁ := G.mv m₁
          exact h _ _ (m₁.trans G.rel (mv_push G₁.rel _)) (mk_tup G₁.rel (hv.mv G.rel m₁))
        · first | exact no e | cases e
      · first | exact no e | cases e
    · first | exact no e | cases e
theorem builtA_ok {b : String} {args : List AV} {r : AV} (e : builtA b args σ = some (r, σ')) (G : Gd W h₀ k c A env ρ σ s) {vs : List Value} (V : VVs W s ρ σ args vs) {Q : Value → Shared → Prop}
    (h : ∀ v s', MV W h₀ ρ σ s ρ σ' s' → VV W s' ρ σ' r v → Q v s') : wpAny (model W.prog W.w) A (call (.builtin b) vs) Q E s := by
  unfold builtA at e
  split at e
  · rename_i ht
    subst ht
    split at e
    · split at e
      · rename_i hz
        cases e
        obtain ⟨v, rfl, V1⟩ := V.one
        obtain ⟨l, vs, rfl, hl, hu, hv⟩ := VV.lstI V1
        refine PyProof.Rows.len_list hl (by rw [List.size_toArray, ← hv.len]; omega) (h _ _ (Mv.toks G.rel) ?_)
        rw [List.size_toArray, ← hv.len]
        exact .int (.c _) _
      · first | exact no e | cases e
    · first | exact no e | cases e
  · first | exact no e | cases e

theorem callA_ok (HK : KOk W.K) (HP : PrimOk W) (HR : FnsOk W k R) {fv : AV} {fval : Value} {es : List Expr} {args : List AV} {r : AV} {σ₁ : St} {pos : Pos} (V : VV W s ρ σ fv fval) (e0 : evsF R c es σ = some (args, σ₁)) (e : callA R c fv args σ₁ = some (r, σ')) (G : Gd W h₀ k c A env ρ σ s) {Q : Value → Shared → Prop}
    (h : ∀ v s' ρ', MV W h₀ ρ σ s ρ' σ' s' → VV W s' ρ' σ' r v → Q v s') : wpAny (model W.prog W.w) A (callWith pos fval [] (backTo pos (starEach es env)) []) Q E s := by
  unfold callA at e
  split at e
  · rename_i a
    have := VV.valI V
    subst this
    split at e
    · rename_i hk
      refine callArgs_ok HR e0 G (keeps_K (HK.known a (by simpa using hk))) fun vs s₁ ρ₁ m₁ V₁ => ?_
      exact callR_ok HP HR e (G.mv m₁) V₁ fun v s₂ ρ₂ m₂ V₂ => h v s₂ ρ₂ (m₁.trans G.rel m₂) V₂
    · first | exact no e | cases e
  · have := VV.valI V
    subst this
    refine callArgs_ok HR e0 G (fun _ _ => ⟨.machine, .inr (.inl rfl), Looks.of_pure rfl⟩) fun vs s₁ ρ₁ m₁ V₁ => ?_
    exact typeA_ok e (G.mv m₁) V₁ fun v s₂ m₂ V₂ => h v s₂ ρ₁ (m₁.trans G.rel m₂) V₂
  · have := VV.valI V
    subst this
    refine callArgs_ok HR e0 G (fun _ _ => ⟨.machine, .inr (.inl rfl), Looks.of_pure rfl⟩) fun vs s₁ ρ₁ m₁ V₁ => ?_
    exact builtA_ok e (G.mv m₁) V₁ fun v s₂ m₂ V₂ => h v s₂ ρ₁ (m₁.trans G.rel m₂) V₂
  · first | exact no e | cases e

/-! methods -/
theorem base_plain {o : Expr} (h : isCallE o = false) (x : Str) : attributeBase o x env (eval o env) = eval o env := by
  cases o <;> first | rfl | cases h
theorem meth_form {o : Expr} {name : Str} {apos pos : Pos} {args : List Expr} (ho : isCallE o = false) (hline : (apos.endLine == pos.line) = true) (hlen : args.length < 30) (hplain : ((backTo pos (starEach args env)).all fun x => !x.1) = true) {Q : Value → Shared → Prop}
    (h : wpAny (model W.prog W.w) A (eval o env) (fun ov s₁ => ∀ pl, wpAny (model W.prog W.w) A (getMethod ov name pl) (fun fx s₂ => wpAny (model W.prog W.w) A (callWith pos fx.1 fx.2 (backTo pos (starEach args env)) []) Q E s₂) E s₁) E s) :
    wpAny (model W.prog W.w) A (eval (.Call (.Attribute o name apos) args [] pos) env) Q E s := by
  rw [arm_eval_Call, base_plain ho]
  refine wpAny_bind (wpAny_mono h (fun ov s₁ h₁ => ?_) fun _ _ e => e)
  refine wpAny_bind (wpAny_standAt ?_)
  have hform : methodCallForm (args.length + ([] : List Keyword).length) (backTo pos (starEach args env)) (backToKw pos (keywordEach [] env)) = true := by
    unfold methodCallForm
    rw [hplain]
    show (true && true && decide (args.length + 0 + 0 < 30)) = true
    simpa using hlen
  have hpos : methodCallPos true o env apos pos = pure pos := by unfold methodCallPos; simp [hline]
  unfold methodCall
  rw [hform]
  refine wpAny_bind (wpAny_holding (wpAny_mono (h₁ _) (fun fx s₂ h₂ => ?_) fun _ _ e => e))
  obtain ⟨f, first⟩ := fx
  exact wpAny_bind (wpAny_of_eq hpos h₂)

theorem ins_at {C : Addr} {fs : List (Str × AV)} {v : Value} (V : VV W s ρ σ (.ins C fs) v) : ∃ a ox es m, v = .ref a ∧ InstAt s.heap a ox C (some (dictOf es m)) ∧ (∀ x, fs.lookup x = none → getL x es = some none) ∧
    (∀ x y, fs.lookup x = some y → ∃ u, getL x es = some (some u) ∧ handedIn u = true ∧ VV W s ρ σ y u) := by
  cases V with
  | ins g ho hu hd hud hn hg hv => exact ⟨_, _, _, _, rfl, ⟨ho, rfl, rfl, hd⟩, hn, fun x y e => ⟨g x, (hg x y e).1, (hg x y e).2, hv x y e⟩⟩
end
end Mine
end

section
open PySem PySem.Spec PySem.Calls PyProof.Rows PySem.W
set_option Elab.async false
set_option maxHeartbeats 1000000
set_option maxRecDepth 100000
namespace Mine
section
variable {W : Wd} {h₀ : Heap} {k : Nat} {c : Ctx} {A : Around} {env : Env} {ρ ρ' : Nat → Addr} {σ σ' σ'' : St} {s s' : Shared} {E : Value → Shared → Prop} {I : Addr} {S : Src} {R : Fns}

theorem popAt_ok (G : Gd W h₀ k c A env ρ σ s) {i : Nat} {x : AV} {its : List AV} (g : σ.get i = some (.list (x :: its))) (hz : its.length ≤ 1000) {t : Tok} {Q : Value → Shared → Prop}
    (h : ∀ v s', MV W h₀ ρ σ s ρ (σ.put i (.list its)) s' → VV W s' ρ (σ.put i (.list its)) x v → Q v s') : wpAny (model W.prog W.w) A (call (.builtin "list.pop") [.ref (ρ i), .int 0 t]) Q E s := by
  obtain ⟨vs, n, hg, hv⟩ := lst_get G g
  cases vs with
  | nil => exact hv.elim
  | cons v vs =>
    have hsz : (v :: vs).toArray.size ≤ sizeLine := by
      rw [List.size_toArray, List.length_cons, ← VVs.len hv.2]
      exact Nat.le_trans (Nat.succ_le_succ hz) (by decide)
    have m : MV W h₀ ρ σ s ρ (σ.put i (.list its)) { s with heap := s.heap.update (ρ i) (Obj.mapSeq fun xs => xs.eraseIdxIfInBounds 0) } := by
      refine Mv.put (tk := s.toks) (co := { cls := .type "list", data := .seq vs.toArray (n + 1) }) G.rel g (G.rel.nw i _ g rfl) (fun b ob hb hgb => (Heap.get?_update_other _ _ (Ne.symm hb)).trans hgb) ?_ (.list hv.2.len hv.2.get)
      rw [Heap.get?_update_self _ hg (Obj.isFreed_of_seq (by rfl))]
      have e : (v :: vs).toArray.eraseIdxIfInBounds 0 = vs.toArray := by
        have := kl_erase [] vs v
        simpa using this
      simp only [Obj.mapSeq, e]
      simp
    refine call_meets PySem.F.slot_list_pop ⟨_, hg, rfl⟩ PySem.F.entry_list_pop (PySem.F.args_list_pop_2 _ _) (PySem.MeetsSeq.list_pop_at (ρ i) _ n 0 t 0 v (by decide) (by
      unfold seqIndex?
      simp) (by simp) hsz) ⟨hg, h _ _ m (m.vr G.rel hv.1)⟩

theorem methA_ok (HK : KOk W.K) (HP : PrimOk W) (HR : FnsOk W k R) {ov r : AV} {oval : Value} {x : Str} {es : List Expr} {args : List AV} {σ₁ : St} {pos : Pos} (V : VV W s ρ σ ov oval) (e0 : evsF R c es σ = some (args, σ₁)) (e : methA R c ov x args σ₁ = some (r, σ'))
    (hpre : preM ov σ σ₁ = true) (G : Gd W h₀ k c A env ρ σ s) {Q : Value → Shared → Prop}
    (h : ∀ v s' ρ', MV W h₀ ρ σ s ρ' σ' s' → VV W s' ρ' σ' r v → Q v s') (pl : Sem Bool) :
    wpAny (model W.prog W.w) A (getMethod oval x pl) (fun fx s₂ => wpAny (model W.prog W.w) A (callWith pos fx.1 fx.2 (backTo pos (starEach es env)) []) Q E s₂) E s := by
  have machine : ∀ id : String, ∀ hp : Heap, W.K.In hp → ∃ k, (k = Keeper.frame ∨ k = Keeper.machine ∨ k = Keeper.boundFrame) ∧ Looks (model W.prog W.w) hp (keeperOf (.builtin id)) k := fun id _ _ => ⟨.machine, .inr (.inl rfl), Looks.of_pure rfl⟩
  cases ov with
  | ins C fs =>
    simp only [methA] at e
    obtain ⟨a, ox, des, m, rfl, I, hno, hyes⟩ := ins_at V
    split at e
    · rename_i hl
      split at e
      · rename_i f hf
        obtain ⟨h1, h2, h3, h4⟩ := HK.meth C x f hf
        refine method_fn G.kinH I (plainGet_of h1).1 (plainGet_of h1).2 h2 (beq_iff_eq.mp h3) (by show (lookIn x (dictOf des m)).map _ = _; rw [lookIn_dict, hno x hl]; rfl) ?_
        refine callArgs_ok HR e0 G (keeps_K h4) fun vs s₁ ρ₁ m₁ V₁ => ?_
        exact callR_ok HP HR e (G.mv m₁) (vs := .ref a :: vs) ⟨m₁.vr G.rel V, V₁⟩ fun v s₂ ρ₂ m₂ V₂ => h v s₂ ρ₂ (m₁.trans G.rel m₂) V₂
      · first | exact no e | cases e
    · first | exact no e | cases e
  | ref i =>
    simp only [methA] at e
    obtain ⟨rfl, hi⟩ := V.refI
    simp only [preM] at hpre
    split at e
    · rename_i its g₁
      rw [g₁] at hpre
      split at e
      · rename_i f hf
        obtain ⟨h2, h3, h4, h5⟩ := HK.acc x f hf
        cases q : σ.get i with
        | none => rw [q] at hpre; first | exact no hpre | cases hpre
        | some o =>
          rw [q] at hpre
          cases o <;> try (cases hpre; done)
          obtain ⟨vs, n, dx, des, m, ho, hv, hd, hud, hno⟩ := acc_get G q
          refine meth_acc (od := dictOf des m) G.kinH ⟨ho, rfl, rfl, hd⟩ HK.accG.1 HK.accG.2 h2 (beq_iff_eq.mp h3) (by rw [lookIn_dict, hno x h5]) ?_
          refine callArgs_ok HR e0 G (keeps_K h4) fun vs s₁ ρ₁ m₁ V₁ => ?_
          exact callR_ok HP HR e (G.mv m₁) (vs := .ref (ρ i) :: vs) ⟨m₁.vr G.rel V, V₁⟩ fun v s₂ ρ₂ m₂ V₂ => h v s₂ ρ₂ (m₁.trans G.rel m₂) V₂
      · first | exact no e | cases e
    · rename_i its g₁
      rw [g₁] at hpre
      cases q : σ.get i with
      | none => rw [q] at hpre; first | exact no hpre | cases hpre
      | some o =>
        rw [q] at hpre
        cases o <;> try (cases hpre; done)
        obtain ⟨vs, n, ho, hv⟩ := lst_get G q
        have hT : s.TypeIs (.ref (ρ i)) "list" := ⟨_, ho, rfl⟩
        have hno : ∀ a, Value.ref (ρ i) = .ref a → ∃ o, s.heap.get? a = some o ∧ o.dict = none := fun a ea => by cases ea; exact ⟨_, ho, rfl⟩
        unfold listM at e
        split at e
        · rename_i hx
          subst hx
          split at e
          · split at e
            · rename_i hz
              cases e
              refine getMethod_builtin hT PySem.F.plainAttrs_list PySem.F.slot_list_append PySem.F.type_list_append hno ?_
              refine callArgs_ok HR e0 G (machine _) fun vs s₁ ρ₁ m₁ V₁ => ?_
              obtain ⟨v, rfl, V1⟩ := V₁.one
              rw [show ρ i = ρ₁ i from (m₁.ext i hi).symm]
              exact append_ok (G.mv m₁) g₁ hz V1 fun s₂ m₂ => h _ _ ρ₁ (m₁.trans G.rel m₂) .none
            · first | exact no e | cases e
          · first | exact no e | cases e
        · split at e
          · rename_i hx
            subst hx
            split at e
            · split at e
              · rename_i hz
                cases e
                refine getMethod_builtin hT PySem.F.plainAttrs_list PySem.F.slot_list_pop PySem.F.type_list_pop hno ?_
                refine callArgs_ok HR e0 G (machine _) fun vs s₁ ρ₁ m₁ V₁ => ?_
                obtain ⟨v, rfl, V1⟩ := V₁.one
                obtain ⟨t, rfl⟩ := VV.intcI V1
                obtain ⟨hz0, hz1⟩ := hz
                subst hz0
                rw [show ρ i = ρ₁ i from (m₁.ext i hi).symm]
                exact popAt_ok (G.mv m₁) g₁ hz1 fun v s₂ m₂ V₂ => h _ _ ρ₁ (m₁.trans G.rel m₂) V₂
              · first | exact no e | cases e
            · first | exact no e | cases e
          · first | exact no e | cases e
    · first | exact no e | cases e
  | dicI des =>
    simp only [methA] at e
    obtain ⟨d, kvs, ep, rfl, hd, hud, hsm, hv⟩ := V.dicII
    have hT : s.TypeIs (.ref d) "dict" := hd.dictOf.typeIs
    have hno : ∀ a, Value.ref d = .ref a → ∃ o, s.heap.get? a = some o ∧ o.dict = none := hd.dictOf.mapOf.noDict
    unfold dictM at e
    split at e
    · rename_i hx
      subst hx
      split at e
      · cases e
        refine getMethod_builtin hT PySem.F.plainAttrs_dict PySem.F.slot_dict_items PySem.F.type_dict_items hno ?_
        refine callArgs_ok HR e0 G (machine _) fun vs s₁ ρ₁ m₁ V₁ => ?_
        have := V₁.zero
        subst this
        obtain ⟨od, _, hod, _⟩ := id hd
        have hd₁ := dictAt_kept hd fun o e => m₁.kept _ o e hud
        have hud₁ := hud.mv G.rel m₁ hod
        have G₁ := G.mv m₁
        refine call_meetsIn PySem.F.slot_dict_items hd₁.dictOf.typeIs PySem.F.entry_dict_items (PySem.F.args_dict_items_1 _) (meets_dict_items (intKind W.prog W.w) d hsm) ⟨⟨kvs, hd₁.dictOf⟩, ?_⟩
        have m₂ := mv_push G₁.rel { cls := .type "dict_items", data := .fields #[.ref d] }
        have hv₂ := DVs.mv G₁.rel m₂ (DVs.mv G.rel m₁ hv)
        exact h _ _ ρ₁ (m₁.trans G.rel m₂) (.itI (kvs := kvs) (ep := ep) ⟨_, Heap.get?_push_size _ rfl, rfl, rfl⟩ G₁.rel.unt_size (hd₁.push _) hud₁ hsm hv₂.len (fun i x v e e' => (hv₂.get i x v e e').1) fun i x v e e' => (hv₂.get i x v e e').2)
      · first | exact no e | cases e
    · split at e
      · rename_i hx
        subst hx
        split at e
        · cases e
          refine getMethod_builtin hT PySem.F.plainAttrs_dict PySem.F.slot_dict_values PySem.F.type_dict_values hno ?_
          refine callArgs_ok HR e0 G (machine _) fun vs s₁ ρ₁ m₁ V₁ => ?_
          have := V₁.zero
          subst this
          obtain ⟨od, _, hod, _⟩ := id hd
          have hd₁ := dictAt_kept hd fun o e => m₁.kept _ o e hud
          have hud₁ := hud.mv G.rel m₁ hod
          have G₁ := G.mv m₁
          refine call_meetsIn PySem.F.slot_dict_values hd₁.dictOf.typeIs PySem.F.entry_dict_values (PySem.F.args_dict_values_1 _) (meets_dict_values (intKind W.prog W.w) d hsm) ⟨⟨kvs, hd₁.dictOf⟩, ?_⟩
          have m₂ := mv_push G₁.rel { cls := .type "dict_values", data := .fields #[.ref d] }
          have hv₂ := DVs.mv G₁.rel m₂ (DVs.mv G.rel m₁ hv)
          exact h _ _ ρ₁ (m₁.trans G.rel m₂) (.vaI (kvs := kvs) (ep := ep) ⟨_, Heap.get?_push_size _ rfl, rfl, rfl⟩ G₁.rel.unt_size (hd₁.push _) hud₁ hsm hv₂.len (fun i x v e e' => (hv₂.get i x v e e').1) fun i x v e e' => (hv₂.get i x v e e').2)
        · first | exact no e | cases e
      · first | exact no e | cases e
  | str l =>
    simp only [methA] at e
    obtain ⟨t, rfl⟩ := V.strI
    unfold strM at e
    split at e
    · rename_i hx
      subst hx
      split at e
      · rename_i sub
        cases q : idxOf _ sub with
        | none => rw [q] at e; first | exact no e | cases e
        | some j =>
          rw [q] at e
          cases e
          refine getMethod_builtin (T := "str") rfl PySem.F.plainAttrs_str PySem.F.slot_str_index PySem.F.type_str_index (fun a ea => nomatch ea) ?_
          refine callArgs_ok HR e0 G (machine _) fun vs s₁ ρ₁ m₁ V₁ => ?_
          obtain ⟨v, rfl, V1⟩ := V₁.one
          obtain ⟨t', rfl⟩ := V1.strI
          have G₁ := G.mv m₁
          unfold idxOf at q
          split at q
          · rename_i j' rest ho
            cases q
            exact PySem.SC.index (i := j) (rest := rest) ho (h _ _ ρ₁ (m₁.trans G.rel (Mv.toks G₁.rel)) (.int (.c j) _))
          · first | exact no q | cases q
      · first | exact no e | cases e
    · first | exact no e | cases e
  | _ => first | exact no e | cases e

theorem attr_ok (HK : KOk W.K) {C : Addr} {fs : List (Str × AV)} {ov : Value} {x : Str} {y : AV} (V : VV W s ρ σ (.ins C fs) ov) (ha : attrT C x = true) (hy : fs.lookup x = some y) (G : Gd W h₀ k c A env ρ σ s) {Q : Value → Shared → Prop}
    (h : ∀ v s', MV W h₀ ρ σ s ρ σ s' → VV W s' ρ σ y v → Q v s') {b : Bool} : wpAny (model W.prog W.w) A (getAttr ov x b) Q E s := by
  obtain ⟨a, ox, des, m, rfl, I, hno, hyes⟩ := ins_at V
  obtain ⟨h1, h2, att, h3, h4⟩ := HK.attr C x ha
  obtain ⟨u, hu, hh, U⟩ := hyes x y hy
  exact get_value G.kinH I (plainGet_of h1).1 (findObj_own h2 h3 h4 hu) hh (h _ _ (Mv.toks G.rel) (Mv.vr G.rel (Mv.toks G.rel) U))
end
end Mine
end

section
open PySem PySem.Spec PySem.Calls PyProof.Rows PySem.W
set_option Elab.async false
set_option maxRecDepth 100000
namespace Mine
section
variable {W : Wd} {h₀ : Heap} {k : Nat} {c : Ctx} {A : Around} {env : Env} {ρ ρ' : Nat → Addr} {σ σ' σ'' : St} {s s' : Shared} {E : Value → Shared → Prop} {I : Addr} {S : Src} {R : Fns}

/-- what the table says of a function -/
structure FiOk (W : Wd) (f : Addr) (fi : FI) : Prop where
  obj : ∃ o, W.K.lookup f = some o ∧ o.data = .func fi.fd
  body : fi.fd.body = .stmts fi.body
  code : ∀ h, W.K.In h → h.CodeRec fi.fd.code fi.fd.qualname
  bind : ∀ vs : List Value, vs.length = fi.names.length → bindArgs fi.fd ⟨vs, []⟩ = pure (fi.names.zip vs)
  loc : ∀ n ∈ fi.names, fi.fd.scope.names.lookup n = some .local
  nodup : fi.names.Nodup
  kind : fi.fd.scope.kind = .function
  nocell : ∀ x ∈ fi.fd.scope.names, x.2 ≠ .cell
  co : fi.fd.scope.isCoroutine = false
  gen : fi.fd.scope.isGenerator = false
  gl : fi.fd.globals = mainGlobals
  bl : fi.fd.builtins = builtinsNs
noncomputable def FtOk (W : Wd) (ft : Addr → Option FI) : Prop := ∀ f fi, ft f = some fi → FiOk W f fi

theorem look_mem {α : Type} : ∀ {l : List (Str × α)} {x : Str} {v : α}, (l.map (·.1)).Nodup → (x, v) ∈ l → l.lookup x = some v
  | [], _, _, _, h => by cases h
  | (a, b) :: l, x, v, hn, h => by
    rw [List.map_cons, List.nodup_cons] at hn
    rw [List.lookup_cons]
    rcases List.mem_cons.mp h with e | h₁
    · cases e
      rw [beq_self_eq_true]
    · have : (x == a) = false := by
        rw [beq_eq_false_iff_ne]
        intro e
        subst e
        exact hn.1 (List.mem_map.mpr ⟨_, h₁, rfl⟩)
      rw [this]
      exact look_mem hn.2 h₁
theorem zip_look : ∀ {names : List Str} {args : List AV} {vs : List Value}, VVs W s ρ σ args vs → ∀ {x : Str} {y : AV}, (names.zip args).lookup x = some y → ∃ v, (x, v) ∈ names.zip vs ∧ VV W s ρ σ y v
  | [], _, _, _, _, _, e => by cases e
  | _ :: _, [], _, _, _, _, e => by cases e
  | n :: ns, a :: as, [], h, _, _, _ => h.elim
  | n :: ns, a :: as, v :: vs, ⟨V, r⟩, x, y, e => by
    rw [List.zip_cons_cons, List.lookup_cons] at e
    cases hb : x == n with
    | true =>
      rw [hb] at e
      cases e
      exact ⟨v, by rw [beq_iff_eq.mp hb, List.zip_cons_cons]; exact List.mem_cons_self, V⟩
    | false =>
      rw [hb] at e
      obtain ⟨u, hu, U⟩ := zip_look r e
      exact ⟨u, by rw [List.zip_cons_cons]; exact List.mem_cons_of_mem _ hu, U⟩

theorem callU_ok {ft : Addr → Option FI} (HF : FtOk W ft) (HR : FnsOk W k R) : CallOk W (k + 1) (callU ft R) := by
  intro h₀ c f args σ r σ' e A env ρ s G vs V Q E h
  unfold callU at e
  split at e
  · first | exact no e | cases e
  · rename_i fi hfi
    have F := HF f fi hfi
    split at e
    · rename_i hlen
      obtain ⟨o, hKo, hdata⟩ := F.obj
      refine wpAny_call (codeAny_call_function (o := o) (body := fi.body) (by have := G.depth; omega) (G.kinH _ _ hKo) hdata F.co F.gen F.body (F.code _ G.kinH) ?_)
      rw [F.bind vs (by rw [← V.len]; exact hlen)]
      refine wpAny_pure ?_
      have hz : ∀ p ∈ fi.names.zip vs, p.1 ∈ fi.names := fun p hp => (List.of_mem_zip hp).1
      refine wpAny_newFunctionEnv F.nocell (fun p hp => F.loc p.1 (hz p hp)) (fun h' hns hsb => ?_) F.kind
      have fresh : s.heap.get? s.heap.objs.size = none := by
        cases q : s.heap.get? s.heap.objs.size with
        | none => rfl
        | some o => exact absurd (Heap.lt_size q) (Nat.lt_irrefl _)
      have hk : ∀ b o, s.heap.get? b = some o → h'.get? b = some o := fun b o e =>
        (hsb.2 b (Nat.ne_of_lt (Heap.lt_size e))).trans (Heap.get?_push_of_some _ e)
      obtain ⟨oL, des, ep, hoL, hdL, hsk, hfind⟩ := hns
      have keys : ((fi.names.zip vs).reverse.map (·.1)).Nodup := by
        have : (fi.names.zip vs).map (·.1) = fi.names := by
          apply List.map_fst_zip
          rw [← V.len, hlen]
          exact Nat.le_refl _
        rw [List.map_reverse, this]
        exact List.pairwise_reverse.mpr (F.nodup.imp Ne.symm)
      have m₁ : MV W h₀ ρ σ s _ _ _ := Mv.new (tk := s.toks + (fi.names.zip vs).length) (o' := .ns (fi.names.zip args)) G.rel fresh hk hoL (.ns hdL hsk fun x y e => by
        obtain ⟨v, hv, V'⟩ := zip_look V e
        refine ⟨v, ?_, V'⟩
        rw [hfind]
        exact look_mem keys (List.mem_reverse.mpr hv))
      refine ⟨G.top.nolimit.keeps fun b o e => hk b o (G.rel.base b o e), codeAny_func ?_⟩
      have h₀n : h₀.get? s.heap.objs.size = none := by
        cases q : h₀.get? s.heap.objs.size with
        | none => rfl
        | some o => rw [G.rel.base _ _ q] at fresh; first | exact no fresh | cases fresh
      have G₁ : Gd W h₀ k ⟨fi.fd.scope, σ.n, σ.n, []⟩ (A.deeper (newEnv fi.fd.scope s.heap.objs.size fi.fd.globals fi.fd.closure (fi.fd.qualname ++ ".<locals>.") (some f) fi.fd.code none fi.fd.builtins))
          (newEnv fi.fd.scope s.heap.objs.size fi.fd.globals fi.fd.closure (fi.fd.qualname ++ ".<locals>.") (some f) fi.fd.code none fi.fd.builtins) _ _ { s with heap := h', toks := s.toks + (fi.names.zip vs).length } :=
        { rel := m₁.rel, kin := G.kin, top := G.top, sc := rfl, kd := F.kind, gl := F.gl, bl := F.bl, loc := (if_pos rfl).symm, locn := by show h₀.get? (if σ.n = σ.n then s.heap.objs.size else ρ σ.n) = none; rw [if_pos rfl]; exact h₀n, lidlt := Nat.lt_succ_self _,
          cells := fun x i e => (nomatch e), big := G.big, hand := G.hand, depth := by show A.depth + 1 + k + 10 < recursionLimit; have := G.depth; omega, units := by show A.units + 3 + 8 * k + 100 < cLine; have := G.units; omega }
      split at e
      · first | exact no e | cases e
      · rename_i rv σ₁ e1
        cases e
        refine HR.ex h₀ _ fi.body _ _ σ₁ e1 _ _ _ _ G₁ _ _ fun fl s₂ ρ₂ m₂ hf => ?_
        cases hf with
        | ret hv =>
          have m₃ := (m₁.trans G.rel m₂).trans G.rel (Mv.del m₂.rel σ.n)
          exact h _ _ ρ₂ m₃ (Mv.vr m₂.rel (Mv.del m₂.rel σ.n) hv)
      · rename_i σ₁ e1
        cases e
        refine HR.ex h₀ _ fi.body _ _ σ₁ e1 _ _ _ _ G₁ _ _ fun fl s₂ ρ₂ m₂ hf => ?_
        cases hf with
        | next => exact h _ _ ρ₂ ((m₁.trans G.rel m₂).trans G.rel (Mv.del m₂.rel σ.n)) .none
    · first | exact no e | cases e

/-! expressions -/
structure AllOk (W : Wd) (gv : Str → Option Value) (ft : Addr → Option FI) : Prop where
  th : ThOk W
  gv : GvOk W gv
  ft : FtOk W ft
  k : KOk W.K
  prim : PrimOk W
  get : AccGet W
  it : AccIt W

theorem marks {op : CmpOp} {r : Expr} (h : isSetE r = false) : behindInMarks op r = false := by
  cases r <;> first | (with_unfolding_all rfl) | cases h | (cases op <;> with_unfolding_all rfl)

theorem cmpE_ok {gv : Str → Option Value} {ft : Addr → Option FI} (H : AllOk W gv ft) (HR : FnsOk W k R) {l r : Expr} {op : CmpOp} {b : Bool} (eq : cmpE R c l op r σ = some (b, σ')) (G : Gd W h₀ k c A env ρ σ s) {Q : Value → Shared → Prop}
    (h : ∀ s' ρ', MV W h₀ ρ σ s ρ' σ' s' → Q (.bool b) s') : isSetE r = false ∧ wpAny (model W.prog W.w) A (eval l env) (fun v s₁ => wpAny (model W.prog W.w) A (eval r env) (fun u s₂ => wpAny (model W.prog W.w) A (compareOp op v u) Q E s₂) E s₁) E s := by
  obtain ⟨hset, eq⟩ := okb eq
  obtain ⟨a, σ₁, e1, eq⟩ := bndP eq
  obtain ⟨y, σ₂, e2, eq⟩ := bndP eq
  obtain ⟨x, q, eq⟩ := mapE eq
  cases eq
  refine ⟨notT hset, HR.ev h₀ c _ σ a σ₁ e1 A env ρ s G _ _ fun v s₁ ρ₁ m₁ V₁ => ?_⟩
  have G₁ := G.mv m₁
  refine HR.ev h₀ c _ σ₁ y _ e2 A env ρ₁ s₁ G₁ _ _ fun u s₂ ρ₂ m₂ V₂ => ?_
  exact cmpA_ok H.th q (G₁.mv m₂) (m₂.vr G₁.rel V₁) V₂ (h _ ρ₂ (m₁.trans G.rel m₂))
theorem cmpF_eq {l : Expr} {ops : List CmpOp} {rs : List Expr} {b : Bool} (eq : cmpF R c l ops rs σ = some (b, σ')) : ∃ op r, ops = [op] ∧ rs = [r] ∧ cmpE R c l op r σ = some (b, σ') := by
  obtain ⟨op, h1, eq⟩ := bndE eq
  obtain ⟨r, h2, eq⟩ := bndE eq
  exact ⟨op, r, one_eq h1, one_eq h2, eq⟩
theorem conF_ok  {v : Const} {kk : Nat} {p : Pos} {r : AV} (eq : conF v σ = some (r, σ')) (G : Gd W h₀ k c A env ρ σ s) {Q : Value → Shared → Prop}
    (h : ∀ v s' ρ', MV W h₀ ρ σ s ρ' σ' s' → VV W s' ρ' σ' r v → Q v s') : wpAny (model W.prog W.w) A (eval (.Constant v kk p) env) Q E s := by
  cases v with
  | int i => cases eq; exact wpAny_Constant_int (h _ _ ρ (Mv.toks G.rel) (.int (.c _) _))
  | str x => cases eq; exact wpAny_Constant_str (h _ _ ρ (Mv.toks G.rel) (.str _ _))
  | none => cases eq; exact wpAny_Constant_none (h _ _ ρ (.refl G.rel) .none)
  | bool b => cases eq; exact wpAny_Constant_bool (h _ _ ρ (.refl G.rel) (.bool _))
  | _ => exact no eq
theorem namF_ok {gv : Str → Option Value} {ft : Addr → Option FI} (H : AllOk W gv ft) (HR : FnsOk W k R) {x : Str} {p : Pos} {r : AV} (eq : (loadA gv c x σ).map (·, σ) = some (r, σ')) (G : Gd W h₀ k c A env ρ σ s) {Q : Value → Shared → Prop}
    (h : ∀ v s' ρ', MV W h₀ ρ σ s ρ' σ' s' → VV W s' ρ' σ' r v → Q v s') : wpAny (model W.prog W.w) A (eval (.Name x p) env) Q E s := by
  obtain ⟨y, q, eq⟩ := mapE eq
  cases eq
  exact wpAny_Name (loadA_ok H.gv q G fun v V => h v s ρ (.refl G.rel) V) (loadA_nd q)
theorem binF_ok {gv : Str → Option Value} {ft : Addr → Option FI} (H : AllOk W gv ft) (HR : FnsOk W k R) {l x : Expr} {op : Operator} {p : Pos} {r : AV} (eq : binF R c l op x σ = some (r, σ')) (G : Gd W h₀ k c A env ρ σ s) {Q : Value → Shared → Prop}
    (h : ∀ v s' ρ', MV W h₀ ρ σ s ρ' σ' s' → VV W s' ρ' σ' r v → Q v s') : wpAny (model W.prog W.w) A (eval (.BinOp l op x p) env) Q E s := by
  obtain ⟨a, σ₁, e1, eq⟩ := bndP eq
  obtain ⟨b, σ₂, e2, eq⟩ := bndP eq
  obtain ⟨y, q, eq⟩ := mapE eq
  cases eq
  refine wpAny_BinOp (HR.ev h₀ c _ σ a σ₁ e1 A env ρ s G _ _ fun v s₁ ρ₁ m₁ V₁ => ?_)
  have G₁ := G.mv m₁
  refine HR.ev h₀ c _ σ₁ b _ e2 A env ρ₁ s₁ G₁ _ _ fun u s₂ ρ₂ m₂ V₂ => ?_
  exact binA_ok H.th q (G₁.mv m₂) (m₂.vr G₁.rel V₁) V₂ fun x s₃ m₃ V₃ => h x s₃ ρ₂ ((m₁.trans G.rel m₂).trans G.rel m₃) V₃
theorem negF_ok (HR : FnsOk W k R) {x : Expr} {op : UnaryOp} {p : Pos} {r : AV} (eq : negF R c op x σ = some (r, σ')) (G : Gd W h₀ k c A env ρ σ s) {Q : Value → Shared → Prop}
    (h : ∀ v s' ρ', MV W h₀ ρ σ s ρ' σ' s' → VV W s' ρ' σ' r v → Q v s') : wpAny (model W.prog W.w) A (eval (.UnaryOp op x p) env) Q E s := by
  obtain ⟨h1, eq⟩ := okb eq
  obtain ⟨v, σ₁, e1, eq⟩ := bndP eq
  obtain ⟨a, e2, eq⟩ := mapE eq
  cases eq
  obtain rfl := intE_eq e2
  cases op with
  | USub =>
    refine wpAny_UnaryOp (HR.ev h₀ c _ σ _ _ e1 A env ρ s G _ _ fun v s₁ ρ₁ m₁ V₁ => ?_)
    exact neg_ok (G.mv m₁) V₁ fun x s₂ m₂ V₂ => h x s₂ ρ₁ (m₁.trans G.rel m₂) V₂
  | _ => exact noB h1
theorem iteF_ok (HR : FnsOk W k R) {t b o : Expr} {p : Pos} {r : AV} (eq : iteF R c t b o σ = some (r, σ')) (G : Gd W h₀ k c A env ρ σ s) {Q : Value → Shared → Prop}
    (h : ∀ v s' ρ', MV W h₀ ρ σ s ρ' σ' s' → VV W s' ρ' σ' r v → Q v s') : wpAny (model W.prog W.w) A (eval (.IfExp t b o p) env) Q E s := by
  obtain ⟨y, σ₁, e1, eq⟩ := bndP eq
  refine wpAny_IfExp (HR.ts h₀ c _ σ y σ₁ e1 A env ρ s G _ _ fun s₁ ρ₁ m₁ => ?_)
  cases y with
  | true =>
    rw [if_pos rfl]
    exact HR.ev h₀ c _ σ₁ r σ' eq A env ρ₁ s₁ (G.mv m₁) _ _ fun v s₂ ρ₂ m₂ V₂ => h v s₂ ρ₂ (m₁.trans G.rel m₂) V₂
  | false =>
    rw [if_neg Bool.false_ne_true]
    exact HR.ev h₀ c _ σ₁ r σ' eq A env ρ₁ s₁ (G.mv m₁) _ _ fun v s₂ ρ₂ m₂ V₂ => h v s₂ ρ₂ (m₁.trans G.rel m₂) V₂
theorem tupF_ok (HR : FnsOk W k R) {es : List Expr} {kk : Nat} {p : Pos} {r : AV} (eq : tupF R c es σ = some (r, σ')) (G : Gd W h₀ k c A env ρ σ s) {Q : Value → Shared → Prop}
    (h : ∀ v s' ρ', MV W h₀ ρ σ s ρ' σ' s' → VV W s' ρ' σ' r v → Q v s') : wpAny (model W.prog W.w) A (eval (.Tuple es kk p) env) Q E s := by
  obtain ⟨xs, σ₁, e1, eq⟩ := bndP eq
  obtain ⟨hz, eq⟩ := ok_eq eq
  cases eq
  refine wpAny_Tuple_spliced (evsF_ok HR _ e1 G fun vs s₁ ρ₁ m₁ V₁ => ⟨?_, ?_⟩)
  · rw [← V₁.len]; exact Nat.le_trans (of_decide_eq_true hz) (by decide)
  · have G₁ := G.mv m₁
    exact h _ _ ρ₁ (m₁.trans G.rel (mv_push G₁.rel _)) (mk_tup G₁.rel V₁)
theorem lstF_ok (HR : FnsOk W k R) {es : List Expr} {p : Pos} {r : AV} (eq : lstF R c es σ = some (r, σ')) (G : Gd W h₀ k c A env ρ σ s) {Q : Value → Shared → Prop}
    (h : ∀ v s' ρ', MV W h₀ ρ σ s ρ' σ' s' → VV W s' ρ' σ' r v → Q v s') : wpAny (model W.prog W.w) A (eval (.List es p) env) Q E s := by
  obtain ⟨xs, σ₁, e1, eq⟩ := bndP eq
  obtain ⟨hz, eq⟩ := ok_eq eq
  cases eq
  refine wpAny_List_spliced (evsF_ok HR _ e1 G fun vs s₁ ρ₁ m₁ V₁ => ⟨?_, ?_⟩)
  · rw [← V₁.len]; exact Nat.le_trans (of_decide_eq_true hz) (by decide)
  · have G₁ := G.mv m₁
    exact h _ _ ρ₁ (m₁.trans G.rel (mv_push G₁.rel _)) (mk_lst G₁.rel V₁)
theorem subE_ok {gv : Str → Option Value} {ft : Addr → Option FI} (H : AllOk W gv ft) (HR : FnsOk W k R) {o i : Expr} {p : Pos} {r : AV} (eq : subE R c o i σ = some (r, σ')) (G : Gd W h₀ k c A env ρ σ s) {Q : Value → Shared → Prop}
    (h : ∀ v s' ρ', MV W h₀ ρ σ s ρ' σ' s' → VV W s' ρ' σ' r v → Q v s') : wpAny (model W.prog W.w) A (eval (.Subscript o i p) env) Q E s := by
  obtain ⟨hsl, eq⟩ := okb eq
  obtain ⟨a, σ₁, e1, eq⟩ := bndP eq
  obtain ⟨b, σ₂, e2, eq⟩ := bndP eq
  obtain ⟨y, q, eq⟩ := mapE eq
  cases eq
  refine Subscript_ (HR.ev h₀ c _ σ a σ₁ e1 A env ρ s G _ _ fun v s₁ ρ₁ m₁ V₁ => ?_)
  have G₁ := G.mv m₁
  refine HR.ev h₀ c _ σ₁ b _ e2 A env ρ₁ s₁ G₁ _ _ fun u s₂ ρ₂ m₂ V₂ => ?_
  exact subA_ok H.get q (G₁.mv m₂) (m₂.vr G₁.rel V₁) V₂ hsl fun x s₃ m₃ V₃ => h x s₃ ρ₂ ((m₁.trans G.rel m₂).trans G.rel m₃) V₃
theorem slcV_eq {i : Expr} {q : Option Expr × Option Expr} (h : slcV i = some q) : ∃ p, i = .Slice q.1 q.2 none p := by
  have hv := view_ok i
  unfold slcV at h
  generalize view i = v at h hv
  cases v with
  | slice lo hi st =>
    cases st with
    | none => cases h; exact hv
    | some _ => exact no h
  | _ => exact no h
theorem subF_ok {gv : Str → Option Value} {ft : Addr → Option FI} (H : AllOk W gv ft) (HR : FnsOk W k R) {o i : Expr} {p : Pos} {r : AV} (eq : subF R c o i σ = some (r, σ')) (G : Gd W h₀ k c A env ρ σ s) {Q : Value → Shared → Prop}
    (h : ∀ v s' ρ', MV W h₀ ρ σ s ρ' σ' s' → VV W s' ρ' σ' r v → Q v s') : wpAny (model W.prog W.w) A (eval (.Subscript o i p) env) Q E s := by
  unfold subF at eq
  cases q : slcV i with
  | none => rw [q] at eq; exact subE_ok H HR eq G h
  | some y =>
    rw [q] at eq
    obtain ⟨p', rfl⟩ := slcV_eq q
    exact sliceF_ok HR eq G h
theorem attF_ok {gv : Str → Option Value} {ft : Addr → Option FI} (H : AllOk W gv ft) (HR : FnsOk W k R) {o : Expr} {x : Str} {p : Pos} {r : AV} (eq : attF R c o x σ = some (r, σ')) (G : Gd W h₀ k c A env ρ σ s) {Q : Value → Shared → Prop}
    (h : ∀ v s' ρ', MV W h₀ ρ σ s ρ' σ' s' → VV W s' ρ' σ' r v → Q v s') : wpAny (model W.prog W.w) A (eval (.Attribute o x p) env) Q E s := by
  obtain ⟨hc, eq⟩ := okb eq
  obtain ⟨v, σ₁, e1, eq⟩ := bndP eq
  obtain ⟨C, fs, e2, eq⟩ := bndP eq
  obtain ⟨ha, eq⟩ := okb eq
  obtain ⟨y, q, eq⟩ := mapE eq
  cases eq
  obtain rfl := insV_eq e2
  rw [arm_eval_Attribute, base_plain (notT hc)]
  refine wpAny_bind (HR.ev h₀ c o σ _ _ e1 A env ρ s G _ _ fun v s₁ ρ₁ m₁ V₁ => ?_)
  refine wpAny_bind (wpAny_standAt (wpAny_bind (wpAny_holding (attr_ok H.k V₁ ha q (G.mv m₁) fun u s₂ m₂ U => ?_))))
  exact wpAny_bind (wpAny_letTemporaryGo (wpAny_pure (h u s₂ ρ₁ (m₁.trans G.rel m₂) U)))
theorem metF_ok {gv : Str → Option Value} {ft : Addr → Option FI} (H : AllOk W gv ft) (HR : FnsOk W k R) {o : Expr} {x : Str} {apos pos : Pos} {args : List Expr} {r : AV} (eq : metF R c o x apos args pos σ = some (r, σ')) (G : Gd W h₀ k c A env ρ σ s) {Q : Value → Shared → Prop}
    (h : ∀ v s' ρ', MV W h₀ ρ σ s ρ' σ' s' → VV W s' ρ' σ' r v → Q v s') : wpAny (model W.prog W.w) A (eval (.Call (.Attribute o x apos) args [] pos) env) Q E s := by
  obtain ⟨hc, eq⟩ := okb eq
  obtain ⟨ov, σ₁, e1, eq⟩ := bndP eq
  obtain ⟨vs, σ₂, e2, eq⟩ := bndP eq
  obtain ⟨hpre, eq⟩ := okb eq
  rw [Bool.and_eq_true, Bool.and_eq_true] at hc
  refine meth_form (notT hc.2) hc.1.1 (of_decide_eq_true hc.1.2) (evsF_plain e2 pos).2 (HR.ev h₀ c _ σ ov σ₁ e1 A env ρ s G _ _ fun v s₁ ρ₁ m₁ V₁ pl => ?_)
  exact methA_ok H.k H.prim HR V₁ e2 eq hpre (G.mv m₁) (fun v s₂ ρ₂ m₂ V₂ => h v s₂ ρ₂ (m₁.trans G.rel m₂) V₂) pl
theorem canF_ok {gv : Str → Option Value} {ft : Addr → Option FI} (H : AllOk W gv ft) (HR : FnsOk W k R) {f : Str} {fp pos : Pos} {args : List Expr} {r : AV} (eq : canF gv R c f args σ = some (r, σ')) (G : Gd W h₀ k c A env ρ σ s) {Q : Value → Shared → Prop}
    (h : ∀ v s' ρ', MV W h₀ ρ σ s ρ' σ' s' → VV W s' ρ' σ' r v → Q v s') : wpAny (model W.prog W.w) A (eval (.Call (.Name f fp) args [] pos) env) Q E s := by
  obtain ⟨fv, e0, eq⟩ := bndE eq
  obtain ⟨vs, σ₁, e1, eq⟩ := bndP eq
  refine wpAny_Call_NameR (wpAny_Name (loadA_ok H.gv e0 G fun v V => ?_) (loadA_nd e0))
  exact callA_ok H.k H.prim HR V e1 eq G h
theorem calF_ok {gv : Str → Option Value} {ft : Addr → Option FI} (H : AllOk W gv ft) (HR : FnsOk W k R) {f : Expr} {pos : Pos} {args : List Expr} {r : AV} (eq : calF gv R c f args pos σ = some (r, σ')) (G : Gd W h₀ k c A env ρ σ s) {Q : Value → Shared → Prop}
    (h : ∀ v s' ρ', MV W h₀ ρ σ s ρ' σ' s' → VV W s' ρ' σ' r v → Q v s') : wpAny (model W.prog W.w) A (eval (.Call f args [] pos) env) Q E s := by
  have hv := view_ok f
  unfold calF at eq
  generalize view f = v at eq hv
  cases v with
  | attr o x apos => obtain rfl := (show f = _ from hv); exact metF_ok H HR eq G h
  | name x => obtain ⟨p, rfl⟩ := hv; exact canF_ok H HR eq G h
  | _ => exact no eq
theorem gen_eq {gs : List Comprehension} {α : Type} {f : Comprehension → Option α} {y : α} (eq : ((one gs).bind fun g => (ok (decide (g.is_async = 0)) ()).bind fun _ => f g) = some y) : ∃ t i l, gs = [⟨t, i, l, 0⟩] ∧ f ⟨t, i, l, 0⟩ = some y := by
  obtain ⟨g, h1, eq⟩ := bndE eq
  obtain ⟨h0, eq⟩ := okb eq
  obtain ⟨t, i, l, a⟩ := g
  obtain rfl : a = 0 := of_decide_eq_true h0
  exact ⟨t, i, l, one_eq h1, eq⟩
theorem evF_ok {gv : Str → Option Value} {ft : Addr → Option FI} (H : AllOk W gv ft) (HR : FnsOk W k R) : EvOk W (k + 1) (evF gv R) := by
  intro h₀ c e σ r σ' eq A env ρ s G₀ Q E h
  have G := G₀.less
  have hv := view_ok e
  unfold evF at eq
  generalize view e = v at eq hv
  cases v with
  | con v => obtain ⟨kk, p, rfl⟩ := hv; exact conF_ok eq G h
  | name x => obtain ⟨p, rfl⟩ := hv; exact namF_ok H HR eq G h
  | bin l op r => obtain ⟨p, rfl⟩ := hv; exact binF_ok H HR eq G h
  | un op x => obtain ⟨p, rfl⟩ := hv; exact negF_ok HR eq G h
  | cmp l ops rs =>
    obtain ⟨p, rfl⟩ := hv
    obtain ⟨b, σ₁, q, eq'⟩ := bndP eq
    cases eq'
    clear eq
    obtain ⟨op, x, rfl, rfl, q'⟩ := cmpF_eq q
    have t := cmpE_ok (E := E) (env := env) H HR q' G fun s' ρ' m => h _ _ ρ' m (.bool _)
    exact wpAny_Compare1 t.2 (marks t.1)
  | ite t b o => obtain ⟨p, rfl⟩ := hv; exact iteF_ok HR eq G h
  | tup es => obtain ⟨kk, p, rfl⟩ := hv; exact tupF_ok HR eq G h
  | lst es => obtain ⟨p, rfl⟩ := hv; exact lstF_ok HR eq G h
  | dict ks vs => obtain ⟨p, rfl⟩ := hv; exact dispF_ok HR eq G h
  | sub o i => obtain ⟨p, rfl⟩ := hv; exact subF_ok H HR eq G h
  | attr o x p => obtain rfl := (show e = _ from hv); exact attF_ok H HR eq G h
  | call f as ks p =>
    obtain rfl := (show e = _ from hv)
    obtain ⟨h1, eq'⟩ := okb eq
    clear eq
    obtain rfl := isEmpty_eq h1
    exact calF_ok H HR eq' G h
  | lcomp elt gs sc =>
    obtain ⟨p, rfl⟩ := hv
    obtain ⟨t, i, l, rfl, eq⟩ := gen_eq (f := fun g => lcE R c elt g.target g.iter g.ifs sc σ) eq
    exact listComp_ok H.it HR eq G h
  | dcomp ke ve gs sc =>
    obtain ⟨p, rfl⟩ := hv
    obtain ⟨t, i, l, rfl, eq⟩ := gen_eq (f := fun g => dcE R c ke ve g.target g.iter g.ifs sc σ) eq
    exact dictComp_ok H.it HR eq G h
  | _ => exact no eq
end
end Mine
end

section
open PySem PySem.Spec PySem.Calls PyProof.Rows PySem.W
set_option Elab.async false
set_option maxRecDepth 100000
namespace Mine
section
variable {W : Wd} {h₀ : Heap} {k : Nat} {c : Ctx} {A : Around} {env : Env} {ρ ρ' : Nat → Addr} {σ σ' σ'' : St} {s s' : Shared} {E : Value → Shared → Prop} {I : Addr} {S : Src} {R : Fns}

theorem isTrue_plain {e : Expr} (h : plainTest e = true) (whole : Sem Value) : isTrue e env whole = (do let v ← whole; standAt e.pos; holding [v] (truthy v)) := by
  cases e <;> first | rfl | cases h

theorem plainE_ok {gv : Str → Option Value} {ft : Addr → Option FI} (H : AllOk W gv ft) (HR : FnsOk W k R) {e : Expr} {r : Bool} (eq : plainE R c e σ = some (r, σ')) (G : Gd W h₀ k c A env ρ σ s) {Q : Bool → Shared → Prop}
    (h : ∀ s' ρ', MV W h₀ ρ σ s ρ' σ' s' → Q r s') : wpAny (model W.prog W.w) A (isTrue e env (eval e env)) Q E s := by
  obtain ⟨hp, eq⟩ := okb eq
  obtain ⟨v, σ₁, e1, eq⟩ := bndP eq
  obtain ⟨b, q, eq⟩ := mapE eq
  cases eq
  refine wpAny_isTrue_value (HR.ev h₀ c _ σ v _ e1 A env ρ s G _ _ fun u s₁ ρ₁ m₁ V₁ => ?_) (isTrue_plain hp _)
  exact truthA_ok q (G.mv m₁) V₁ fun s₂ m₂ => h s₂ ρ₁ (m₁.trans G.rel m₂)
theorem orE_ok {gv : Str → Option Value} {ft : Addr → Option FI} (H : AllOk W gv ft) (HR : FnsOk W k R) {x y : Expr} {p : Pos} {r : Bool} (eq : orE R c x y σ = some (r, σ')) (G : Gd W h₀ k c A env ρ σ s) {whole : Sem Value} {Q : Bool → Shared → Prop}
    (h : ∀ s' ρ', MV W h₀ ρ σ s ρ' σ' s' → Q r s') : wpAny (model W.prog W.w) A (isTrue (.BoolOp .Or [x, y] p) env whole) Q E s := by
  obtain ⟨b, σ₁, e1, eq⟩ := bndP eq
  refine wpAny_isTrue_BoolOp (wpAny_allTrue_Or_cons (HR.ts h₀ c _ σ b _ e1 A env ρ s G _ _ fun s₁ ρ₁ m₁ => ?_))
  cases b with
  | true =>
    cases eq
    rw [if_pos rfl]
    exact h _ ρ₁ m₁
  | false =>
    rw [if_neg Bool.false_ne_true]
    refine wpAny_allTrue_Or_cons (HR.ts h₀ c _ σ₁ r σ' eq A env ρ₁ s₁ (G.mv m₁) _ _ fun s₂ ρ₂ m₂ => ?_)
    have hf := h _ ρ₂ (m₁.trans G.rel m₂)
    cases r with
    | true => rw [if_pos rfl]; exact hf
    | false => rw [if_neg Bool.false_ne_true]; exact wpAny_allTrue_Or_nil hf
theorem orF_eq {vs : List Expr} {r : Bool} (eq : orF R c vs σ = some (r, σ')) : ∃ x y, vs = [x, y] ∧ orE R c x y σ = some (r, σ') := by
  cases vs with
  | nil => exact no eq
  | cons x l =>
    obtain ⟨y, h1, e⟩ := bndE eq
    clear eq
    obtain rfl := one_eq h1
    exact ⟨x, y, rfl, e⟩

theorem tsF_ok {gv : Str → Option Value} {ft : Addr → Option FI} (H : AllOk W gv ft) (HR : FnsOk W k R) : TsOk W (k + 1) (tsF R) := by
  intro h₀ c e σ r σ' eq A env ρ s G₀ Q E h
  have G := G₀.less
  have hv := view_ok e
  unfold tsF at eq
  generalize view e = v at eq hv
  cases v with
  | cmp l ops rs =>
    obtain ⟨p, rfl⟩ := hv
    obtain ⟨op, x, rfl, rfl, q⟩ := cmpF_eq eq
    have t := cmpE_ok (E := E) (env := env) H HR q G (Q := fun v s => wpAny (model W.prog W.w) A (truthy v) Q E s) fun s' ρ' m => wpAny_truthy_bool (h s' ρ' m)
    exact wpAny_isTrue_Compare1 t.2 (marks t.1)
  | bool op vs =>
    obtain ⟨p, rfl⟩ := hv
    obtain ⟨h1, e1⟩ := okb eq
    clear eq
    obtain ⟨x, y, rfl, e2⟩ := orF_eq e1
    cases op with
    | And => exact noB h1
    | Or => exact orE_ok H HR e2 G h
  | _ => exact plainE_ok H HR eq G h

/-! statements -/
theorem swaps_not {e : Expr} (h : isComp e = false) (t : Option Expr) (l : Nat) : swapsWith e t l env = pure false := by
  cases e <;> first | rfl | cases h
theorem swaps_cell {e : Expr} {x : Str} {p : Pos} {l : Nat} (h : (env.kindOf x == some NameKind.local) = false) : swapsWith e (some (.Name x p)) l env = pure false := by
  have t : ∀ a c d : Bool, (a && (env.kindOf x == some NameKind.local) && c && d) = false := by
    intro a c d
    rw [h]
    cases a <;> rfl
  cases e with
  | ListComp _ _ _ _ => exact congrArg (fun b : Bool => (pure b : Sem Bool)) (t _ _ _)
  | SetComp _ _ _ _ => exact congrArg (fun b : Bool => (pure b : Sem Bool)) (t _ _ _)
  | DictComp _ _ _ _ _ => exact congrArg (fun b : Bool => (pure b : Sem Bool)) (t _ _ _)
  | _ => rfl
theorem swapped_not {e : Expr} (h : isDisp e = false) (ts : List Expr) (k : Nat) (p : Pos) : swappedStores [.Tuple ts k p] e env = pure none := by
  cases e <;> first | rfl | cases h

theorem expF_ok (HR : FnsOk W k R) {e : Expr} {p : Pos} {r : AFl} (eq : expF R c e σ = some (r, σ')) (G : Gd W h₀ k c A env ρ σ s) {Q : Flow → Shared → Prop}
    (h : ∀ f s' ρ', MV W h₀ ρ σ s ρ' σ' s' → FR W s' ρ' σ' r f → Q f s') : wpAny (model W.prog W.w) A (exec (.Expr e p) env) Q E s := by
  obtain ⟨hc, eq⟩ := okb eq
  obtain ⟨v, σ₁, q, eq⟩ := bndP eq
  cases eq
  refine wpAny_Expr_any (HR.ev h₀ c e σ v _ q A env ρ s G _ _ fun u s₁ ρ₁ m₁ V₁ => h _ _ ρ₁ m₁ .next) ?_ (swaps_not (notT hc) _ _)
  unfold interactive
  rw [G.kind]; rfl
theorem retF_ok (HR : FnsOk W k R) {v : Option Expr} {p : Pos} {r : AFl} (eq : retF R c v σ = some (r, σ')) (G : Gd W h₀ k c A env ρ σ s) {Q : Flow → Shared → Prop}
    (h : ∀ f s' ρ', MV W h₀ ρ σ s ρ' σ' s' → FR W s' ρ' σ' r f → Q f s') : wpAny (model W.prog W.w) A (exec (.Return v p) env) Q E s := by
  obtain ⟨e, h1, e1⟩ := bndE eq
  clear eq
  subst h1
  obtain ⟨v, σ₁, q, e1⟩ := bndP e1
  cases e1
  exact wpAny_Return_some (HR.ev h₀ c e σ v _ q A env ρ s G _ _ fun u s₁ ρ₁ m₁ V₁ => h _ _ ρ₁ m₁ (.ret V₁))
theorem asnF_ok (HR : FnsOk W k R) {x : Str} {e : Expr} {p p' : Pos} {r : AFl} (eq : asnF R c x e σ = some (r, σ')) (G : Gd W h₀ k c A env ρ σ s) {Q : Flow → Shared → Prop}
    (h : ∀ f s' ρ', MV W h₀ ρ σ s ρ' σ' s' → FR W s' ρ' σ' r f → Q f s') : wpAny (model W.prog W.w) A (exec (.Assign [.Name x p'] e p) env) Q E s := by
  obtain ⟨hc, eq⟩ := okb eq
  obtain ⟨v, σ₁, e1, eq⟩ := bndP eq
  obtain ⟨σ₂, q, eq⟩ := mapE eq
  cases eq
  have hc := notT hc
  refine wpAny_Assign_Name (HR.ev h₀ c e σ v _ e1 A env ρ s G _ _ fun u s₁ ρ₁ m₁ V₁ => ?_) ?_
  · exact store_ok q (G.mv m₁) V₁ fun s₂ m₂ => h _ _ ρ₁ (m₁.trans G.rel m₂) .next
  · cases hce : isComp e with
    | false => exact swaps_not hce _ _
    | true =>
      rw [hce, Bool.true_and] at hc
      exact swaps_cell (by rw [G.kindOf]; exact hc)
theorem astF_ok (HR : FnsOk W k R) {elts : List Expr} {kk : Nat} {p' : Pos} {e : Expr} {p : Pos} {r : AFl} (eq : astF R c (.Tuple elts kk p') e σ = some (r, σ')) (G : Gd W h₀ k c A env ρ σ s) {Q : Flow → Shared → Prop}
    (h : ∀ f s' ρ', MV W h₀ ρ σ s ρ' σ' s' → FR W s' ρ' σ' r f → Q f s') : wpAny (model W.prog W.w) A (exec (.Assign [.Tuple elts kk p'] e p) env) Q E s := by
  obtain ⟨hc, eq⟩ := okb eq
  obtain ⟨v, σ₁, e1, eq⟩ := bndP eq
  obtain ⟨σ₂, q, eq⟩ := mapE eq
  cases eq
  obtain ⟨hc1, hc2⟩ := Bool.or_eq_false_iff.mp (notT hc)
  refine wpAny_Assign_stores (HR.ev h₀ c e σ v _ e1 A env ρ s G _ _ fun u s₁ ρ₁ m₁ V₁ => ?_) (show swapsWith e (some (.Tuple elts kk p')) p.line env = pure false from swaps_not hc1 _ _) (swapped_not hc2 _ _ _)
  show wpAny _ _ (assign (.Tuple elts kk p') env u) _ _ _
  exact asg_ok q (G.mv m₁) V₁ fun s₂ m₂ => h _ _ ρ₁ (m₁.trans G.rel m₂) .next
theorem asgF_ok (HR : FnsOk W k R) {t e : Expr} {p : Pos} {r : AFl} (eq : asgF R c t e σ = some (r, σ')) (G : Gd W h₀ k c A env ρ σ s) {Q : Flow → Shared → Prop}
    (h : ∀ f s' ρ', MV W h₀ ρ σ s ρ' σ' s' → FR W s' ρ' σ' r f → Q f s') : wpAny (model W.prog W.w) A (exec (.Assign [t] e p) env) Q E s := by
  have hv := view_ok t
  unfold asgF at eq
  generalize view t = v at eq hv
  cases v with
  | name x => obtain ⟨p', rfl⟩ := hv; exact asnF_ok HR eq G h
  | tup es => obtain ⟨kk, p', rfl⟩ := hv; exact astF_ok HR eq G h
  | _ => exact no eq
theorem augF_ok {gv : Str → Option Value} {ft : Addr → Option FI} (H : AllOk W gv ft) (HR : FnsOk W k R) {t : Expr} {op : Operator} {e : Expr} {p : Pos} {r : AFl} (eq : augF gv R c t op e σ = some (r, σ')) (G : Gd W h₀ k c A env ρ σ s) {Q : Flow → Shared → Prop}
    (h : ∀ f s' ρ', MV W h₀ ρ σ s ρ' σ' s' → FR W s' ρ' σ' r f → Q f s') : wpAny (model W.prog W.w) A (exec (.AugAssign t op e p) env) Q E s := by
  obtain ⟨x, h1, eq⟩ := bndE eq
  obtain ⟨h2, eq⟩ := okb eq
  obtain ⟨v, e0, eq⟩ := bndE eq
  obtain ⟨a, h3, eq⟩ := bndE eq
  obtain ⟨u, σ₁, e1, eq⟩ := bndP eq
  obtain ⟨b, h4, eq⟩ := bndE eq
  obtain ⟨σ₂, q, eq⟩ := mapE eq
  cases eq
  obtain ⟨p', rfl⟩ := nameOf_some h1
  obtain rfl := intE_eq h3
  obtain rfl := intE_eq h4
  obtain rfl : op = .Add := by
    cases op with
    | Add => rfl
    | _ => exact noB h2
  refine wpAny_AugAssign_Name (loadA_ok H.gv e0 G fun v V => ?_)
  obtain ⟨t, rfl⟩ := V.intI
  refine HR.ev h₀ c e σ _ _ e1 A env ρ s G _ _ fun u s₁ ρ₁ m₁ V₁ => ?_
  obtain ⟨t', rfl⟩ := V₁.intI
  have G₁ := G.mv m₁
  refine PyProof.Rows.iadd_int ?_
  have m₂ : MV W h₀ ρ₁ σ₁ s₁ ρ₁ σ₁ { s₁ with toks := s₁.toks + 1 } := Mv.toks G₁.rel
  refine store_ok q (G₁.mv m₂) (by rw [← iAdd_den]; exact .int _ _) fun s₃ m₃ => h _ _ ρ₁ ((m₁.trans G.rel m₂).trans G.rel m₃) .next
theorem iffF_ok (HR : FnsOk W k R) {t : Expr} {b o : List Stmt} {p : Pos} {r : AFl} (eq : iffF R c t b o σ = some (r, σ')) (G : Gd W h₀ k c A env ρ σ s) {Q : Flow → Shared → Prop}
    (h : ∀ f s' ρ', MV W h₀ ρ σ s ρ' σ' s' → FR W s' ρ' σ' r f → Q f s') : wpAny (model W.prog W.w) A (exec (.If t b o p) env) Q E s := by
  obtain ⟨y, σ₁, e1, eq⟩ := bndP eq
  refine wpAny_If (HR.ts h₀ c _ σ y σ₁ e1 A env ρ s G _ _ fun s₁ ρ₁ m₁ => ?_)
  cases y with
  | true =>
    rw [if_pos rfl]
    exact HR.ex h₀ c _ σ₁ r σ' eq A env ρ₁ s₁ (G.mv m₁) _ _ fun f s₂ ρ₂ m₂ F => h f s₂ ρ₂ (m₁.trans G.rel m₂) F
  | false =>
    rw [if_neg Bool.false_ne_true]
    exact HR.ex h₀ c _ σ₁ r σ' eq A env ρ₁ s₁ (G.mv m₁) _ _ fun f s₂ ρ₂ m₂ F => h f s₂ ρ₂ (m₁.trans G.rel m₂) F
theorem stF_ok {gv : Str → Option Value} {ft : Addr → Option FI} (H : AllOk W gv ft) (HR : FnsOk W k R) {st : Stmt} {r : AFl} (eq : stF gv R c st σ = some (r, σ')) (G₀ : Gd W h₀ (k + 1) c A env ρ σ s) {Q : Flow → Shared → Prop}
    (h : ∀ f s' ρ', MV W h₀ ρ σ s ρ' σ' s' → FR W s' ρ' σ' r f → Q f s') : wpAny (model W.prog W.w) A (exec st env) Q E s := by
  have G := G₀.less
  have hv := stView_ok st
  unfold stF at eq
  generalize stView st = v at eq hv
  cases v with
  | expr e => obtain ⟨p, rfl⟩ := hv; exact expF_ok HR eq G h
  | ret v => obtain ⟨p, rfl⟩ := hv; exact retF_ok HR eq G h
  | asg ts e =>
    obtain ⟨p, rfl⟩ := hv
    obtain ⟨t, h1, e1⟩ := bndE eq
    clear eq
    obtain rfl := one_eq h1
    exact asgF_ok HR e1 G h
  | aug t op e => obtain ⟨p, rfl⟩ := hv; exact augF_ok H HR eq G h
  | ite t b o => obtain ⟨p, rfl⟩ := hv; exact iffF_ok HR eq G h
  | whl t b o =>
    obtain ⟨p, rfl⟩ := hv
    obtain ⟨h1, e1⟩ := okb eq
    clear eq
    obtain rfl := isEmpty_eq h1
    exact whileL_ok HR e1 G h
  | for_ tgt iter b o =>
    obtain ⟨p, rfl⟩ := hv
    obtain ⟨h1, e⟩ := okb eq
    clear eq
    obtain rfl := isEmpty_eq h1
    obtain ⟨h2, e⟩ := okb e
    obtain ⟨iv, σ₁, e1, e⟩ := bndP e
    obtain ⟨S, e2, e⟩ := bndE e
    obtain ⟨htg, e⟩ := okb e
    exact forL_ok H.it HR (notT h2) e1 e2 htg e G h
  | other => exact no eq

theorem exF_ok {gv : Str → Option Value} {ft : Addr → Option FI} (H : AllOk W gv ft) (HR : FnsOk W k R) : ExOk W (k + 1) (exF gv R) := by
  intro h₀ c b
  induction b with
  | nil =>
    intro σ r σ' eq A env ρ s G Q E h
    cases eq
    exact wpAny_execs_nil (h _ _ ρ (.refl G.rel) .next)
  | cons st rest ih =>
    intro σ r σ' eq A env ρ s G Q E h
    simp only [exF] at eq
    refine wpAny_execs_cons ?_
    split at eq
    · first | exact no eq | cases eq
    · rename_i σ₁ e1
      refine stF_ok H HR e1 G fun f s₁ ρ₁ m₁ F => ?_
      cases F
      exact ih σ₁ r σ' eq A env ρ₁ s₁ (G.mv m₁) Q E fun f s₂ ρ₂ m₂ F => h f s₂ ρ₂ (m₁.trans G.rel m₂) F
    · rename_i v σ₁ e1
      cases eq
      refine stF_ok H HR e1 G fun f s₁ ρ₁ m₁ F => ?_
      cases F with
      | ret hv => exact h _ _ ρ₁ m₁ (.ret hv)

theorem fns_ok {gv : Str → Option Value} {ft : Addr → Option FI} (H : AllOk W gv ft) : ∀ k, FnsOk W k (fns gv ft k)
  | 0 => ⟨fun _ _ _ _ _ _ e => (nomatch e), fun _ _ _ _ _ _ e => (nomatch e), fun _ _ _ _ _ _ _ e => (nomatch e), fun _ _ _ _ _ _ e => (nomatch e)⟩
  | k + 1 => ⟨evF_ok H (fns_ok H k), exF_ok H (fns_ok H k), callU_ok H.ft (fns_ok H k), tsF_ok H (fns_ok H k)⟩
end
end Mine
end

section
open PySem PySem.Spec PySem.Calls PyProof.Rows PySem.W
set_option Elab.async false
set_option maxRecDepth 100000
namespace Mine
noncomputable section
noncomputable def P0 : Params := { strHash := fun _ => 0, shareClass := fun _ => 0, mergeTok := fun t => t, idOf := fun _ => 0, idOfShared := fun _ _ => 0, followText := fun _ => false, idOfImm := fun _ => 0 }
noncomputable def K0 : Frag := K39 P0
noncomputable def fdAt (a : Addr) : FuncData := match K0.lookup a with
  | some ⟨_, _, .func fd, _⟩ => fd
  | _ => default
noncomputable def bodyAt (a : Addr) : List Stmt := match (fdAt a).body with
  | .stmts b => b
  | _ => []
noncomputable def fiAt (a : Addr) : FI := ⟨fdAt a, (fdAt a).params.args.map (·.arg), bodyAt a⟩
noncomputable def fi28 : FI := fiAt 28
noncomputable def fi35 : FI := fiAt 35
noncomputable def fi42 : FI := fiAt 42
noncomputable def fi154 : FI := fiAt 154
noncomputable def fi161 : FI := fiAt 161
noncomputable def fi189 : FI := fiAt 189
noncomputable def fi210 : FI := fiAt 210
noncomputable def fi227 : FI := fiAt 227
noncomputable def fi234 : FI := fiAt 234
noncomputable def fi241 : FI := fiAt 241
noncomputable def ftL : List (Addr × FI) := [(28, fi28), (35, fi35), (42, fi42), (154, fi154), (161, fi161), (189, fi189), (210, fi210), (227, fi227), (234, fi234), (241, fi241)]
noncomputable def ftA (a : Addr) : Option FI := ftL.lookup a
noncomputable def gvL : List (Str × Value) := [("le", .ref 28), ("mul", .ref 35), ("neg", .ref 42), ("_Accumulator", .ref 122), ("_netrclex", .ref 164), ("TupleComp", .ref 192), ("add_callers", .ref 203), ("count_calls", .ref 210), ("_law_rings", .ref 227), ("_law_calls", .ref 234),
  ("_law_determinant", .ref 241), ("range", .type "range"), ("tuple", .type "tuple"), ("len", .builtin "len")]
noncomputable def gvA (x : Str) : Option Value := lookS gvL x
noncomputable def fdL : FuncData := fdAt 246
noncomputable def bodyL : List Stmt := bodyAt 246
noncomputable def cellNames : List Str := (fdL.scope.names.filter fun x => x.2 == .cell).map (·.1)
noncomputable def cells0 : List (Str × Nat) := [("numbers", 1), ("way", 2), ("ahead", 3), ("size", 4), ("order", 5), ("line", 6), ("rows", 7), ("worth", 8)]
noncomputable def ctxL : Ctx := ⟨fdL.scope, 0, 0, cells0⟩
noncomputable def rowOf (a b c : Nat) : AV := .dicS [("a", .int (.v a)), ("b", .int (.v b)), ("c", .int (.v c))]
noncomputable def prof : AV := .dicS [("a", rowOf 0 3 6), ("b", rowOf 1 4 7), ("c", rowOf 2 5 8)]
noncomputable def loc0 : List (Str × AV) := [("profile", prof), ("a", .int (.v 0)), ("b", .int (.v 1)), ("c", .int (.v 2)), ("d", .int (.v 3)), ("e", .int (.v 4)), ("f", .int (.v 5)), ("g", .int (.v 6)), ("h", .int (.v 7)), ("j", .int (.v 8))]
noncomputable def st0 (way ahead : Int) : St := ⟨[(0, .ns loc0), (1, .cell none), (2, .cell (some (.int (.c way)))), (3, .cell (some (.int (.c ahead)))), (4, .cell none), (5, .cell none), (6, .cell none), (7, .cell none), (8, .cell none)], 9⟩
noncomputable def runL (n m : Nat) (way ahead : Int) : Option (AFl × St) := (fns gvA ftA 200).ex ctxL ((bodyL.drop n).take m) (st0 way ahead)
noncomputable def isRet : Option (AFl × St) → Bool
  | some (.ret (.bool true), _) => true
  | _ => false
noncomputable def isNext : Option (AFl × St) → Bool
  | some (.next, _) => true
  | _ => false
end
end Mine
end

section
open PySem PySem.Spec PySem.Calls PyProof.Rows PySem.W
set_option Elab.async false
set_option maxRecDepth 100000
namespace Mine
noncomputable section
noncomputable abbrev KW (w : World) : Frag := K39 w.params

theorem fact_m (w : World) (C f : Addr) (x : Str) (h : (plainGet (KW w) C x && (findIn (KW w) (.ref C) x == some (some (.ref f))) && isFn (KW w) (.ref f) && keepIn (KW w) (.ref f)) = true) :
    plainGet (KW w) C x = true ∧ findIn (KW w) (.ref C) x = some (some (.ref f)) ∧ isFn (KW w) (.ref f) = true ∧ keepIn (KW w) (.ref f) = true := by
  rw [Bool.and_eq_true, Bool.and_eq_true, Bool.and_eq_true, beq_iff_eq] at h
  exact ⟨h.1.1.1, h.1.1.2, h.1.2, h.2⟩
theorem f192 (w : World) : (plainGet (KW w) 192 "compare" && (findIn (KW w) (.ref 192) "compare" == some (some (.ref 189))) && isFn (KW w) (.ref 189) && keepIn (KW w) (.ref 189)) = true := by kernel_rfl
theorem f164p (w : World) : (plainGet (KW w) 164 "push_token" && (findIn (KW w) (.ref 164) "push_token" == some (some (.ref 161))) && isFn (KW w) (.ref 161) && keepIn (KW w) (.ref 161)) = true := by kernel_rfl
theorem f164g (w : World) : (plainGet (KW w) 164 "get_token" && (findIn (KW w) (.ref 164) "get_token" == some (some (.ref 154))) && isFn (KW w) (.ref 154) && keepIn (KW w) (.ref 154)) = true := by kernel_rfl
theorem f122a (w : World) : ((findIn (KW w) (.ref 122) "push" == some (some (.ref 66))) && isFn (KW w) (.ref 66) && keepIn (KW w) (.ref 66)) = true := by kernel_rfl
theorem f122b (w : World) : ((findIn (KW w) (.ref 122) "pop" == some (some (.ref 82))) && isFn (KW w) (.ref 82) && keepIn (KW w) (.ref 82)) = true := by kernel_rfl
theorem f122c (w : World) : ((findIn (KW w) (.ref 122) "part_count" == some (some (.ref 119))) && isFn (KW w) (.ref 119) && keepIn (KW w) (.ref 119)) = true := by kernel_rfl
theorem f122g (w : World) : findIn (KW w) (.ref 122) "__getattribute__" = some (some (.builtin "list.__getattribute__")) := by kernel_rfl
theorem f122h (w : World) : findIn (KW w) (.ref 122) "__getattr__" = some none := by kernel_rfl
theorem fact_a (w : World) (f : Addr) (x : Str) (h : ((findIn (KW w) (.ref 122) x == some (some (.ref f))) && isFn (KW w) (.ref f) && keepIn (KW w) (.ref f)) = true) (hx : x ≠ ("_initial_size" : Str)) :
    findIn (KW w) (.ref 122) x = some (some (.ref f)) ∧ isFn (KW w) (.ref f) = true ∧ keepIn (KW w) (.ref f) = true ∧ x ≠ ("_initial_size" : Str) := by
  rw [Bool.and_eq_true, Bool.and_eq_true, beq_iff_eq] at h
  exact ⟨h.1.1, h.1.2, h.2, hx⟩
theorem a192 (w : World) : (plainGet (KW w) 192 "comp_select_list" && hasDictIn (KW w) 192 && (findIn (KW w) (.ref 192) "comp_select_list" == some none)) = true := by kernel_rfl
theorem a164 (w : World) : (plainGet (KW w) 164 "pushback" && hasDictIn (KW w) 164 && (findIn (KW w) (.ref 164) "pushback" == some none)) = true := by kernel_rfl
theorem kkeep (w : World) : (knownA.all fun a => keepIn (KW w) (.ref a)) = true := by kernel_rfl
theorem kok (w : World) : KOk (KW w) where
  meth := fun C x f e => by
    unfold methT at e
    split at e
    · rename_i hC
      subst hC
      split at e
      · rename_i hx
        rw [beq_iff_eq.mp hx]
        cases e
        exact fact_m w _ _ _ (f192 w)
      · first | exact no e | cases e
    · split at e
      · rename_i hC
        subst hC
        split at e
        · rename_i hx
          rw [beq_iff_eq.mp hx]
          cases e
          exact fact_m w _ _ _ (f164p w)
        · split at e
          · rename_i hx
            rw [beq_iff_eq.mp hx]
            cases e
            exact fact_m w _ _ _ (f164g w)
          · first | exact no e | cases e
      · first | exact no e | cases e
  accG := ⟨f122g w, f122h w⟩
  acc := fun x f e => by
    unfold accT at e
    split at e
    · rename_i hx
      rw [beq_iff_eq.mp hx]
      cases e
      exact fact_a w _ _ (f122a w) (by decide +kernel)
    · split at e
      · rename_i hx
        rw [beq_iff_eq.mp hx]
        cases e
        exact fact_a w _ _ (f122b w) (by decide +kernel)
      · split at e
        · rename_i hx
          rw [beq_iff_eq.mp hx]
          cases e
          exact fact_a w _ _ (f122c w) (by decide +kernel)
        · first | exact no e | cases e
  attr := fun C x e => by
    unfold attrT at e
    rw [Bool.or_eq_true, Bool.and_eq_true, Bool.and_eq_true, beq_iff_eq, beq_iff_eq, beq_iff_eq, beq_iff_eq] at e
    rcases e with ⟨rfl, rfl⟩ | ⟨rfl, rfl⟩
    · have h := a192 w
      rw [Bool.and_eq_true, Bool.and_eq_true, beq_iff_eq] at h
      exact ⟨h.1.1, h.1.2, none, h.2, rfl⟩
    · have h := a164 w
      rw [Bool.and_eq_true, Bool.and_eq_true, beq_iff_eq] at h
      exact ⟨h.1.1, h.1.2, none, h.2, rfl⟩
  known := fun a ha => List.all_eq_true.mp (kkeep w) a ha

/-! the functions -/
noncomputable def fiB (K : Frag) (a : Addr) : Bool :=
  codeIn K (fdAt a).code (fdAt a).qualname && ((fiAt a).names.all fun n => (fdAt a).scope.names.lookup n == some .local) && decide (fiAt a).names.Nodup && ((fdAt a).scope.kind == .function) && ((fdAt a).scope.names.all fun x => x.2 != .cell) &&
    !(fdAt a).scope.isCoroutine && !(fdAt a).scope.isGenerator && ((fdAt a).globals == mainGlobals) && ((fdAt a).builtins == builtinsNs)
theorem fi_ok {W : Wd} {a : Addr} (ho : ∃ o, W.K.lookup a = some o ∧ o.data = .func (fdAt a)) (hb : (fdAt a).body = .stmts (bodyAt a)) (h : fiB W.K a = true)
    (hbind : ∀ vs : List Value, vs.length = (fiAt a).names.length → bindArgs (fdAt a) ⟨vs, []⟩ = pure ((fiAt a).names.zip vs)) : FiOk W a (fiAt a) := by
  unfold fiB at h
  simp only [Bool.and_eq_true, Bool.not_eq_true', beq_iff_eq, decide_eq_true_eq, List.all_eq_true, bne_iff_ne] at h
  obtain ⟨⟨⟨⟨⟨⟨⟨⟨h1, h2⟩, h3⟩, h4⟩, h5⟩, h6⟩, h7⟩, h8⟩, h9⟩ := h
  exact { obj := ho, body := hb, code := fun hp X => codeRec_of X h1, bind := hbind, loc := h2, nodup := h3, kind := h4, nocell := h5, co := h6, gen := h7, gl := h8, bl := h9 }
noncomputable def objAt (a : Addr) : Obj := (K0.lookup a).getD ⟨.none, none, .plain, #[]⟩
theorem fb28 (w : World) : fiB (KW w) 28 = true := by kernel_rfl
theorem fb35 (w : World) : fiB (KW w) 35 = true := by kernel_rfl
theorem fb42 (w : World) : fiB (KW w) 42 = true := by kernel_rfl
theorem fb154 (w : World) : fiB (KW w) 154 = true := by kernel_rfl
theorem fb161 (w : World) : fiB (KW w) 161 = true := by kernel_rfl
theorem fb189 (w : World) : fiB (KW w) 189 = true := by kernel_rfl
theorem fb210 (w : World) : fiB (KW w) 210 = true := by kernel_rfl
theorem fb227 (w : World) : fiB (KW w) 227 = true := by kernel_rfl
theorem fb234 (w : World) : fiB (KW w) 234 = true := by kernel_rfl
theorem fb241 (w : World) : fiB (KW w) 241 = true := by kernel_rfl
theorem fo28 (w : World) : (KW w).lookup 28 = some (objAt 28) := by kernel_rfl
theorem fo35 (w : World) : (KW w).lookup 35 = some (objAt 35) := by kernel_rfl
theorem fo42 (w : World) : (KW w).lookup 42 = some (objAt 42) := by kernel_rfl
theorem fo154 (w : World) : (KW w).lookup 154 = some (objAt 154) := by kernel_rfl
theorem fo161 (w : World) : (KW w).lookup 161 = some (objAt 161) := by kernel_rfl
theorem fo189 (w : World) : (KW w).lookup 189 = some (objAt 189) := by kernel_rfl
theorem fo210 (w : World) : (KW w).lookup 210 = some (objAt 210) := by kernel_rfl
theorem fo227 (w : World) : (KW w).lookup 227 = some (objAt 227) := by kernel_rfl
theorem fo234 (w : World) : (KW w).lookup 234 = some (objAt 234) := by kernel_rfl
theorem fo241 (w : World) : (KW w).lookup 241 = some (objAt 241) := by kernel_rfl
theorem fbind1 {a : Addr} (h1 : (fiAt a).names.length = 1) (h : ∀ x : Value, bindArgs (fdAt a) ⟨[x], []⟩ = pure ((fiAt a).names.zip [x])) : ∀ vs : List Value, vs.length = (fiAt a).names.length → bindArgs (fdAt a) ⟨vs, []⟩ = pure ((fiAt a).names.zip vs) := by
  intro vs hl
  rw [h1] at hl
  obtain ⟨x, rfl⟩ := List.length_eq_one_iff.mp hl
  exact h x
theorem len2 {vs : List Value} (h : vs.length = 2) : ∃ x y, vs = [x, y] := by
  obtain ⟨x, t, rfl⟩ := List.exists_cons_of_length_eq_add_one h
  obtain ⟨y, rfl⟩ := List.length_eq_one_iff.mp (Nat.succ.inj h)
  exact ⟨x, y, rfl⟩
theorem len3 {vs : List Value} (h : vs.length = 3) : ∃ x y z, vs = [x, y, z] := by
  obtain ⟨x, t, rfl⟩ := List.exists_cons_of_length_eq_add_one h
  obtain ⟨y, z, rfl⟩ := len2 (Nat.succ.inj h)
  exact ⟨x, y, z, rfl⟩
theorem fbind2 {a : Addr} (h1 : (fiAt a).names.length = 2) (h : ∀ x y : Value, bindArgs (fdAt a) ⟨[x, y], []⟩ = pure ((fiAt a).names.zip [x, y])) : ∀ vs : List Value, vs.length = (fiAt a).names.length → bindArgs (fdAt a) ⟨vs, []⟩ = pure ((fiAt a).names.zip vs) := by
  intro vs hl
  rw [h1] at hl
  obtain ⟨x, y, rfl⟩ := len2 hl
  exact h x y
theorem fbind3 {a : Addr} (h1 : (fiAt a).names.length = 3) (h : ∀ x y z : Value, bindArgs (fdAt a) ⟨[x, y, z], []⟩ = pure ((fiAt a).names.zip [x, y, z])) : ∀ vs : List Value, vs.length = (fiAt a).names.length → bindArgs (fdAt a) ⟨vs, []⟩ = pure ((fiAt a).names.zip vs) := by
  intro vs hl
  rw [h1] at hl
  obtain ⟨x, y, z, rfl⟩ := len3 hl
  exact h x y z
theorem ft28 (W : Wd) (hK : W.K = KW W.w) : FiOk W 28 fi28 := fi_ok ⟨objAt 28, by rw [hK]; exact fo28 _, by kernel_rfl⟩ (by kernel_rfl) (by rw [hK]; exact fb28 _) (fbind2 (by kernel_rfl) fun x y => by kernel_rfl)
theorem ft35 (W : Wd) (hK : W.K = KW W.w) : FiOk W 35 fi35 := fi_ok ⟨objAt 35, by rw [hK]; exact fo35 _, by kernel_rfl⟩ (by kernel_rfl) (by rw [hK]; exact fb35 _) (fbind2 (by kernel_rfl) fun x y => by kernel_rfl)
theorem ft42 (W : Wd) (hK : W.K = KW W.w) : FiOk W 42 fi42 := fi_ok ⟨objAt 42, by rw [hK]; exact fo42 _, by kernel_rfl⟩ (by kernel_rfl) (by rw [hK]; exact fb42 _) (fbind1 (by kernel_rfl) fun x => by kernel_rfl)
theorem ft154 (W : Wd) (hK : W.K = KW W.w) : FiOk W 154 fi154 := fi_ok ⟨objAt 154, by rw [hK]; exact fo154 _, by kernel_rfl⟩ (by kernel_rfl) (by rw [hK]; exact fb154 _) (fbind1 (by kernel_rfl) fun x => by kernel_rfl)
theorem ft161 (W : Wd) (hK : W.K = KW W.w) : FiOk W 161 fi161 := fi_ok ⟨objAt 161, by rw [hK]; exact fo161 _, by kernel_rfl⟩ (by kernel_rfl) (by rw [hK]; exact fb161 _) (fbind2 (by kernel_rfl) fun x y => by kernel_rfl)
theorem ft189 (W : Wd) (hK : W.K = KW W.w) : FiOk W 189 fi189 := fi_ok ⟨objAt 189, by rw [hK]; exact fo189 _, by kernel_rfl⟩ (by kernel_rfl) (by rw [hK]; exact fb189 _) (fbind3 (by kernel_rfl) fun x y z => by kernel_rfl)
theorem ft210 (W : Wd) (hK : W.K = KW W.w) : FiOk W 210 fi210 := fi_ok ⟨objAt 210, by rw [hK]; exact fo210 _, by kernel_rfl⟩ (by kernel_rfl) (by rw [hK]; exact fb210 _) (fbind1 (by kernel_rfl) fun x => by kernel_rfl)
theorem ft227 (W : Wd) (hK : W.K = KW W.w) : FiOk W 227 fi227 := fi_ok ⟨objAt 227, by rw [hK]; exact fo227 _, by kernel_rfl⟩ (by kernel_rfl) (by rw [hK]; exact fb227 _) (fbind2 (by kernel_rfl) fun x y => by kernel_rfl)
theorem ft234 (W : Wd) (hK : W.K = KW W.w) : FiOk W 234 fi234 := fi_ok ⟨objAt 234, by rw [hK]; exact fo234 _, by kernel_rfl⟩ (by kernel_rfl) (by rw [hK]; exact fb234 _) (fbind2 (by kernel_rfl) fun x y => by kernel_rfl)
theorem ft241 (W : Wd) (hK : W.K = KW W.w) : FiOk W 241 fi241 := fi_ok ⟨objAt 241, by rw [hK]; exact fo241 _, by kernel_rfl⟩ (by kernel_rfl) (by rw [hK]; exact fb241 _) (fbind3 (by kernel_rfl) fun x y z => by kernel_rfl)
theorem lookA_mem {α : Type} {a : Addr} {v : α} : ∀ {l : List (Addr × α)}, l.lookup a = some v → (a, v) ∈ l
  | (b, u) :: l, e => by
    rw [List.lookup_cons] at e
    cases h : a == b with
    | true => rw [h] at e; cases e; rw [beq_iff_eq.mp h]; exact List.mem_cons_self
    | false => rw [h] at e; exact List.mem_cons_of_mem _ (lookA_mem e)
theorem ftAll (W : Wd) (hK : W.K = KW W.w) : ∀ p ∈ ftL, FiOk W p.1 p.2 := by
  have c : ∀ {q : Addr × FI} {l : List (Addr × FI)}, FiOk W q.1 q.2 → (∀ p ∈ l, FiOk W p.1 p.2) → ∀ p ∈ q :: l, FiOk W p.1 p.2 := fun a b => List.forall_mem_cons.mpr ⟨a, b⟩
  exact c (ft28 W hK) <| c (ft35 W hK) <| c (ft42 W hK) <| c (ft154 W hK) <| c (ft161 W hK) <| c (ft189 W hK) <| c (ft210 W hK) <| c (ft227 W hK) <| c (ft234 W hK) <| c (ft241 W hK) <| fun _ h => absurd h List.not_mem_nil
theorem ftok (W : Wd) (hK : W.K = KW W.w) : FtOk W ftA := fun _ _ e => ftAll W hK _ (lookA_mem e)

/-! names -/
noncomputable def gvRefs : List (Str × Value) := gvL.take 11
theorem gRefs (w : World) : (gvRefs.all fun p => nsIn (KW w) mainGlobals p.1 == some (some p.2)) = true := by kernel_rfl
theorem gB (w : World) : ((gvL.drop 11).all fun p => nsIn (KW w) mainGlobals p.1 == some none) = true := by kernel_rfl
theorem gN : ((gvL.drop 11).all fun p => decide (p.1 ≠ "__name__") && (bootBuiltins p.1 == some p.2)) = true := by kernel_rfl
theorem look_in {x : Str} {v : Value} : ∀ {l : List (Str × Value)}, l.lookup x = some v → (x, v) ∈ l
  | (a, b) :: l, e => by
    rw [List.lookup_cons] at e
    cases h : x == a with
    | true => rw [h] at e; cases e; rw [beq_iff_eq.mp h]; exact List.mem_cons_self
    | false => rw [h] at e; exact List.mem_cons_of_mem _ (look_in e)
theorem gvok (W : Wd) (hK : W.K = KW W.w) {h₀ : Heap} (X : W.K.In h₀) (T : Top W.p W.loose W.mean W.mg W.mb h₀) : GvOk W gvA := by
  intro x v e
  have hm : (x, v) ∈ gvL := look_in ((lookS_eq gvL x).symm.trans e)
  rw [← List.take_append_drop 11 gvL, List.mem_append] at hm
  rcases hm with hm | hm
  · left
    have := List.all_eq_true.mp (gRefs W.w) _ hm
    exact mg_of (hK ▸ X) T.g (beq_iff_eq.mp this)
  · right
    have h1 := List.all_eq_true.mp (gB W.w) _ hm
    have h2 := List.all_eq_true.mp gN _ hm
    rw [Bool.and_eq_true, decide_eq_true_eq, beq_iff_eq] at h2
    exact ⟨mg_none_of (hK ▸ X) T.g (beq_iff_eq.mp h1), (T.builtins x h2.1).trans h2.2⟩
end
end Mine
end

section
open PySem PySem.Spec PySem.Calls PyProof.Rows PySem.W
set_option Elab.async false
set_option maxRecDepth 100000
namespace Mine
noncomputable section
section
variable {prog : Program} {w : World} {A : Around} {E : Value → Shared → Prop} {s : Shared} {K : Frag} {x C : Addr} {ox : Obj} {od : Option Obj}

theorem looks_inst (X : K.In s.heap) (I : InstAt s.heap x ox C od) {T : String} (hs : subIn K (.ref C) (.type T) = some true) : Looks (model prog w) s.heap (isInstance (.ref x) (.type T)) true :=
  I.type.andThen (looks_subIn X hs)
theorem check_kind {i owner n : String} {self : Value} {rest : List Value} {Q : Unit → Shared → Prop} (hk : builtinKind i = some .slot ∨ builtinKind i = some .method) (hs : splitId i = some (owner, n))
    (hi : Looks (model prog w) s.heap (isInstance self (.type owner)) true) (ha : argsOk i ⟨self :: rest, []⟩) (q : Q () s) : wpAny (model prog w) A (checkBuiltinCall i ⟨self :: rest, []⟩) Q E s := by
  rcases hk with hk | hk <;>
  · simp only [checkBuiltinCall, hk, hs]
    refine wpAny_bind (hi.here ?_)
    simp only [Bool.not_true, Bool.false_eq_true, if_false]
    cases hsig : Manifest.signature? i with
    | none => exact wpAny_pure q
    | some sig =>
      simp only [argsOk, hsig] at ha
      have h2 : Bind.checkArgs i sig ⟨self :: rest, []⟩ = pure () := ha
      show wpAny _ A (Bind.checkArgs i sig ⟨self :: rest, []⟩) Q E s
      rw [h2]; exact wpAny_pure q
/-- a built-in method of the base, called on an object of the subclass -/
theorem call_sub {i owner n : String} {b : Builtin} {rest : List Value} {Q : Value → Shared → Prop} (X : K.In s.heap) (I : InstAt s.heap x ox C od) (hsub : subIn K (.ref C) (.type owner) = some true) (hk : builtinKind i = some .slot ∨ builtinKind i = some .method)
    (hs : splitId i = some (owner, n)) (hp : plainId i = true) (hb : entryFor table i = some b) (ha : argsOk i ⟨.ref x :: rest, []⟩) (hc : wpAny (model prog w) A.in1 (b ⟨.ref x :: rest, []⟩) (fun fin s' => ∃ v, fin = .done (.ret v) ∧ Q v s') E s) :
    wpAny (model prog w) A (call (.builtin i) (.ref x :: rest)) Q E s := by
  refine wpAny_call (codeAny_call_builtin hp hb (check_kind hk hs (looks_inst X I hsub) ha (wpAny_mono hc (fun fin s' h' => ?_) fun _ _ h' => h')))
  obtain ⟨v, rfl, hv⟩ := h'; exact hv
end

theorem sub122 (w : World) : subIn (KW w) (.ref 122) (.type "list") = some true := by kernel_rfl
theorem noseq122 (w : World) : noSeq (KW w) 122 = true := by kernel_rfl
theorem find_iter (w : World) : findIn (KW w) (.ref 122) "__iter__" = some (some (.builtin "list.__iter__")) := by kernel_rfl
theorem find_item (w : World) : findIn (KW w) (.ref 122) "__getitem__" = some (some (.builtin "list.__getitem__")) := by kernel_rfl
theorem kind_iter : builtinKind "list.__iter__" = some .slot ∨ builtinKind "list.__iter__" = some .method := by first | exact .inl (by decide +kernel) | exact .inr (by decide +kernel)
theorem kind_item : builtinKind "list.__getitem__" = some .slot ∨ builtinKind "list.__getitem__" = some .method := by first | exact .inl (by decide +kernel) | exact .inr (by decide +kernel)
theorem split_iter : splitId "list.__iter__" = some ("list", "__iter__") := by decide +kernel
theorem split_item : splitId "list.__getitem__" = some ("list", "__getitem__") := by decide +kernel

section
variable {w : World} {A : Around} {E : Value → Shared → Prop} {s : Shared} {a dx : Addr} {vs : List Value} {n : Nat} {es : List DictEntry} {m : Nat}
theorem acc_inst (ho : s.heap.get? a = some ⟨.ref 122, some dx, .seq vs.toArray n, #[]⟩) (hd : s.heap.get? dx = some (dictOf es m)) : InstAt s.heap a ⟨.ref 122, some dx, .seq vs.toArray n, #[]⟩ 122 (some (dictOf es m)) := ⟨ho, rfl, rfl, hd⟩

theorem acc_get_item (X : (KW w).In s.heap) (I : InstAt s.heap a ⟨.ref 122, some dx, .seq vs.toArray n, #[]⟩ 122 (some (dictOf es m))) {k : Int} {t : Tok} {j : Nat} {x : Value} {Q : Value → Shared → Prop} (h0 : k < 0) (hfit : -(2 ^ 63) ≤ k) (hj : seqIndex? k vs.length = some j) (hx : vs[j]? = some x) (h : Q x s) :
    wpAny (model PR w) A (getItem (.ref a) (.int k t)) Q E s := by
  unfold getItem sequenceKey
  refine wpAny_holding (wpAny_bind (wpAny_bind (I.type.here ?_)))
  refine wpAny_bind ((anyM_none X (noseq122 w)).here ?_)
  rw [if_pos (show (!false) = true from rfl)]
  refine wpAny_pure ?_
  refine wpAny_bind ?_
  unfold callSpecial? specialOf
  refine wpAny_bind (wpAny_bind (I.type.here ((looks_findIn X (find_item w)).here ?_)))
  refine wpAny_holding (wpAny_bind ?_)
  rw [slot_list_getitem.bind]
  refine wpAny_pure ?_
  refine wpAny_bind (call_sub X I (sub122 w) kind_item split_item slot_list_getitem.plain entry_list_getitem (args_list_getitem _ _) ?_)
  show wpAny _ _ (Builtin.List.listSubscript? (.int k t) >>= _) _ _ s
  refine wpAny_bind (wpAny_listSubscript_int (fitsIndex_neg h0 hfit) ?_)
  clear hfit
  obtain ⟨i, rfl⟩ : ∃ j : Nat, k = Int.negSucc j := by
    cases k with
    | ofNat n => exact absurd h0 (Int.not_lt.mpr (Int.ofNat_nonneg n))
    | negSucc n => exact ⟨n, rfl⟩
  show wpAny _ _ ((Builtin.List.listItems (.ref a) >>= fun xs => pure ((seqIndex? (Int.negSucc i) xs.size).bind fun i => xs[i]?.map (i, ·))) >>= _) _ _ s
  refine wpAny_bind (wpAny_bind ?_)
  show wpAny _ _ (seqItems? (.ref a) >>= _) _ _ s
  refine wpAny_bind (wpAny_seqItems I.at_ rfl (wpAny_pure (wpAny_pure ?_)))
  rw [show vs.toArray.size = vs.length from List.size_toArray .., hj]
  simp only [Option.bind_some, List.getElem?_toArray, hx, Option.map_some]
  first
    | exact wpAny_bind (wpAny_pure (wpAny_pure ⟨x, rfl, wpAny_pure (wpAny_pure h)⟩))
    | exact wpAny_pure ⟨x, rfl, wpAny_pure (wpAny_pure h)⟩
    | exact wpAny_bind (wpAny_pure (wpAny_pure ⟨x, rfl, wpAny_pure h⟩))
    | exact wpAny_pure ⟨x, rfl, wpAny_pure h⟩

theorem acc_iter (X : (KW w).In s.heap) (I : InstAt s.heap a ⟨.ref 122, some dx, .seq vs.toArray n, #[]⟩ 122 (some (dictOf es m))) {Q : Value → Shared → Prop}
    (h : Q (.ref s.heap.objs.size) { s with heap := s.heap.push { cls := .type "list_iterator", data := .fields #[.ref a, .int 0 0] } }) : wpAny (model PR w) A (pyIter (.ref a)) Q E s := by
  have fin : wpAny (model PR w) A (call (.builtin "list.__iter__") [.ref a] >>= fun v => pure (some v)) (fun r s' => ∃ v, r = some v ∧ ((∃ r, s'.TypeIs v "list_iterator" ∧ typeLookup (.type "list_iterator") "__next__" = pure (some r)) ∧ Q v s')) E s := by
    refine wpAny_bind (call_sub X I (sub122 w) kind_iter split_iter slot_list_iter.plain entry_list_iter (args_list_iter _) ?_)
    show wpAny _ _ (do ret (← newFields "list_iterator" [.ref a, rawInt 0])) _ _ s
    exact wpAny_bind (wpAny_newObj_type (wpAny_pure ⟨_, rfl, wpAny_pure ⟨_, rfl, ⟨_, ⟨_, Heap.get?_push_size _ rfl, rfl⟩, slot_listiter_next.lookup⟩, h⟩⟩))
  have one : ∀ refuse : Sem Value, wpAny (model PR w) A (callSpecialIfBoundUnlessNone? (.ref a) "__iter__" refuse) (fun r s' => ∃ v, r = some v ∧ ((∃ r, s'.TypeIs v "list_iterator" ∧ typeLookup (.type "list_iterator") "__next__" = pure (some r)) ∧ Q v s')) E s := by
    intro refuse
    simp only [callSpecialIfBoundUnlessNone?, bindSpecialIfBound?]
    refine wpAny_holding (wpAny_bind (wpAny_bind (wpAny_bind (I.type.here ((looks_findIn X (find_iter w)).here ?_)))))
    simp only [slot_list_iter.bind]
    refine wpAny_bind (wpAny_askSetting (wpAny_ite ?_))
    have fin2 : wpAny (model PR w) A (if (Value.builtin "list.__iter__" == Value.none) = true then (refuse >>= fun v => pure (some v)) else (call (.builtin "list.__iter__") [.ref a] >>= fun v => pure (some v))) (fun r s' => ∃ v, r = some v ∧ ((∃ r, s'.TypeIs v "list_iterator" ∧ typeLookup (.type "list_iterator") "__next__" = pure (some r)) ∧ Q v s')) E s := by
      rw [if_neg (show ¬ ((Value.builtin "list.__iter__" == Value.none) = true) from Bool.false_ne_true)]
      exact fin
    split
    · exact wpAny_bind (wpAny_pure (wpAny_pure fin2))
    · exact wpAny_tryCatch (wpAny_bind (wpAny_pure (wpAny_pure fin2)))
  unfold pyIter
  refine wpAny_bind (wpAny_bind (I.type.here ((looks_findIn X (find_iter w)).here ?_)))
  show wpAny _ A (callSpecialIfBoundUnlessNone? (.ref a) "__iter__" _ >>= _) Q E s
  refine wpAny_bind (wpAny_mono (one _) (fun r s' hr => ?_) fun _ _ z => z)
  obtain ⟨v, rfl, ⟨r, hT, hl⟩, hv⟩ := hr
  exact wpAny_bind (wpAny_specialOf hT hl (wpAny_pure hv))
end

section
variable {prog : Program} {w : World} {A : Around} {E : Value → Shared → Prop} {s : Shared} {it l : Addr} {i n : Nat} {o : Obj} {vs : List Value}
theorem acc_next (hit : s.heap.IsListIter it l i) (hol : s.heap.get? l = some o) (hdl : o.data = .seq vs.toArray n) {x : Value} {Q : Option Value → Shared → Prop} (hx : vs[i]? = some x)
    (hQ : ∀ h', h'.IsListIter it l (i + 1) → Heap.SameBut it s.heap h' → Q (some x) { s with heap := h' }) : wpAny (model prog w) A (pyNext (.ref it)) Q E s := by
  obtain ⟨oi, ho, hc, hd⟩ := id hit
  unfold pyNext
  refine wpAny_bind (wpAny_attempt (wpAny_callSpecial?_slot (name := Str.ofString "__next__") hit.typeIs slot_listiter_next
    (wpAny_call_entry slot_listiter_next hit.typeIs entry_listiter_next ?_ (args_listiter_next _))))
  show wpAny _ _ (field (.ref it) 0 >>= _) _ _ s
  refine wpAny_bind (wpAny_field ho hd (x := .ref l) rfl ?_)
  show wpAny _ _ (if (Value.ref l == Value.none) = true then _ else _) _ _ s
  rw [if_neg (show ¬ ((Value.ref l == Value.none) = true) from Bool.false_ne_true)]
  show wpAny _ _ (field (.ref it) 1 >>= _) _ _ s
  refine wpAny_bind (wpAny_field ho hd (x := .int i 0) rfl ?_)
  show wpAny _ _ (seqItems? (.ref l) >>= _) _ _ s
  refine wpAny_bind (wpAny_seqItems hol hdl ?_)
  simp only [Int.toNat_natCast, List.getElem?_toArray, hx]
  refine wpAny_bind (wpAny_setField ho hd (by simp) (wpAny_pure ⟨x, rfl, wpAny_pure (hQ _ ?_ (Heap.SameBut.update ..))⟩))
  exact ⟨_, Heap.get?_update_self _ ho (Obj.isFreed_of_fields (Obj.data_mapFields hd _)), (Obj.cls_mapFields ..).trans hc, by
    rw [Obj.data_mapFields hd]; simp [rawInt]⟩
theorem acc_end (hh : A.handled = none) (hit : s.heap.IsListIter it l i) (hol : s.heap.get? l = some o) (hdl : o.data = .seq vs.toArray n) {Q : Option Value → Shared → Prop} (hx : vs[i]? = none)
    (hQ : ∀ h', Heap.ExtBut it s.heap h' → Q none { s with heap := h' }) : wpAny (model prog w) A (pyNext (.ref it)) Q E s := by
  obtain ⟨oi, ho, hc, hd⟩ := id hit
  unfold pyNext
  refine wpAny_bind (wpAny_attempt (wpAny_callSpecial?_slot (name := Str.ofString "__next__") hit.typeIs slot_listiter_next
    (wpAny_call_entry slot_listiter_next hit.typeIs entry_listiter_next ?_ (args_listiter_next _))))
  show wpAny _ _ (field (.ref it) 0 >>= _) _ _ s
  refine wpAny_bind (wpAny_field ho hd (x := .ref l) rfl ?_)
  show wpAny _ _ (if (Value.ref l == Value.none) = true then _ else _) _ _ s
  rw [if_neg (show ¬ ((Value.ref l == Value.none) = true) from Bool.false_ne_true)]
  show wpAny _ _ (field (.ref it) 1 >>= _) _ _ s
  refine wpAny_bind (wpAny_field ho hd (x := .int i 0) rfl ?_)
  show wpAny _ _ (seqItems? (.ref l) >>= _) _ _ s
  refine wpAny_bind (wpAny_seqItems hol hdl ?_)
  simp only [Int.toNat_natCast, List.getElem?_toArray, hx]
  refine wpAny_bind (wpAny_rule (wpAny_bind (wpAny_setField ho hd (by simp) ?_)))
  show wpAny _ _ (newExc (.type "StopIteration") [] >>= _) _ _ _
  refine wpAny_bind ?_
  simp only [newExc, newTuple]
  refine wpAny_bind (wpAny_newObj_type ?_ (by size_fits))
  refine wpAny_bind (m := firstArgMember _ _) (wpAny_of_eq (a := Value.none) (by first | rfl | (simp only [firstArgMember]; rfl)) ?_)
  refine wpAny_newObj_type ?_ (by size_fits)
  simp only [raiseNew]
  refine wpAny_bind (wpAny_handled ?_)
  rw [show A.in1.handled = none from hh]
  refine wpAny_bind (wpAny_pure (wpAny_throw ?_))
  refine wpAny_bind (wpAny_isInstance (T := "StopIteration") (b := true) ⟨_, Heap.get?_push_size _ rfl, rfl⟩ isSubtype_stop ?_)
  exact wpAny_pure (hQ _ (((Heap.SameBut.update ..).extBut.push _).push _))
end

theorem accit (W : Wd) (hp : W.prog = PR) (hK : W.K = KW W.w) : AccIt W where
  iter := fun A s l dx vs n es m Q E X ho hd h => by rw [hp]; exact acc_iter (hK ▸ X) (acc_inst ho hd) h
  next := fun A s it l dx vs n i x Q E hit ho hx h => acc_next hit ho rfl hx h
  fin := fun A s it l dx vs n i Q E hh hit ho hx h => acc_end hh hit ho rfl hx h
theorem accget (W : Wd) (hp : W.prog = PR) (hK : W.K = KW W.w) : AccGet W := by
  intro A s a dx vs n j es m i t x value slice Q E X ho hd h0 hn hlo hhi hj hx h
  rw [hp]
  have X' : (KW W.w).In s.heap := hK ▸ X
  have I := acc_inst ho hd
  have hneq : (Value.ref a) ≠ .builtin "sys.modules#opaque" := fun e => nomatch e
  unfold subscriptTail
  refine wpAny_bind ?_
  rw [getitemInPython_of_ne hneq]
  unfold specialOf
  refine wpAny_bind (wpAny_bind (I.type.here ((looks_findIn X' (find_item W.w)).here ?_)))
  have fin : wpAny (model PR W.w) A (subscripted slice false (.ref a) (.int i t)) (fun r s₃ => wpAny (model PR W.w) A (letTemporaryGo value (.ref a) r >>= fun _ => pure r) Q E s₃) E s := by
    rw [sub_operate hn]
    exact wpAny_operating (acc_get_item X' I h0 hlo hj hx (wpAny_bind (wpAny_letTemporaryGo (wpAny_pure h))))
  first
    | exact wpAny_pure (wpAny_bind fin)
    | exact wpAny_bind (wpAny_pure (wpAny_bind fin))
    | exact wpAny_bind fin
end
end Mine
end

section
open PySem PySem.Spec PySem.Calls PyProof.Rows PySem.W
set_option Elab.async false
set_option maxRecDepth 100000
namespace Mine
noncomputable section
section
variable {prog : Program} {w : World} {M : Model} {A : Around} {E : Value → Shared → Prop} {h : Heap} {g : Array GenState} {d : Drawn} {t : Nat} {os : OsState}
theorem own_len : ".".intercalate ("list.__len__".cutAt '.').dropLast = "list" := by first | decide +kernel | kernel_rfl
theorem own_init : ".".intercalate ("list.__init__".cutAt '.').dropLast = "list" := by first | decide +kernel | kernel_rfl
theorem own_pop : ".".intercalate ("list.pop".cutAt '.').dropLast = "list" := by first | decide +kernel | kernel_rfl
theorem wd_get {x C : Addr} {ox : Obj} {id : String} {Q : Fin → Shared → Prop} (hown : ".".intercalate (id.cutAt '.').dropLast = "list") (hx : h.get? x = some ox) (hxc : ox.cls = .ref C) (hi : Looks M h (isSubtype (.ref C) (.type "list")) true)
    (hq : Q (.done (.ret (.ref h.objs.size))) ⟨h.push { cls := .type "method-wrapper", data := .fields #[.builtin id, .ref x] }, g, d, t, os⟩) :
    wpAny M A (Builtin.«wrapper_descriptor.__get__» ⟨[.builtin id, .ref x, .ref C], []⟩) Q E ⟨h, g, d, t, os⟩ := by
  unfold Builtin.«wrapper_descriptor.__get__»
  repeat (first
    | (with_reducible refine wpAny_loadPart_at hx ?_; rw [hxc])
    | (rw [hown])
    | (with_reducible refine Looks.at hi ?_)
    | wp_step)
  all_goals exact hq
theorem md_get {x C : Addr} {ox : Obj} {id : String} {Q : Fin → Shared → Prop} (hown : ".".intercalate (id.cutAt '.').dropLast = "list") (htold : Manifest.toldItsClass.contains id = false) (hx : h.get? x = some ox) (hxc : ox.cls = .ref C) (hi : Looks M h (isSubtype (.ref C) (.type "list")) true)
    (hq : Q (.done (.ret (.ref h.objs.size))) ⟨h.push { cls := .type "builtin_function_or_method", data := .fields #[.builtin id, .ref x] }, g, d, t, os⟩) :
    wpAny M A (Builtin.«method_descriptor.__get__» ⟨[.builtin id, .ref x, .ref C], []⟩) Q E ⟨h, g, d, t, os⟩ := by
  unfold Builtin.«method_descriptor.__get__»
  repeat (first
    | (rw [htold])
    | (with_reducible refine wpAny_loadPart_at hx ?_; rw [hxc])
    | (rw [hown])
    | (with_reducible refine Looks.at hi ?_)
    | wp_step)
  all_goals exact hq

theorem slot_wd : Slot "wrapper_descriptor" "__get__" "wrapper_descriptor.__get__" :=
  .of (owner := "wrapper_descriptor") (n := "__get__") (by rw [typeLookup_type, builtinLookup_eq_fast]; kernel_rfl) (by decide +kernel) (by decide +kernel) (by decide +kernel)
    (by first | exact .inl (by decide +kernel) | exact .inr (by decide +kernel)) (by rw [isSubtype_type]; kernel_rfl)
theorem slot_md : Slot "method_descriptor" "__get__" "method_descriptor.__get__" :=
  .of (owner := "method_descriptor") (n := "__get__") (by rw [typeLookup_type, builtinLookup_eq_fast]; kernel_rfl) (by decide +kernel) (by decide +kernel) (by decide +kernel)
    (by first | exact .inl (by decide +kernel) | exact .inr (by decide +kernel)) (by rw [isSubtype_type]; kernel_rfl)
theorem entry_wd : entryFor table "wrapper_descriptor.__get__" = some Builtin.«wrapper_descriptor.__get__» := entryFor_of_tree (by kernel_rfl)
theorem entry_md : entryFor table "method_descriptor.__get__" = some Builtin.«method_descriptor.__get__» := entryFor_of_tree (by kernel_rfl)
theorem args_wd (a b c : Value) : argsOk "wrapper_descriptor.__get__" ⟨[a, b, c], []⟩ := by unfold argsOk; kernel_rfl
theorem args_md (a b c : Value) : argsOk "method_descriptor.__get__" ⟨[a, b, c], []⟩ := by unfold argsOk; kernel_rfl

theorem super_ga {so D x C : Addr} {ox : Obj} {id dT gid bT : String} {Bg : Builtin} {l₀ l : List Value} {K : Frag} {name : Str} {tk : Tok} {Q : Fin → Shared → Prop}
    (hso : h.get? so = some { cls := .type "super", dict := none, data := .fields #[.ref D, .ref x, .ref C], slots := #[] }) (hno : Looks (model prog w) h (opaqueClassAbove (.ref C)) none)
    (hC : Looks (model prog w) h (mroOf (.ref C)) l₀) (hl : (l₀.dropWhile (· != .ref D)).drop 1 = l) (X : K.In h)
    (hf : alongIn K name l = some (some (.builtin id))) (hty : typeOf (.builtin id) = pure (.type dT)) (slot : Slot dT "__get__" gid) (entry : entryFor table gid = some Bg) (args : argsOk gid ⟨[.builtin id, .ref x, .ref C], []⟩)
    (hB : wpAny (model prog w) A.in1 (Bg ⟨[.builtin id, .ref x, .ref C], []⟩) (fun fin s' => ∃ v, fin = .done (.ret v) ∧ Q (.done (.ret v)) s') E ⟨h, g, d, t, os⟩) (hxC : x ≠ C) (hn : (name == ("__class__" : Str)) = false) :
    wpAny (model prog w) A (Builtin.«super.__getattribute__» ⟨[.ref so, .str name tk], []⟩) Q E ⟨h, g, d, t, os⟩ := by
  have hlk := slot.lookup
  have hne : (Value.ref x == Value.ref C) = false := by simp [hxC]
  have hdt : ({ cls := .type "super", dict := none, data := .fields #[.ref D, .ref x, .ref C], slots := #[] } : Obj).data = .fields #[.ref D, .ref x, .ref C] := rfl
  have f0 : (#[.ref D, .ref x, .ref C] : Array Value)[0]? = some (.ref D) := rfl
  have f1 : (#[.ref D, .ref x, .ref C] : Array Value)[1]? = some (.ref x) := rfl
  have f2 : (#[.ref D, .ref x, .ref C] : Array Value)[2]? = some (.ref C) := rfl
  have hTf : (⟨h, g, d, t, os⟩ : Shared).TypeIs (.builtin id) dT := hty
  have fin : wpAny (model prog w) A (call (.builtin gid) [.builtin id, if (Value.ref x == Value.ref C) = true then .none else .ref x, .ref C]) (fun v s' => Q (.done (.ret v)) s') E ⟨h, g, d, t, os⟩ := by
    rw [hne, if_neg Bool.false_ne_true]
    exact wpAny_call_entry slot hTf entry hB args
  unfold Builtin.«super.__getattribute__»
  repeat (first
    | (with_reducible refine wpAny_field hso hdt f0 ?_) | (with_reducible refine wpAny_field hso hdt f1 ?_) | (with_reducible refine wpAny_field hso hdt f2 ?_)
    | (with_reducible refine ks_wpAny_notOpaque hno ?_)
    | (with_reducible refine Looks.at hC ?_; rw [hl])
    | (refine ks_forIn_along X (fun _ _ => rfl) rfl ?_ hf)
    | (with_reducible refine wpAny_typeOf hTf ?_)
    | (with_reducible refine wpAny_mono fin (fun v s' hv => ?_) fun _ _ z => z)
    | (with_reducible refine ⟨_, rfl, ?_⟩)
    | (simp only [hn, Bool.or_false, Bool.false_eq_true, if_false])
    | wp_step
    | dsimp only)
  all_goals first | assumption | trace_state
end
end
end Mine
end

section
open PySem PySem.Spec PySem.Calls PyProof.Rows PySem.W
set_option Elab.async false
set_option maxRecDepth 100000
namespace Mine
noncomputable section
section
variable {prog : Program} {w : World} {M : Model} {A : Around} {E : Value → Shared → Prop} {h : Heap} {g : Array GenState} {d : Drawn} {t : Nat} {os : OsState}

/-- a bound built-in -/
noncomputable def bnd (bT id : String) (x : Addr) : Obj := { cls := .type bT, data := .fields #[.builtin id, .ref x] }
theorem super_meth {so D x C : Addr} {id dT gid bT : String} {Bg : Builtin} {l₀ l : List Value} {K : Frag} {name : Str} {pl : Sem Bool} {Q : Value × List Value → Shared → Prop}
    (hso : h.get? so = some { cls := .type "super", dict := none, data := .fields #[.ref D, .ref x, .ref C], slots := #[] }) (hno : Looks (model prog w) h (opaqueClassAbove (.ref C)) none)
    (hC : Looks (model prog w) h (mroOf (.ref C)) l₀) (hl : (l₀.dropWhile (· != .ref D)).drop 1 = l) (X : K.In h)
    (hf : alongIn K name l = some (some (.builtin id))) (hty : typeOf (.builtin id) = pure (.type dT)) (slot : Slot dT "__get__" gid) (entry : entryFor table gid = some Bg) (args : argsOk gid ⟨[.builtin id, .ref x, .ref C], []⟩)
    (hB : ∀ (Q : Fin → Shared → Prop) (E : Value → Shared → Prop) (t' : Nat), Q (.done (.ret (.ref h.objs.size))) ⟨h.push (bnd bT id x), g, d, t', os⟩ → wpAny (model prog w) A.in1.in1 (Bg ⟨[.builtin id, .ref x, .ref C], []⟩) Q E ⟨h, g, d, t', os⟩) (hxC : x ≠ C) (hn : (name == ("__class__" : Str)) = false)
    (hq : Q (.ref h.objs.size, []) ⟨h.push (bnd bT id x), g, d, t + 1, os⟩) : wpAny (model prog w) A (getMethod (.ref so) name pl) Q E ⟨h, g, d, t, os⟩ := by
  have hlk := F.ks_slot_super_ga.lookup
  have hcan := F.ks_canon_super_ga
  have hT : ∀ t', (⟨h, g, d, t', os⟩ : Shared).TypeIs (.ref so) "super" := fun _ => ⟨_, hso, rfl⟩
  unfold getMethod
  refine wpAny_bind (wpAny_specialOf (hT _) hlk ?_)
  show wpAny _ _ (if (Manifest.canonical "super.__getattribute__" != "object.__getattribute__") = true then _ else _) _ _ _
  rw [if_pos hcan]
  unfold getAttr getAttrBy
  refine wpAny_bind (wpAny_bind (wpAny_mkText (wpAny_holding (wpAny_bind (wpAny_typeOf (hT _) (wpAny_bind (wpAny_of_eq hlk ?_)))))))
  show wpAny _ _ (getAttrByItsOwn (.ref so) (.str name t) (.type "super") (.builtin "super.__getattribute__") true false) _ _ _
  unfold getAttrByItsOwn hookBefore callGetattribute boundAndCalled
  refine wpAny_bind (wpAny_of_eq (show (if onTheHeap (.type "super") then typeLookup (.type "super") "__getattr__" else pure none) = pure none from rfl) ?_)
  refine wpAny_bind (wpAny_attempt (wpAny_holding ?_))
  show wpAny _ _ (bindSpecial (.builtin "super.__getattribute__") (.ref so) >>= _) _ _ _
  refine wpAny_bind (wpAny_of_eq (F.ks_slot_super_ga.bind _) ?_)
  refine wpAny_mono (Q := fun v s' => v = .ref h.objs.size ∧ s' = ⟨h.push (bnd bT id x), g, d, t + 1, os⟩) (E := fun _ _ => False)
    (wpAny_call_entry F.ks_slot_super_ga (hT _) F.ks_entry_super_ga (super_ga (ox := default) (bT := bT) hso hno hC hl X hf hty slot entry args (hB _ _ _ ⟨_, rfl, _, rfl, rfl, rfl⟩) hxC hn) (F.ks_gaArgs_super _ _)) (fun v s' hv => ?_) fun _ _ z => z.elim
  obtain ⟨rfl, rfl⟩ := hv
  exact wpAny_pure (wpAny_pure hq)
end

section
variable {prog : Program} {w : World} {A : Around} {E : Value → Shared → Prop} {s : Shared}
/-- a call of a bound built-in, no arguments -/
theorem callWith_bnd {pos : Pos} {env : Env} {b x : Addr} {bT id : String} {B : Builtin} {Q : Value → Shared → Prop} (hbT : bT = "method-wrapper" ∨ bT = "builtin_function_or_method") (hb : s.heap.get? b = some (bnd bT id x)) (hp : plainId id = true) (entry : entryFor table id = some B)
    (hchk : wpAny (model prog w) A.in1 (checkBoundCall id ⟨[.ref x], []⟩) (fun _ s' => s' = s) E s)
    (hc : wpAny (model prog w) A.in1 (B ⟨[.ref x], []⟩) (fun fin s' => ∃ v, fin = .done (.ret v) ∧ Q v s') E s) : wpAny (model prog w) A (callWith pos (.ref b) [] (backTo pos (starEach [] env)) []) Q E s := by
  refine callWith_of (P := fun h => h.get? b = some (bnd bT id x)) rfl (fun h hh => ⟨.machine, .inr (.inl rfl), ?_⟩) (evalArgs_nil3 ⟨hb, ?_⟩)
  · intro A Q E s k q
    unfold keeperOf
    refine wpAny_bind (wpAny_load (k _ _ hh) ?_)
    rcases hbT with rfl | rfl <;> exact wpAny_pure q
  · refine wpAny_call (codeAny_of_tree ?_)
    show wpAny _ A.in1 (callAny (.ref b) ⟨[], []⟩) _ _ _
    unfold callAny
    refine wpAny_bind (wpAny_load hb ?_)
    have key : wpAny (model prog w) A.in1 (checkBoundCall id ⟨[.ref x], []⟩ >>= fun _ => (again (.builtin id ⟨[.ref x], []⟩) : Sem Fin)) (fun fin s' => match fin with
        | .done f => (match f with | .ret v => Q v s' | _ => False)
        | .again c' => c'.quiet = true ∧ codeAny (model prog w) A c' (fun r s' => match r with | .ok (.ret v) => Q v s' | .ok _ => False | .error e => E e s') s') E s := by
      refine wpAny_bind (wpAny_mono hchk (fun _ s' hs => ?_) fun _ _ z => z)
      subst hs
      refine wpAny_pure ⟨plainId_quiet hp _, codeAny_builtin entry ?_⟩
      rw [Around.under_plainId hp _]
      refine wpAny_mono hc (fun fin s' hf => ?_) fun _ _ z => z
      obtain ⟨v, rfl, hv⟩ := hf
      exact hv
    have hcls : (Value.type bT == Value.type "method" || Value.type bT == Value.type "builtin_function_or_method" || Value.type bT == Value.type "method-wrapper") = true ∧ (Value.type bT != Value.type "method") = true := by
      rcases hbT with rfl | rfl <;> exact ⟨by decide, by decide⟩
    show wpAny _ _ (if (Value.type bT == Value.type "method" || Value.type bT == Value.type "builtin_function_or_method" || Value.type bT == Value.type "method-wrapper") = true then
      (if (Value.type bT != Value.type "method") = true then (checkBoundCall id ⟨[.ref x], []⟩ >>= fun _ => (again (.builtin id ⟨[.ref x], []⟩) : Sem Fin)) else _) else _) _ _ _
    rw [if_pos hcls.1, if_pos hcls.2]
    refine wpAny_mono key (fun fin s' hf => ?_) fun _ _ z => z
    cases fin with
    | done f => cases f <;> exact hf
    | again c' => exact hf
end
end
end Mine
end

section
open PySem PySem.Spec PySem.Calls PyProof.Rows PySem.W
set_option Elab.async false
set_option maxRecDepth 100000
namespace Mine
noncomputable section
structure SupFacts (w : World) (f : Addr) : Prop where
  sup : (fdAt f).scope.names.lookup ("super" : Str) = some .globalImplicit
  cls : (fdAt f).scope.names.lookup ("__class__" : Str) = some .free
  slf : (fdAt f).scope.names.lookup ("self" : Str) = some .local
  kind : (fdAt f).scope.kind = .function
  obj : (KW w).lookup f = some (objAt f)
  data : (objAt f).data = .func (fdAt f)
  head : ∃ ar, ((fdAt f).params.posonlyargs ++ (fdAt f).params.args).head? = some ar ∧ ar.arg = ("self" : Str)
  clo : (fdAt f).closure.lookup ("__class__" : Str) = some 46
  code : ∃ cc oc vs file tf, (fdAt f).code = .ref cc ∧ (KW w).lookup cc = some oc ∧ oc.data = .fields vs ∧ vs[2]? = some (.str file tf) ∧ ((PR.main.file : Str) == file) = true
  gl : (fdAt f).globals = mainGlobals
  bl : (fdAt f).builtins = builtinsNs
theorem topSuper : (PR.main.scope.names.lookup ("super" : Str)).isSome = false := by kernel_rfl
theorem cell46 (w : World) : ∃ o, (KW w).lookup 46 = some o ∧ o.data = .cell (some (.ref 122)) := ⟨objAt 46, by kernel_rfl, by kernel_rfl⟩
theorem cls122 (w : World) : ∃ o cd, (KW w).lookup 122 = some o ∧ o.data = .cls cd := by
  have e : (clsIn (KW w) 122).isSome = true := by kernel_rfl
  obtain ⟨cd, hc⟩ := Option.isSome_iff_exists.mp e
  unfold clsIn at hc
  split at hc
  · rename_i hl
    exact ⟨_, _, hl, rfl⟩
  · first | exact no hc | cases hc

section
variable {w : World} {A : Around} {E : Value → Shared → Prop} {h : Heap} {g : Array GenState} {d : Drawn} {t : Nat} {os : OsState} {mg mb : Str → Option Value} {m : Str → Option Value}
theorem super_base {f L x : Addr} {body : List Stmt} {p0 p1 : Pos} {attr : Str} {whole : Sem Value} {ox : Obj} (F : SupFacts w f) (X : (KW w).In h) (hL : h.Ns L m) (hself : m ("self" : Str) = some (.ref x)) (hg : h.Ns mainGlobals mg) (hmg : mg "super" = none) (hb : h.Ns builtinsNs mb) (hmb : mb "super" = some (.type "super"))
    (hx : h.get? x = some ox) (hxc : ox.cls = .ref 122) (hnc : ∀ c, ox.data ≠ .cls c) (hsub : Looks (model PR w) h (isSubtype (.ref 122) (.ref 122)) true) (hat : (attr == ("__class__" : Str)) = false) {Q : Value → Shared → Prop}
    (hq : ∀ h', h'.get? h.objs.size = some { cls := .type "super", dict := none, data := .fields #[.ref 122, .ref x, .ref 122], slots := #[] } → (∀ y o, h.get? y = some o → h'.get? y = some o) → Q (.ref h.objs.size) ⟨h', g, d, t, os⟩) :
    PySem.wpAt (model PR w) A (.func body (callEnv (fdAt f) L f)) (attributeBase (.Call (.Name "super" p0) [] [] p1) attr (callEnv (fdAt f) L f) whole) Q E ⟨h, g, d, t, os⟩ := by
  obtain ⟨ar, ha1, ha2⟩ := F.head
  obtain ⟨cc, oc, vs, file, tf, c1, c2, c3, c4, c5⟩ := F.code
  obtain ⟨oD, cd, hD, hDd⟩ := cls122 w
  obtain ⟨o46, h46, d46⟩ := cell46 w
  refine ks_wpAt_super_base (f := f) (of := objAt f) (fd := fdAt f) (ar := ar) (cc := cc) (oc := oc) (vs := vs) (file := file) (tf := tf) F.sup F.cls hat rfl (X _ _ F.obj) F.data ha1 c1 (X _ _ c2) c3 c4 c5 topSuper ?_
  rw [loadName_read (env := callEnv (fdAt f) L f) F.kind F.sup]
  refine loadGlobal_builtin (mg := mg) (mb := mb) (by show h.Ns (fdAt f).globals mg; rw [F.gl]; exact hg) hmg (by show h.Ns (fdAt f).builtins mb; rw [F.bl]; exact hb) hmb ⟨rfl, ?_⟩
  refine wpAny_loadName_free (env := callEnv (fdAt f) L f) F.kind F.cls F.clo ⟨o46, X _ _ h46, d46⟩ ?_ (by decide +kernel)
  rw [ha2]
  refine wpAny_loadName_local (env := callEnv (fdAt f) L f) F.kind F.slf hL hself ?_
  refine ks_wpAny_isType_cls (X _ _ hD) hDd ⟨rfl, ?_⟩
  exact ks_wpAny_call_super (X _ _ hD) hDd hx hxc hnc hsub hq
end
end
end Mine
end

section
open PySem PySem.Spec PySem.Calls PyProof.Rows PySem.W
set_option Elab.async false
set_option maxRecDepth 100000
namespace Mine
noncomputable section
section
variable {prog : Program} {w : World} {A : Around} {E : Value → Shared → Prop} {s : Shared} {env : Env}
theorem meth_at {c : Code} {o : Expr} {name : Str} {apos pos : Pos} (hline : (apos.endLine == pos.line) = true) {Q : Value → Shared → Prop}
    (h : PySem.wpAt (model prog w) A c (attributeBase o name env (eval o env)) (fun ov s₁ => ∀ pl, wpAny (model prog w) A (getMethod ov name pl) (fun fx s₂ => wpAny (model prog w) A (callWith pos fx.1 fx.2 (backTo pos (starEach [] env)) []) Q E s₂) E s₁) E s) :
    PySem.wpAt (model prog w) A c (eval (.Call (.Attribute o name apos) [] [] pos) env) Q E s := by
  rw [arm_eval_Call]
  refine PySem.wpAt_bind (ks_wpAt_mono h (fun ov s₁ h₁ => PySem.wpAt_of_wpAny (wpAny_bind (wpAny_standAt ?_))) fun _ _ e => e)
  have hform : methodCallForm (([] : List Expr).length + ([] : List Keyword).length) (backTo pos (starEach [] env)) (backToKw pos (keywordEach [] env)) = true := rfl
  have hpos : methodCallPos true o env apos pos = pure pos := by unfold methodCallPos; simp [hline]
  unfold methodCall
  rw [hform]
  refine wpAny_bind (wpAny_holding (wpAny_mono (h₁ _) (fun fx s₂ h₂ => ?_) fun _ _ e => e))
  obtain ⟨f, first⟩ := fx
  exact wpAny_bind (wpAny_of_eq hpos h₂)
/-- the built-in bodies on the subclass -/
theorem len_body {l dx : Addr} {C : Value} {vs : List Value} {n : Nat} {sl : Array (Option Value)} (ho : s.heap.get? l = some ⟨C, some dx, .seq vs.toArray n, sl⟩) {Q : Value → Shared → Prop} (h : Q (.int vs.length s.toks) { s with toks := s.toks + 1 }) :
    wpAny (model prog w) A (Builtin.«list.__len__» ⟨[.ref l], []⟩) (fun fin s' => ∃ v, fin = .done (.ret v) ∧ Q v s') E s := by
  show wpAny _ _ (do retInt (← seqSize l)) _ _ s
  unfold seqSize
  refine wpAny_bind (wpAny_bind (wpAny_load ho ?_))
  refine wpAny_pure (wpAny_bind (wpAny_mkInt (wpAny_pure ⟨_, rfl, ?_⟩)))
  rw [List.size_toArray]
  exact h
theorem init_body {l dx : Addr} {C : Value} {n : Nat} {sl : Array (Option Value)} (ho : s.heap.get? l = some ⟨C, some dx, .seq #[] n, sl⟩) {Q : Value → Shared → Prop}
    (h : ∀ h' n', h'.get? l = some ⟨C, some dx, .seq #[] n', sl⟩ → Heap.SameBut l s.heap h' → Q .none { s with heap := h' }) :
    wpAny (model prog w) A (Builtin.«list.__init__» ⟨[.ref l], []⟩) (fun fin s' => ∃ v, fin = .done (.ret v) ∧ Q v s') E s := by
  obtain ⟨hp, g, d, tk, os⟩ := s
  have ho' : hp.get? l = some ⟨C, some dx, .seq #[] n, sl⟩ := ho
  have hz1 : (#[] : Array Value).size ≤ sizeLine := by decide
  have hz2 : (#[] : Array Value).size ≤ sizeLine + 1 := by decide
  wp_walk using PySem.AutoSeq1.wpAny_loadPart' ho', (wpAny_updateSeq (f := fun _ => #[]) ho' rfl (hz := hz1) (_hz' := hz2))
  exact ⟨_, rfl, h _ _ (Heap.get?_update_self _ ho' (Obj.isFreed_of_seq (by rfl))) (Heap.SameBut.update ..)⟩
theorem pop_body {l dx : Addr} {C : Value} {vs : List Value} {y : Value} {n : Nat} {sl : Array (Option Value)} (ho : s.heap.get? l = some ⟨C, some dx, .seq (vs ++ [y]).toArray n, sl⟩) (hz : vs.length ≤ 1000) {Q : Value → Shared → Prop}
    (h : ∀ h', h'.get? l = some ⟨C, some dx, .seq vs.toArray (n + 1), sl⟩ → Heap.SameBut l s.heap h' → Q y { s with heap := h' }) :
    wpAny (model prog w) A (Builtin.«list.pop» ⟨[.ref l], []⟩) (fun fin s' => ∃ v, fin = .done (.ret v) ∧ Q v s') E s := by
  obtain ⟨hp, g, d, tk, os⟩ := s
  generalize hit : (vs ++ [y]).toArray = items at ho
  have hsz : items.size = vs.length + 1 := by rw [← hit, List.size_toArray, List.length_append]; rfl
  have hs1 : items.size ≤ sizeLine := by rw [hsz]; exact Nat.le_trans (Nat.add_le_add_right hz 1) (by decide)
  have hl : hp.get? l = some ⟨C, some dx, .seq items n, sl⟩ := ho
  have hy : items[items.size - 1]? = some y := by rw [hsz, ← hit]; simp
  have hne : ¬ items.isEmpty = true := by
    intro he; have : items.size = 0 := by simpa using he
    omega
  have hk : seqIndex? (-1) items.size = some (items.size - 1) := by
    rw [seqIndex_neg (by omega) (by omega)]; congr 1; omega
  wp_walk using PySem.AutoSeq1.wpAny_loadPart' hl
  simp only [hk, hy, Option.bind_some, Option.map_some]
  have hz' : (items.eraseIdxIfInBounds (items.size - 1)).size ≤ sizeLine + 1 := by
    rw [← hit, show (vs ++ [y]).toArray.size - 1 = vs.length by simp, kl_erase, List.append_nil, List.size_toArray]
    exact Nat.le_trans hz (by decide)
  wp_walk using (wpAny_updateSeq hl rfl (hz := hs1) (_hz' := hz')), PySem.AutoSeq1.wpAny_loadPart' hl
  refine ⟨_, rfl, h _ ?_ (Heap.SameBut.update ..)⟩
  rw [Heap.get?_update_self _ hl (Obj.isFreed_of_seq (by rfl))]
  have e : items.eraseIdxIfInBounds (items.size - 1) = vs.toArray := by
    rw [← hit, show (vs ++ [y]).toArray.size - 1 = vs.length by simp, kl_erase, List.append_nil]
  simp only [Obj.mapSeq, e]
  rw [hsz]
  simp
end
end
end Mine
end

section
open PySem PySem.Spec PySem.Calls PyProof.Rows PySem.W
set_option Elab.async false
set_option maxRecDepth 100000
namespace Mine
noncomputable section
theorem any_none (w : World) : nsIn (KW w) cStatics "thirdparty.any" = some none := by kernel_rfl
theorem mro122 (w : World) : (clsIn (KW w) 122).map (·.mro) = some [.ref 122, .type "list", .type "object"] := by kernel_rfl
theorem subself (w : World) : subIn (KW w) (.ref 122) (.ref 122) = some true := by kernel_rfl
structure BMeth (w : World) (name : Str) (id : String) (B : Builtin) : Prop where
  along : alongIn (KW w) name [.type "list", .type "object"] = some (some (.builtin id))
  nm : (name == ("__class__" : Str)) = false
  kind : (typeOf (.builtin id) = pure (.type "wrapper_descriptor")) ∨ (typeOf (.builtin id) = pure (.type "method_descriptor") ∧ Manifest.toldItsClass.contains id = false)
  own : ".".intercalate (id.cutAt '.').dropLast = "list"
  plain : plainId id = true
  entry : entryFor table id = some B
theorem bm_len (w : World) : BMeth w "__len__" "list.__len__" Builtin.«list.__len__» := ⟨by kernel_rfl, by decide +kernel, .inl (by show builtinType _ = _; rw [builtinType_eq_fast]; kernel_rfl), own_len, by decide +kernel, entry_list_len⟩
theorem bm_init (w : World) : BMeth w "__init__" "list.__init__" Builtin.«list.__init__» := ⟨by kernel_rfl, by decide +kernel, .inl (by show builtinType _ = _; rw [builtinType_eq_fast]; kernel_rfl), own_init, by decide +kernel, entryFor_of_tree (by kernel_rfl)⟩
theorem bm_pop (w : World) : BMeth w "pop" "list.pop" Builtin.«list.pop» := ⟨by kernel_rfl, by decide +kernel, .inr ⟨by show builtinType _ = _; rw [builtinType_eq_fast]; kernel_rfl, by decide +kernel⟩, own_pop, by decide +kernel, PySem.F.entry_list_pop⟩

section
variable {w : World} {A : Around} {E : Value → Shared → Prop} {h : Heap} {g : Array GenState} {d : Drawn} {t : Nat} {os : OsState} {mg mb : Str → Option Value} {m : Str → Option Value}
theorem super_call {f L x dx : Addr} {body : List Stmt} {p0 p1 p2 p3 : Pos} {name : Str} {id : String} {B : Builtin} {vs : List Value} {n : Nat} {sl : Array (Option Value)} (F : SupFacts w f) (BM : BMeth w name id B) (X : (KW w).In h) (hL : h.Ns L m) (hself : m ("self" : Str) = some (.ref x))
    (hg : h.Ns mainGlobals mg) (hmg : mg "super" = none) (hb : h.Ns builtinsNs mb) (hmb : mb "super" = some (.type "super")) (hx : h.get? x = some ⟨.ref 122, some dx, .seq vs.toArray n, sl⟩) (hx122 : x ≠ 122) (hline : (p2.endLine == p3.line) = true) {Q : Value → Shared → Prop}
    (hchk : ∀ h₂ t₂, (∀ b o, h.get? b = some o → h₂.get? b = some o) → wpAny (model PR w) A.in1 (checkBoundCall id ⟨[.ref x], []⟩) (fun _ s' => s' = ⟨h₂, g, d, t₂, os⟩) E ⟨h₂, g, d, t₂, os⟩)
    (hbody : ∀ h₂ t₂, (∀ b o, h.get? b = some o → h₂.get? b = some o) → wpAny (model PR w) A.in1 (B ⟨[.ref x], []⟩) (fun fin s' => ∃ v, fin = .done (.ret v) ∧ Q v s') E ⟨h₂, g, d, t₂, os⟩) :
    PySem.wpAt (model PR w) A (.func body (callEnv (fdAt f) L f)) (eval (.Call (.Attribute (.Call (.Name "super" p0) [] [] p1) name p2) [] [] p3) (callEnv (fdAt f) L f)) Q E ⟨h, g, d, t, os⟩ := by
  refine meth_at hline (super_base F X hL hself hg hmg hb hmb hx rfl (fun c e => by cases e) (looks_subIn X (subself w)) BM.nm fun h₁ hso k₁ pl => ?_)
  have X₁ : (KW w).In h₁ := fun a o e => k₁ a o (X a o e)
  have hx₁ := k₁ _ _ hx
  obtain ⟨cd, hc, hm⟩ := Option.map_eq_some_iff.mp (mro122 w)
  have hC : Looks (model PR w) h₁ (mroOf (.ref 122)) cd.mro := fun A Q E s k q => wpAny_bind ((looks_clsIn X₁ hc) A _ E s k (wpAny_pure q))
  have hl : (cd.mro.dropWhile (· != .ref 122)).drop 1 = [.type "list", .type "object"] := by
    rw [hm]
    rfl
  have up : ∀ (o : Obj) b ob, h.get? b = some ob → (h₁.push o).get? b = some ob := fun o b ob e => Heap.get?_push_of_some _ (k₁ b ob e)
  rcases BM.kind with hk | ⟨hk, htold⟩
  · refine super_meth (bT := "method-wrapper") hso (looks_opaque X₁ (any_none w)) hC hl X₁ BM.along hk slot_wd entry_wd (args_wd _ _ _) (fun Q E t' hq => wd_get BM.own hx₁ rfl (looks_subIn X₁ (sub122 w)) hq) hx122 BM.nm ?_
    refine callWith_bnd (.inl rfl) (Heap.get?_push_at rfl rfl) BM.plain BM.entry (hchk _ _ (up _)) (hbody _ _ (up _))
  · refine super_meth (bT := "builtin_function_or_method") hso (looks_opaque X₁ (any_none w)) hC hl X₁ BM.along hk slot_md entry_md (args_md _ _ _) (fun Q E t' hq => md_get BM.own htold hx₁ rfl (looks_subIn X₁ (sub122 w)) hq) hx122 BM.nm ?_
    refine callWith_bnd (.inr rfl) (Heap.get?_push_at rfl rfl) BM.plain BM.entry (hchk _ _ (up _)) (hbody _ _ (up _))

theorem chk_slot {x : Addr} {id : String} {s : Shared} (hk : builtinKind id = some .slot) (ha : argsOk id ⟨[.ref x], []⟩) : wpAny (model PR w) A (checkBoundCall id ⟨[.ref x], []⟩) (fun _ s' => s' = s) E s := by
  unfold checkBoundCall
  cases hsig : Manifest.signature? id with
  | none => exact wpAny_pure rfl
  | some sig =>
    simp only [argsOk, hsig] at ha
    have h2 : Bind.checkArgs id sig ⟨[.ref x], []⟩ = pure () := ha
    simp only [hk]
    rw [if_pos (by decide), h2]
    exact wpAny_pure rfl

theorem type122 (w : World) : typeIn (KW w) (.ref 122) = some (.type "type") := by kernel_rfl
theorem submod (w : World) : subIn (KW w) (.ref 122) (.type "module") = some false := by kernel_rfl
theorem popkind : builtinKind "list.pop" = some .method := by decide +kernel
theorem popvar : Manifest.varargsMethods.contains "list.pop" = false := by decide +kernel
theorem qual122 (w : World) : ((clsIn (KW w) 122).map fun cd => cd.qualname) = some (Str.ofString "_Accumulator") := by kernel_rfl
theorem pop_full : (toString (Str.ofString "_Accumulator").toString ++ toString "." ++ toString (Bind.lastOf "list.pop") == "*") = false := by decide +kernel
theorem pop_args (full : String) (hf : (full == "*") = false) (a : Value) : (match Manifest.signature? "list.pop" with | some sig => Bind.checkArgs "list.pop" { sig with full := full } ⟨[a], []⟩ | none => pure ()) = pure () := by
  rw [signature?_of (id := "list.pop") (n := ['p', 'o', 'p']) (o := ['t', 's', 'i', 'l']) (by kernel_rfl) PySem.F.owner_list]
  have hf' : (full != "*") = true := by rw [bne, hf]; rfl
  simp only [Bind.checkArgs, Bind.printed, hf, hf', if_true]
  kernel_rfl
theorem chk_pop {x dx : Addr} {vs : List Value} {n : Nat} {sl : Array (Option Value)} {s : Shared} (X : (KW w).In s.heap) (hx : s.heap.get? x = some ⟨.ref 122, some dx, .seq vs.toArray n, sl⟩) :
    wpAny (model PR w) A (checkBoundCall "list.pop" ⟨[.ref x], []⟩) (fun _ s' => s' = s) E s := by
  obtain ⟨hp, g, d, t, os⟩ := s
  obtain ⟨cd, hc, _⟩ := Option.map_eq_some_iff.mp (mro122 w)
  have hi : Looks (model PR w) hp (isInstance (.ref x) (.type "module")) false := by
    intro A Q E s k q
    unfold isInstance
    refine wpAny_bind ?_
    exact wpAny_typeOf_ref (k _ _ hx) (looks_subIn (fun a o e => k _ _ (X a o e)) (submod w) A Q E s (fun _ _ e => e) q)
  unfold checkBoundCall
  cases hsig : Manifest.signature? "list.pop" with
  | none => exact wpAny_pure rfl
  | some sig =>
    simp only [popkind]
    rw [if_neg (by decide)]
    refine wpAny_bind (Looks.at hi ?_)
    rw [if_neg (by rw [popvar]; decide)]
    refine wpAny_bind (ks_wpAny_isType_inst hx (fun c e => by cases e) ?_)
    rw [if_neg Bool.false_ne_true]
    refine wpAny_bind (wpAny_typeOf_ref hx ?_)
    dsimp only
    refine wpAny_bind (Looks.at (looks_clsIn X hc) ?_)
    refine wpAny_bind (Looks.at (looks_typeIn X (type122 w)) ?_)
    rw [if_pos (by decide)]
    have hq : cd.qualname = Str.ofString "_Accumulator" := by
      have := qual122 w
      rw [hc] at this
      exact Option.some.inj this
    rw [hq]
    have h2 := pop_args (toString (Str.ofString "_Accumulator").toString ++ toString "." ++ toString (Bind.lastOf "list.pop")) pop_full (.ref x)
    rw [hsig] at h2
    dsimp only at h2
    first
      | exact wpAny_of_eq h2 rfl
      | (refine wpAny_of_eq (a := ()) ?_ rfl; simpa using h2)
end
end
end Mine
end

section
open PySem PySem.Spec PySem.Calls PyProof.Rows PySem.W
set_option Elab.async false
set_option maxRecDepth 100000
namespace Mine
noncomputable section
theorem fb66 (w : World) : fiB (KW w) 66 = true := by kernel_rfl
theorem fb82 (w : World) : fiB (KW w) 82 = true := by kernel_rfl
theorem fb119 (w : World) : fiB (KW w) 119 = true := by kernel_rfl
theorem fo66 (w : World) : (KW w).lookup 66 = some (objAt 66) := by kernel_rfl
theorem fo82 (w : World) : (KW w).lookup 82 = some (objAt 82) := by kernel_rfl
theorem fo119 (w : World) : (KW w).lookup 119 = some (objAt 119) := by kernel_rfl
theorem fo59 (w : World) : (KW w).lookup 59 = some (objAt 59) := by kernel_rfl
theorem fi66 (W : Wd) (hK : W.K = KW W.w) : FiOk W 66 (fiAt 66) := fi_ok ⟨objAt 66, by rw [hK]; exact fo66 _, by kernel_rfl⟩ (by kernel_rfl) (by rw [hK]; exact fb66 _) (fbind3 (by kernel_rfl) fun x y z => by kernel_rfl)
theorem fi82 (W : Wd) (hK : W.K = KW W.w) : FiOk W 82 (fiAt 82) := fi_ok ⟨objAt 82, by rw [hK]; exact fo82 _, by kernel_rfl⟩ (by kernel_rfl) (by rw [hK]; exact fb82 _) (fbind1 (by kernel_rfl) fun x => by kernel_rfl)
theorem fi119 (W : Wd) (hK : W.K = KW W.w) : FiOk W 119 (fiAt 119) := fi_ok ⟨objAt 119, by rw [hK]; exact fo119 _, by kernel_rfl⟩ (by kernel_rfl) (by rw [hK]; exact fb119 _) (fbind1 (by kernel_rfl) fun x => by kernel_rfl)
noncomputable def codeAt (a : Addr) : Addr := match (fdAt a).code with | .ref c => c | _ => 0
noncomputable def filed (a : Addr) : Bool := match (objAt (codeAt a)).data with
  | .fields vs => (match vs[2]? with | some (Value.str f _) => (PR.main.file : Str) == f | _ => false)
  | _ => false
theorem supfacts {w : World} {f : Addr} (h1 : ((fdAt f).scope.names.lookup ("super" : Str) == some .globalImplicit && (fdAt f).scope.names.lookup ("__class__" : Str) == some .free && (fdAt f).scope.names.lookup ("self" : Str) == some .local && (fdAt f).scope.kind == .function) = true)
    (h2 : (KW w).lookup f = some (objAt f)) (h3 : (objAt f).data = .func (fdAt f)) (h4 : (((fdAt f).params.posonlyargs ++ (fdAt f).params.args).head?.map (·.arg)) = some ("self" : Str)) (h5 : (fdAt f).closure.lookup ("__class__" : Str) = some 46)
    (h6 : (fdAt f).code = .ref (codeAt f)) (h7 : (KW w).lookup (codeAt f) = some (objAt (codeAt f))) (h8 : filed f = true) (h9 : (fdAt f).globals = mainGlobals) (h10 : (fdAt f).builtins = builtinsNs) : SupFacts w f := by
  rw [Bool.and_eq_true, Bool.and_eq_true, Bool.and_eq_true, beq_iff_eq, beq_iff_eq, beq_iff_eq, beq_iff_eq] at h1
  obtain ⟨ar, ha, hb⟩ := Option.map_eq_some_iff.mp h4
  refine ⟨h1.1.1.1, h1.1.1.2, h1.1.2, h1.2, h2, h3, ⟨ar, ha, hb⟩, h5, ?_, h9, h10⟩
  unfold filed at h8
  split at h8
  · rename_i vs hd
    split at h8
    · rename_i fl tf hv
      exact ⟨_, _, vs, fl, tf, h6, h7, hd, hv, h8⟩
    · first | exact no h8 | cases h8
  · first | exact no h8 | cases h8
theorem sf119 (w : World) : SupFacts w 119 := supfacts (by kernel_rfl) (fo119 w) (by kernel_rfl) (by kernel_rfl) (by kernel_rfl) (by kernel_rfl) (by kernel_rfl) (by kernel_rfl) (by kernel_rfl) (by kernel_rfl)
theorem sf82 (w : World) : SupFacts w 82 := supfacts (by kernel_rfl) (fo82 w) (by kernel_rfl) (by kernel_rfl) (by kernel_rfl) (by kernel_rfl) (by kernel_rfl) (by kernel_rfl) (by kernel_rfl) (by kernel_rfl)
theorem sf59 (w : World) : SupFacts w 59 := supfacts (by kernel_rfl) (fo59 w) (by kernel_rfl) (by kernel_rfl) (by kernel_rfl) (by kernel_rfl) (by kernel_rfl) (by kernel_rfl) (by kernel_rfl) (by kernel_rfl)

section
variable {W : Wd} {h₀ : Heap} {k : Nat} {c : Ctx} {A : Around} {env : Env} {ρ ρ' : Nat → Addr} {σ σ' : St} {s s' : Shared} {E : Value → Shared → Prop}
/-- a call of a function of the text: its frame -/
theorem enter {f : Addr} {fi : FI} (F : FiOk W f fi) (hd : A.depth < recursionLimit) (X : W.K.In s.heap) (hlim : s.heap.NoLimit) {vs : List Value} (hlen : vs.length = fi.names.length) {R : Result → Shared → Prop}
    (h : ∀ h₁, h₁.Ns s.heap.objs.size (fun x => (fi.names.zip vs).reverse.lookup x) → (∀ b o, s.heap.get? b = some o → h₁.get? b = some o) → ∀ E' : Value → Shared → Prop,
      PySem.wpAt (model W.prog W.w) (A.deeper (callEnv fi.fd s.heap.objs.size f)) (.func fi.body (callEnv fi.fd s.heap.objs.size f)) (execs fi.body (callEnv fi.fd s.heap.objs.size f))
        (fun fl s' => R (.ok (.ret (match fl with | .ret v => v | _ => .none))) s') E' { s with heap := h₁, toks := s.toks + (fi.names.zip vs).length }) :
    codeAny (model W.prog W.w) A (.call (.ref f) ⟨vs, []⟩) R s := by
  obtain ⟨o, hKo, hdata⟩ := F.obj
  exact ks_codeAny_call_defAt hd (X _ _ hKo) hdata hlim (F.code _ X) F.body (.of_eq (F.bind vs hlen)) F.nocell (fun p hp => F.loc p.1 (List.of_mem_zip hp).1) (fun h₁ hns hk => h h₁ hns hk _) F.co F.gen F.kind
theorem Gd.lim (G : Gd W h₀ k c A env ρ σ s) : s.heap.NoLimit := G.top.nolimit.keeps G.rel.base
end

theorem body119 : ∃ p0 p1 p2 p3 p4, bodyAt 119 = [.Return (some (.Call (.Attribute (.Call (.Name "super" p0) [] [] p1) "__len__" p2) [] [] p3)) p4] ∧ (p2.endLine == p3.line) = true := ⟨_, _, _, _, _, rfl, rfl⟩

section
variable {W : Wd} {h₀ : Heap} {k : Nat} {c : Ctx} {A : Around} {env : Env} {ρ ρ' : Nat → Addr} {σ σ' : St} {s s' : Shared} {E : Value → Shared → Prop}
structure WOk (W : Wd) : Prop where
  prog : W.prog = PR
  K : W.K = KW W.w
  sup : W.mg ("super" : Str) = none ∧ W.mb ("super" : Str) = some (.type "super")
theorem acc_ne (w : World) {h : Heap} (X : (KW w).In h) {x dx : Addr} {vs : List Value} {n : Nat} {sl : Array (Option Value)} (hx : h.get? x = some ⟨.ref 122, some dx, .seq vs.toArray n, sl⟩) : x ≠ 122 := by
  obtain ⟨o, cd, h1, h2⟩ := cls122 w
  intro e
  subst e
  have := X _ _ h1
  rw [hx] at this
  cases this
  cases h2

/-- the background in a heap -/
structure Bg (W : Wd) (h : Heap) : Prop where
  kin : W.K.In h
  lim : h.NoLimit
  ns : h.Ns mainGlobals W.mg
  nsb : h.Ns builtinsNs W.mb
theorem Gd.bg (G : Gd W h₀ k c A env ρ σ s) : Bg W s.heap := ⟨G.kinH, G.lim, G.ns, G.nsb⟩
theorem Bg.keeps {h h' : Heap} (B : Bg W h) (hk : ∀ b o, h.get? b = some o → h'.get? b = some o) : Bg W h' := ⟨fun a o e => hk a o (B.kin a o e), B.lim.keeps hk, B.ns.keeps hk, B.nsb.keeps hk⟩
/-- part_count -/
theorem count_core (HW : WOk W) (B : Bg W s.heap) {x dx : Addr} {vs : List Value} {n : Nat} (ho : s.heap.get? x = some ⟨.ref 122, some dx, .seq vs.toArray n, #[]⟩) (hd : A.depth + 1 < recursionLimit) {Q : Value → Shared → Prop}
    (h : ∀ h₂ t₂ tk, (∀ b o, s.heap.get? b = some o → h₂.get? b = some o) → Q (.int vs.length tk) { s with heap := h₂, toks := t₂ }) : wpAny (model W.prog W.w) A (call (.ref 119) [.ref x]) Q E s := by
  obtain ⟨p0, p1, p2, p3, p4, hb, hline⟩ := body119
  refine wpAny_call (enter (fi119 W HW.K) (by omega) B.kin B.lim (vs := [.ref x]) (by kernel_rfl) fun h₁ hns hk E' => ?_)
  show PySem.wpAt _ _ (.func (bodyAt 119) _) (execs (bodyAt 119) _) _ _ _
  rw [hb]
  refine ks_wpAt_execs_cons (ks_wpAt_Return_some ?_)
  obtain ⟨hp, gs, dr, tk, os⟩ := s
  rw [HW.prog]
  have X : (KW W.w).In h₁ := fun a o e => hk a o (B.kin a o (by rw [HW.K]; exact e))
  have hx := hk _ _ ho
  refine super_call (mg := W.mg) (mb := W.mb) (sf119 W.w) (bm_len W.w) X hns (by kernel_rfl) (B.ns.keeps hk) HW.sup.1 (B.nsb.keeps hk) HW.sup.2 hx (acc_ne W.w X hx) hline (fun h₂ t₂ k₂ => chk_slot (by decide +kernel) (args_list_len _)) fun h₂ t₂ k₂ => ?_
  exact len_body (k₂ _ _ hx) (h _ _ _ fun b o e => k₂ b o (hk b o e))

/-- pop -/
theorem body82 : ∃ sp p1 p2 kz pz p3 ka pa kb pb kt pt pr pi q0 q1 q2 q3 q4, bodyAt 82 = [.If (.Compare (.Call (.Attribute (.Name "self" sp) "part_count" p1) [] [] p2) [.Eq] [.Constant (.int 0) kz pz] p3) [.Return (some (.Tuple [.Constant (.str "") ka pa, .Constant (.str "") kb pb] kt pt)) pr] [] pi,
      .Return (some (.Call (.Attribute (.Call (.Name "super" q0) [] [] q1) "pop" q2) [] [] q3)) q4] ∧ (p1.endLine == p2.line) = true ∧ (q2.endLine == q3.line) = true := ⟨_, _, _, _, _, _, _, _, _, _, _, _, _, _, _, _, _, _, _, rfl, rfl, rfl⟩
theorem self82 : (fdAt 82).scope.names.lookup ("self" : Str) = some .local ∧ (fdAt 82).scope.kind = .function := ⟨(sf82 ⟨fun _ i => i, P0⟩).slf, (sf82 ⟨fun _ i => i, P0⟩).kind⟩
theorem pop_core (HW : WOk W) (HK : KOk W.K) (B : Bg W s.heap) {x dx : Addr} {vs : List Value} {n : Nat} {es : List DictEntry} {m : Nat} (ho : s.heap.get? x = some ⟨.ref 122, some dx, .seq vs.toArray n, #[]⟩) (hdx : s.heap.get? dx = some (dictOf es m)) (hno : getL "part_count" es = some none) (hz : vs.length ≤ 1000)
    (hd : A.depth + 2 < recursionLimit) {Q : Value → Shared → Prop}
    (h0 : vs = [] → ∀ h₂ t₂ t u a, (∀ b o, s.heap.get? b = some o → h₂.get? b = some o) → s.heap.get? a = none → h₂.IsTuple a #[.str "" t, .str "" u] → Q (.ref a) { s with heap := h₂, toks := t₂ })
    (h1 : ∀ us y, vs = us ++ [y] → ∀ h₂ t₂ n', (∀ b o, b ≠ x → s.heap.get? b = some o → h₂.get? b = some o) → h₂.get? x = some ⟨.ref 122, some dx, .seq us.toArray n', #[]⟩ → Q y { s with heap := h₂, toks := t₂ }) :
    wpAny (model W.prog W.w) A (call (.ref 82) [.ref x]) Q E s := by
  obtain ⟨sp, p1, p2, kz, pz, p3, ka, pa, kb, pb, kt, pt, pr, pi, q0, q1, q2, q3, q4, hb, hl1, hl2⟩ := body82
  refine wpAny_call (enter (fi82 W HW.K) (by omega) B.kin B.lim (vs := [.ref x]) (by kernel_rfl) fun h₁ hns hk E' => ?_)
  show PySem.wpAt _ _ (.func (bodyAt 82) _) (execs (bodyAt 82) _) _ _ _
  rw [hb]
  have X : W.K.In h₁ := fun a o e => hk a o (B.kin a o e)
  have X' : (KW W.w).In h₁ := HW.K ▸ X
  have hx := hk _ _ ho
  have hdx' := hk _ _ hdx
  obtain ⟨g2, g3, g4, g5⟩ := HK.acc "part_count" 119 (by decide +kernel)
  refine ks_wpAt_execs_cons (PySem.wpAt_of_wpAny (wpAny_If (wpAny_isTrue_Compare1 ?_)))
  refine meth_form rfl hl1 (by decide) rfl (wpAny_Name (wpAny_loadName_local (env := callEnv (fdAt 82) s.heap.objs.size 82) self82.2 self82.1 hns (v := .ref x) (by kernel_rfl) fun pl => ?_) (by decide +kernel))
  refine meth_acc (ox := ⟨.ref 122, some dx, .seq vs.toArray n, #[]⟩) (od := dictOf es m) X ⟨hx, rfl, rfl, hdx'⟩ HK.accG.1 HK.accG.2 g2 (beq_iff_eq.mp g3) (by rw [lookIn_dict, hno]) ?_
  refine callWith_K0 X g4 (count_core (s := { s with heap := h₁, toks := _ }) HW (B.keeps hk) hx (by show A.depth + 1 + 1 < recursionLimit; omega) fun h₂ t₂ tk k₂ => ?_)
  refine wpAny_Constant_int (PyProof.Rows.eq_int (wpAny_truthy_bool ?_))
  have k02 : ∀ b o, s.heap.get? b = some o → h₂.get? b = some o := fun b o e => k₂ b o (hk b o e)
  cases hv : ((vs.length : Int) == 0) with
  | true =>
    have hnil : vs = [] := List.eq_nil_of_length_eq_zero (by simpa using hv)
    rw [if_pos rfl]
    refine wpAny_execs_cons (wpAny_Return_some (wpAny_Tuple_spliced ?_))
    show wpAny _ _ (spliced [(false, eval (.Constant (.str "") ka pa) (callEnv (fdAt 82) s.heap.objs.size 82)), (false, eval (.Constant (.str "") kb pb) (callEnv (fdAt 82) s.heap.objs.size 82))]) _ _ _
    refine spliced_cons ?_
    refine wpAny_Constant_str ?_
    refine spliced_cons ?_
    refine wpAny_Constant_str ?_
    refine spliced_nil ⟨show 2 ≤ sizeLine by decide, ?_⟩
    refine h0 hnil _ _ _ _ _ (fun b o e => Heap.get?_push_of_some _ (k02 b o e)) ?_ ⟨_, Heap.get?_push_size _ rfl, rfl, _, rfl⟩
    cases q : s.heap.get? h₂.objs.size with
    | none => rfl
    | some o => exact absurd (Heap.lt_size (k02 _ _ q)) (Nat.lt_irrefl _)
  | false =>
    rw [if_neg (by decide)]
    refine wpAny_execs_nil ?_
    refine ks_wpAt_execs_cons (ks_wpAt_Return_some ?_)
    have hne : vs ≠ [] := fun e => by rw [e] at hv; first | exact no hv | cases hv
    obtain ⟨us, y, rfl⟩ : ∃ us y, vs = us ++ [y] := ⟨vs.dropLast, vs.getLast hne, (List.dropLast_concat_getLast hne).symm⟩
    obtain ⟨hp, gs, dr, tk', os⟩ := s
    rw [HW.prog]
    have X2 : (KW W.w).In h₂ := fun a o e => k₂ a o (X' a o e)
    have hx2 := k₂ _ _ hx
    have hns2 := hns.keeps k₂
    refine super_call (mg := W.mg) (mb := W.mb) (sf82 W.w) (bm_pop W.w) X2 hns2 (by kernel_rfl) (B.ns.keeps k02) HW.sup.1 (B.nsb.keeps k02) HW.sup.2 hx2 (acc_ne W.w X2 hx2) hl2 (fun h₃ t₃ k₃ => chk_pop (s := ⟨h₃, _, _, _, _⟩) (fun a o e => k₃ a o (X2 a o e)) (k₃ _ _ hx2)) fun h₃ t₃ k₃ => ?_
    refine pop_body (k₃ _ _ hx2) (by rw [List.length_append] at hz; omega) fun h₄ e4 s4 => ?_
    exact h1 us y rfl _ _ _ (fun b o hb e => (s4.2 b hb).trans (k₃ b o (k02 b o e))) e4
end
end
end Mine
end

section
open PySem PySem.Spec PySem.Calls PyProof.Rows PySem.W
set_option Elab.async false
set_option maxRecDepth 100000
namespace Mine
noncomputable section
section
variable {prog : Program} {w : World} {A : Around} {E : Value → Shared → Prop} {s : Shared}
/-- a method of the base, on an object of the list subclass -/
theorem meth_accB {K : Frag} {M : Model} {x C : Addr} {id : String} {ox od : Obj} {name : Str} {pl : Sem Bool} {Q : Value × List Value → Shared → Prop} (X : K.In s.heap) (I : InstAt s.heap x ox C (some od)) (hga : findIn K (.ref C) "__getattribute__" = some (some (.builtin "list.__getattribute__")))
    (hk : findIn K (.ref C) "__getattr__" = some none) (hf : findIn K (.ref C) name = some (some (.builtin id))) (ht : typeOf (.builtin id) = pure (.type "method_descriptor")) (hs : lookIn name od = some none) (h : Q (.builtin id, [.ref x]) s) :
    wpAny M A (getMethod (.ref x) name pl) Q E s := by
  have hd := I.dict
  unfold getMethod specialOf
  refine wpAny_bind (wpAny_bind (I.type.here ((looks_findIn X hga).here ?_)))
  dsimp only
  rw [if_neg (by rw [canon_list_ga]; decide)]
  refine wpAny_bind (wpAny_bind (I.type.here ((looks_findIn X hk).here ?_)))
  refine wpAny_bind (wpAny_bind (I.type.here ((looks_findIn X hf).here (wpAny_bind (wpAny_of_eq ht ?_)))))
  rw [if_neg (by decide +kernel)]
  refine wpAny_bind (wpAny_loadPart I.at_ ?_)
  cases e : ox.dict with
  | none => rw [e] at hd; exact hd.elim
  | some dx =>
    rw [e] at hd
    refine wpAny_bind (wpAny_bind (wpAny_loadPart hd ?_))
    rw [nsLook_of hs]
    exact wpAny_pure (wpAny_bind (wpAny_rule (wpAny_pure h)))
theorem append_body {l dx : Addr} {C : Value} {vs : List Value} {y : Value} {n : Nat} {sl : Array (Option Value)} (ho : s.heap.get? l = some ⟨C, some dx, .seq vs.toArray n, sl⟩) (hz : vs.length ≤ 1000) {Q : Value → Shared → Prop}
    (h : ∀ h' n', h'.get? l = some ⟨C, some dx, .seq (vs ++ [y]).toArray n', sl⟩ → Heap.SameBut l s.heap h' → Q .none { s with heap := h' }) :
    wpAny (model prog w) A (Builtin.«list.append» ⟨[.ref l, y], []⟩) (fun fin s' => ∃ v, fin = .done (.ret v) ∧ Q v s') E s := by
  show wpAny _ _ (updateSeq l (·.push y) >>= fun _ => ret .none) _ _ s
  refine wpAny_bind ?_
  refine wpAny_updateSeq ho rfl (wpAny_pure ⟨.none, rfl, h _ (n + 1) ?_ (Heap.SameBut.update ..)⟩) (by rw [List.size_toArray]; exact Nat.le_trans hz (by decide)) (by
    rw [Array.size_push, List.size_toArray]; exact Nat.succ_le_succ (Nat.le_trans hz (by decide)))
  rw [Heap.get?_update_self _ ho (Obj.isFreed_of_seq (by rfl))]
  simp [Obj.mapSeq]
end
theorem find_app (w : World) : findIn (KW w) (.ref 122) "append" = some (some (.builtin "list.append")) := by kernel_rfl
theorem kind_app : builtinKind "list.append" = some .slot ∨ builtinKind "list.append" = some .method := by first | exact .inl (by decide +kernel) | exact .inr (by decide +kernel)
theorem split_app : splitId "list.append" = some ("list", "append") := by decide +kernel
theorem body66 : ∃ sp p1 pa pb kt pt p2 p3, bodyAt 66 = [.Expr (.Call (.Attribute (.Name "self" sp) "append" p1) [.Tuple [.Name "fws" pa, .Name "string" pb] kt pt] [] p2) p3] ∧ (p1.endLine == p2.line) = true := ⟨_, _, _, _, _, _, _, _, rfl, rfl⟩
theorem loc66 : ((fdAt 66).scope.names.lookup ("self" : Str) == some .local && (fdAt 66).scope.names.lookup ("fws" : Str) == some .local && (fdAt 66).scope.names.lookup ("string" : Str) == some .local && (fdAt 66).scope.kind == .function) = true := by kernel_rfl
section
variable {W : Wd} {A : Around} {s : Shared} {E : Value → Shared → Prop}
theorem push_core (HW : WOk W) (HK : KOk W.K) (B : Bg W s.heap) {x dx : Addr} {y z : Value} {vs : List Value} {n : Nat} {es : List DictEntry} {m : Nat} (ho : s.heap.get? x = some ⟨.ref 122, some dx, .seq vs.toArray n, #[]⟩) (hdx : s.heap.get? dx = some (dictOf es m)) (hno : getL "append" es = some none) (hz : vs.length ≤ 1000)
    (hd : A.depth + 1 < recursionLimit) {Q : Value → Shared → Prop}
    (h : ∀ h₂ t₂ a n', (∀ b o, b ≠ x → s.heap.get? b = some o → h₂.get? b = some o) → s.heap.get? a = none → a ≠ x → h₂.IsTuple a #[y, z] → h₂.get? x = some ⟨.ref 122, some dx, .seq (vs ++ [Value.ref a]).toArray n', #[]⟩ → Q .none { s with heap := h₂, toks := t₂ }) :
    wpAny (model W.prog W.w) A (call (.ref 66) [.ref x, y, z]) Q E s := by
  obtain ⟨sp, p1, pa, pb, kt, pt, p2, p3, hb, hl1⟩ := body66
  have hloc := loc66
  simp only [Bool.and_eq_true, beq_iff_eq] at hloc
  obtain ⟨⟨⟨l1, l2⟩, l3⟩, lk⟩ := hloc
  refine wpAny_call (enter (fi66 W HW.K) (by omega) B.kin B.lim (vs := [.ref x, y, z]) (by kernel_rfl) fun h₁ hns hk E' => ?_)
  show PySem.wpAt _ _ (.func (bodyAt 66) _) (execs (bodyAt 66) _) _ _ _
  rw [hb]
  have X : W.K.In h₁ := fun a o e => hk a o (B.kin a o e)
  have X' : (KW W.w).In h₁ := HW.K ▸ X
  have hx := hk _ _ ho
  have hdx' := hk _ _ hdx
  have I : InstAt h₁ x ⟨.ref 122, some dx, .seq vs.toArray n, #[]⟩ 122 (some (dictOf es m)) := ⟨hx, rfl, rfl, hdx'⟩
  refine PySem.wpAt_of_wpAny (wpAny_execs_cons (wpAny_Expr_any ?_ (by show ((fdAt 66).scope.kind == .module && _) = false; rw [lk]; rfl) rfl))
  refine meth_form (args := [.Tuple [.Name "fws" pa, .Name "string" pb] kt pt]) rfl hl1 (Nat.lt_of_sub_pos (by exact Nat.succ_pos 28)) rfl (wpAny_Name (wpAny_loadName_local (env := callEnv (fdAt 66) s.heap.objs.size 66) lk l1 hns (v := .ref x) (by kernel_rfl) fun pl => ?_) (by decide +kernel))
  refine meth_accB (ox := ⟨.ref 122, some dx, .seq vs.toArray n, #[]⟩) (od := dictOf es m) X I HK.accG.1 HK.accG.2 (by rw [HW.K]; exact find_app _) PySem.F.type_list_append (by rw [lookIn_dict, hno]) ?_
  refine callWith_of (P := fun _ => True) rfl (fun _ _ => ⟨.machine, .inr (.inl rfl), Looks.of_pure rfl⟩) ?_
  show wpAny _ _ (evalArgs (.builtin "list.append") true [(false, eval (.Tuple [.Name "fws" pa, .Name "string" pb] kt pt) (callEnv (fdAt 66) s.heap.objs.size 66))] []) _ _ _
  refine evalArgs_plain (spliced_cons ?_)
  refine wpAny_Tuple_spliced ?_
  show wpAny _ _ (spliced [(false, eval (.Name "fws" pa) (callEnv (fdAt 66) s.heap.objs.size 66)), (false, eval (.Name "string" pb) (callEnv (fdAt 66) s.heap.objs.size 66))]) _ _ _
  refine spliced_cons ?_
  refine wpAny_Name (wpAny_loadName_local (env := callEnv (fdAt 66) s.heap.objs.size 66) lk l2 hns (v := y) (by kernel_rfl) ?_) (by decide +kernel)
  refine spliced_cons ?_
  refine wpAny_Name (wpAny_loadName_local (env := callEnv (fdAt 66) s.heap.objs.size 66) lk l3 hns (v := z) (by kernel_rfl) ?_) (by decide +kernel)
  refine spliced_nil ⟨show 2 ≤ sizeLine by decide, ?_⟩
  refine spliced_nil ⟨trivial, ?_⟩
  have up : ∀ (o : Obj) b ob, h₁.get? b = some ob → (h₁.push o).get? b = some ob := fun o b ob e => Heap.get?_push_of_some _ e
  have hx2 := up { cls := .type "tuple", data := .seq [y, z].toArray } _ _ hx
  have I2 : InstAt (h₁.push { cls := .type "tuple", data := .seq [y, z].toArray }) x ⟨.ref 122, some dx, .seq vs.toArray n, #[]⟩ 122 (some (dictOf es m)) := ⟨hx2, rfl, rfl, up _ _ _ hdx'⟩
  refine call_sub (K := KW W.w) (fun a o e => up _ _ _ (X' a o e)) I2 (sub122 W.w) kind_app split_app PySem.F.slot_list_append.plain PySem.F.entry_list_append (PySem.F.args_list_append_2 _ _) ?_
  refine append_body hx2 hz fun h₃ n' e3 s3 => ?_
  have hfr : s.heap.get? h₁.objs.size = none := by
    cases q : s.heap.get? h₁.objs.size with
    | none => rfl
    | some o => exact absurd (Heap.lt_size (hk _ _ q)) (Nat.lt_irrefl _)
  have hne : h₁.objs.size ≠ x := fun e => by rw [e, ho] at hfr; first | exact no hfr | cases hfr
  refine wpAny_execs_nil (h _ _ h₁.objs.size n' (fun b o hb e => (s3.2 b hb).trans (up _ _ _ (hk b o e))) hfr hne ⟨_, (s3.2 _ hne).trans (Heap.get?_push_size _ rfl), rfl, _, rfl⟩ e3)
end
end
end Mine
end

section
open PySem PySem.Spec PySem.Calls PyProof.Rows PySem.W
set_option Elab.async false
set_option maxRecDepth 100000
namespace Mine
noncomputable section
section
variable {W : Wd} {h₀ : Heap} {k : Nat} {c : Ctx} {A : Around} {env : Env} {ρ ρ' : Nat → Addr} {σ σ' : St} {s s' : Shared} {E : Value → Shared → Prop}

theorem prim119 (HW : WOk W) (G : Gd W h₀ k c A env ρ σ s) (hd : A.depth + 3 < recursionLimit) {i : Nat} {its : List AV} (g : σ.get i = some (.acc its)) {Q : Value → Shared → Prop}
    (h : ∀ v s' ρ', MV W h₀ ρ σ s ρ' σ s' → VV W s' ρ' σ (.int (.c its.length)) v → Q v s') : wpAny (model W.prog W.w) A (call (.ref 119) [.ref (ρ i)]) Q E s := by
  obtain ⟨vs, n, dx, es, m, ho, hv, _⟩ := acc_get G g
  refine count_core HW G.bg ho (by omega) fun h₂ t₂ tk hk => h _ _ ρ (Mv.heap G.rel hk) ?_
  rw [← hv.len]
  exact .int (.c _) _

theorem snoc_split : ∀ {its : List AV} {us : List Value} {y : Value}, VVs W s ρ σ its (us ++ [y]) → ∃ xs z, its = xs ++ [z] ∧ VVs W s ρ σ xs us ∧ VV W s ρ σ z y
  | [], [], _, h => h.elim
  | [], _ :: _, _, h => h.elim
  | [x], [], _, h => ⟨[], x, rfl, trivial, h.1⟩
  | x :: x' :: its, [], _, h => h.2.elim
  | x :: its, u :: us, _, h => by
    obtain ⟨xs, z, e, a, b⟩ := snoc_split h.2
    exact ⟨x :: xs, z, by rw [e]; rfl, ⟨h.1, a⟩, b⟩
theorem prim82 (HW : WOk W) (HK : KOk W.K) (G : Gd W h₀ k c A env ρ σ s) (hd : A.depth + 3 < recursionLimit) {i : Nat} {its : List AV} (g : σ.get i = some (.acc its)) (hz : its.length ≤ 1000) {r : AV} {σ' : St}
    (e : (match its.getLast? with | some v => some (v, σ.put i (.acc its.dropLast)) | .none => some (.tup [.str [], .str []], σ)) = some (r, σ')) {Q : Value → Shared → Prop}
    (h : ∀ v s' ρ', MV W h₀ ρ σ s ρ' σ' s' → VV W s' ρ' σ' r v → Q v s') : wpAny (model W.prog W.w) A (call (.ref 82) [.ref (ρ i)]) Q E s := by
  obtain ⟨vs, n, dx, es, m, ho, hv, hdd, hud, hno⟩ := acc_get G g
  refine pop_core HW HK G.bg ho hdd (hno _ (by decide +kernel)) (by rw [← hv.len]; exact hz) (by omega) (fun hnil h₂ t₂ t u a hk ha ht => ?_) fun us y hus h₂ t₂ n' hk hx => ?_
  · subst hnil
    have : its = [] := List.eq_nil_of_length_eq_zero (by rw [hv.len]; rfl)
    subst this
    cases e
    refine h _ _ ρ (Mv.heap G.rel hk) ?_
    have e0 : (("" : Str)) = ⟨([] : List Nat).toArray⟩ := by decide +kernel
    exact .tup' (vs := [.str "" t, .str "" u]) ⟨by rw [e0]; exact .str [] t, by rw [e0]; exact .str [] u, trivial⟩ ht (G.rel.unt_new ha)
  · subst hus
    obtain ⟨xs, z, rfl, V, Z⟩ := snoc_split hv
    simp only [List.getLast?_concat, List.dropLast_concat] at e
    cases e
    have m₁ : MV W h₀ ρ σ s ρ (σ.put i (.acc xs)) { s with heap := h₂, toks := t₂ } := Mv.put G.rel g (G.rel.nw i _ g rfl) hk hx (.acc V.len V.get hdd hud hno)
    exact h _ _ ρ m₁ (m₁.vr G.rel Z)
variable {i : Nat}
theorem put_mono (g : ∃ o, σ.get i = some o) {h' : Heap} {o' : AO} (hk : ∀ b o, b ≠ ρ i → s.heap.get? b = some o → h'.get? b = some o) : Mono s.heap ρ σ h' ρ (σ.put i o') := by
  obtain ⟨o, g⟩ := g
  have lv : ∀ j o₁, (σ.put i o').get j = some o₁ → ∃ o₂, σ.get j = some o₂ := fun j o₁ q => by
    rw [St.get_put] at q
    by_cases hij : i = j
    · subst hij; exact ⟨o, g⟩
    · rw [if_neg hij] at q; exact ⟨_, q⟩
  exact ⟨Nat.le_refl _, fun _ _ => rfl, fun b o₁ q u _ => hk b o₁ (fun z => u i o g z.symm) q, fun b o₁ q u j o₂ gj => by
    obtain ⟨o₃, g₃⟩ := lv j o₂ gj
    exact u j o₃ g₃⟩
/-- one live object turned, told in the new heap -/
theorem Mv.put2 {prog : Program} {w : World} {θ : Nat → Int} (R : Rel prog w θ h₀ ρ σ s.heap) {h' : Heap} {tk : Nat} {o o' : AO} {co : Obj} (g : σ.get i = some o) (hn : h₀.get? (ρ i) = none)
    (hk : ∀ b o, b ≠ ρ i → s.heap.get? b = some o → h'.get? b = some o) (e : h'.get? (ρ i) = some co) (r : OR prog w θ h' ρ (σ.put i o') o' co) : Mv prog w θ h₀ ρ σ s ρ (σ.put i o') { s with heap := h', toks := tk } := by
  have lv : ∀ j o₁, (σ.put i o').get j = some o₁ → ∃ o₂, σ.get j = some o₂ := fun j o₁ q => by
    rw [St.get_put] at q
    by_cases hij : i = j
    · subst hij; exact ⟨o, g⟩
    · rw [if_neg hij] at q; exact ⟨_, q⟩
  have M := put_mono (s := s) (o' := o') ⟨o, g⟩ hk
  refine ⟨Nat.le_refl _, fun _ _ => rfl, fun j o₁ q => .inl (lv j o₁ q), fun b o₁ q => ?_, fun b o₁ q u => hk b o₁ (fun z => u i o g z.symm) q, ⟨_, _, rfl⟩, ⟨fun j o₁ q => ?_, fun j o₁ q z => ?_, fun j k o₁ o₂ p q z => ?_, fun b o₁ q => ?_⟩⟩
  · by_cases hb : b = ρ i
    · exact ⟨co, hb ▸ e⟩
    · exact ⟨o₁, hk b o₁ hb q⟩
  · rw [St.get_put] at q
    by_cases hij : i = j
    · subst hij
      rw [if_pos rfl] at q
      cases q
      exact ⟨(R.ob i o g).1, co, e, r⟩
    · rw [if_neg hij] at q
      obtain ⟨hj, cj, ej, rj⟩ := R.ob j o₁ q
      exact ⟨hj, cj, hk _ _ (fun z => hij (R.inj i j o o₁ g q z.symm)) ej, rj.mono M⟩
  · rw [St.get_put] at q
    by_cases hij : i = j
    · subst hij; exact hn
    · rw [if_neg hij] at q; exact R.nw j o₁ q z
  · obtain ⟨_, g₁⟩ := lv j o₁ p
    obtain ⟨_, g₂⟩ := lv k o₂ q
    exact R.inj j k _ _ g₁ g₂ z
  · exact hk b o₁ (fun z => by rw [z, hn] at q; cases q) (R.base b o₁ q)
theorem prim66 (HW : WOk W) (HK : KOk W.K) (G : Gd W h₀ k c A env ρ σ s) (hd : A.depth + 3 < recursionLimit) {i : Nat} {its : List AV} (g : σ.get i = some (.acc its)) (hz : its.length ≤ 1000) {a b : AV} {u v : Value} (U : VV W s ρ σ a u) (V : VV W s ρ σ b v) {Q : Value → Shared → Prop}
    (h : ∀ v s' ρ', MV W h₀ ρ σ s ρ' (σ.put i (.acc (its ++ [.tup [a, b]]))) s' → VV W s' ρ' (σ.put i (.acc (its ++ [.tup [a, b]]))) .none v → Q v s') : wpAny (model W.prog W.w) A (call (.ref 66) [.ref (ρ i), u, v]) Q E s := by
  obtain ⟨vs, n, dx, es, m, ho, hv, hdd, hud, hno⟩ := acc_get G g
  refine push_core HW HK G.bg ho hdd (hno _ (by decide +kernel)) (by rw [← hv.len]; exact hz) (by omega) fun h₂ t₂ p n' hk hp hpx ht hx => ?_
  have M : Mono s.heap ρ σ h₂ ρ (σ.put i (.acc (its ++ [.tup [a, b]]))) := put_mono (s := s) ⟨_, g⟩ hk
  have hv2 : VVs W { s with heap := h₂, toks := t₂ } ρ (σ.put i (.acc (its ++ [.tup [a, b]]))) its vs := VVs.mono M hv
  have hT : VV W { s with heap := h₂, toks := t₂ } ρ (σ.put i (.acc (its ++ [.tup [a, b]]))) (.tup [a, b]) (.ref p) := by
    refine .tup' (vs := [u, v]) ⟨VR.mono M U, VR.mono M V, trivial⟩ ht fun j o q e => ?_
    rw [St.get_put] at q
    by_cases hij : i = j
    · subst hij; exact hpx e.symm
    · rw [if_neg hij] at q
      obtain ⟨_, co, ej, _⟩ := G.rel.ob j o q
      rw [e, hp] at ej; first | exact no ej | cases ej
  have hv3 := hv2.append (show VVs W { s with heap := h₂, toks := t₂ } ρ _ [AV.tup [a, b]] [Value.ref p] from ⟨hT, trivial⟩)
  have hne : dx ≠ ρ i := fun e => hud i _ g e.symm
  have hud2 : Unt ρ (σ.put i (.acc (its ++ [.tup [a, b]]))) dx := fun j o q e => by
    rw [St.get_put] at q
    by_cases hij : i = j
    · subst hij; exact hne e.symm
    · rw [if_neg hij] at q; exact hud j o q e
  exact h _ _ ρ (Mv.put2 G.rel g (G.rel.nw i _ g rfl) hk hx (.acc hv3.len hv3.get (hk _ _ hne hdd) hud2 hno)) .none
end
end
end Mine
end

section
open PySem PySem.Spec PySem.Calls PyProof.Rows PySem.W
set_option Elab.async false
set_option maxRecDepth 100000
namespace Mine
noncomputable section
/-! dicts of attributes -/
noncomputable def StrK (es : List DictEntry) : Prop := ∀ e ∈ es, ∃ x t, e.key = .str x t
theorem getL_str {es : List DictEntry} (hs : StrK es) (y : Str) : getL y es = some ((es.find? (·.key.isStr y)).map (·.val)) := by
  unfold getL
  cases q : es.find? (·.key.isStr y) with
  | some e => rfl
  | none =>
    have : es.any (·.refKey) = false := by
      rw [List.any_eq_false]
      intro e he
      obtain ⟨x, t, hk⟩ := hs e he
      unfold DictEntry.refKey
      rw [hk]
      exact Bool.false_ne_true
    simp only [this]
    rfl
theorem find_put {x y : Str} {hsh : Int} {t : Tok} {v : Value} : ∀ {es : List DictEntry}, (((putL x hsh (.str x t) v es).find? (·.key.isStr y)).map (·.val)) = if y = x then some v else (es.find? (·.key.isStr y)).map (·.val)
  | [] => by
    show (([⟨hsh, .str x t, v⟩] : List DictEntry).find? _).map _ = _
    by_cases h : y = x
    · subst h
      simp [Value.isStr]
    · have h' : (x == y) = false := by rw [beq_eq_false_iff_ne]; exact Ne.symm h
      simp [Value.isStr, h', h]
  | e :: r => by
    have ih := @find_put x y hsh t v r
    unfold putL
    cases hx : e.key.isStr x with
    | true =>
      simp only [if_true, List.find?_cons]
      have : ∃ t, e.key = .str x t := by
        cases hk : e.key <;> rw [hk] at hx <;> try (cases hx; done)
        exact ⟨_, by rw [show _ = x from beq_iff_eq.mp hx]⟩
      obtain ⟨t', hk⟩ := this
      rw [hk]
      by_cases h : y = x
      · subst h
        simp [Value.isStr]
      · have h' : (x == y) = false := by rw [beq_eq_false_iff_ne]; exact Ne.symm h
        simp [Value.isStr, h', h]
    | false =>
      simp only [Bool.false_eq_true, if_false, List.find?_cons]
      cases hy : e.key.isStr y with
      | true =>
        have : y ≠ x := fun h => by subst h; rw [hx] at hy; first | exact no hy | cases hy
        simp [this]
      | false => exact ih
theorem StrK.put {x : Str} {hsh : Int} {t : Tok} {v : Value} : ∀ {es : List DictEntry}, StrK es → StrK (putL x hsh (.str x t) v es)
  | [], _ => fun e he => by
    rcases List.mem_singleton.mp he with rfl
    exact ⟨_, _, rfl⟩
  | e :: r, h => by
    unfold putL
    split
    · intro e' he
      rcases List.mem_cons.mp he with rfl | he
      · exact h e (by simp)
      · exact h e' (by simp [he])
    · intro e' he
      rcases List.mem_cons.mp he with rfl | he
      · exact h _ (by simp)
      · exact StrK.put (fun e₁ h₁ => h e₁ (by simp [h₁])) e' he
theorem getL_put {x y : Str} {hsh : Int} {t : Tok} {v : Value} {es : List DictEntry} (hs : StrK es) : getL y (putL x hsh (.str x t) v es) = if y = x then some (some v) else getL y es := by
  rw [getL_str hs.put, find_put, getL_str hs]
  split <;> rfl
theorem putL_len {x : Str} {hsh : Int} {k v : Value} : ∀ {es : List DictEntry}, (putL x hsh k v es).length ≤ es.length + 1
  | [] => by simp [putL]
  | e :: r => by
    unfold putL
    split
    · simp
    · simpa using putL_len (es := r)

section
variable {prog : Program} {w : World} {A : Around} {E : Value → Shared → Prop} {s : Shared} {K : Frag} {hb : Heap} {L x dx C : Addr} {mm : Str → Option Value}
theorem set_step {name : Str} {v : Value} {es : List DictEntry} {n : Nat} {more : List (Addr × Obj)} (F : Fr hb L s.heap mm) (X₀ : K.In hb) (N : News hb L s.heap ((x, instObj C dx) :: (dx, dictOf es n) :: more)) (hs : StrK es)
    (hf : (findIn K (.ref C) "__setattr__" == some (some (.builtin "object.__setattr__")) && plainOver K C && takerIn K C name == some none && hasDictIn K C) = true) (hz : es.length + 1 ≤ 1000) (hxd : x ≠ dx) (hmore : ∀ p ∈ more, p.1 ≠ dx) {Q : Unit → Shared → Prop}
    (h : ∀ h' hsh t tk, Fr hb L h' mm → News hb L h' ((x, instObj C dx) :: (dx, dictOf (putL name hsh (.str name t) v es) (putN name es n)) :: more) → Q () { s with heap := h', toks := tk }) :
    wpAny (model prog w) A (setAttr (.ref x) name v) Q E s := by
  rw [Bool.and_eq_true, Bool.and_eq_true, Bool.and_eq_true, beq_iff_eq, beq_iff_eq] at hf
  obtain ⟨⟨⟨f1, f2⟩, f3⟩, f4⟩ := hf
  have I : InstAt s.heap x (instObj C dx) C (some (dictOf es n)) := ⟨(N _ (.head _)).1, rfl, rfl, (N _ (.tail _ (.head _))).1⟩
  refine set_dict F X₀ N I rfl f1 f2 f3 f4 (by rw [getL_str hs]; rfl) rfl (.tail hxd (.head hmore)) (Nat.le_trans putL_len hz) fun h' F' N' => h h' _ _ _ F' N'
end

/-! TupleComp(l) -/
theorem tc_facts (w : World) : (makesIn (KW w) 192 && (findIn (KW w) (.ref 192) "__init__" == some (some (.ref 182))) && isFn (KW w) (.ref 182)) = true := by kernel_rfl
theorem tc_set (w : World) : (findIn (KW w) (.ref 192) "__setattr__" == some (some (.builtin "object.__setattr__")) && plainOver (KW w) 192 && takerIn (KW w) 192 "comp_select_list" == some none && hasDictIn (KW w) 192) = true := by kernel_rfl
theorem fb182 (w : World) : fiB (KW w) 182 = true := by kernel_rfl
theorem fo182 (w : World) : (KW w).lookup 182 = some (objAt 182) := by kernel_rfl
theorem fi182 (W : Wd) (hK : W.K = KW W.w) : FiOk W 182 (fiAt 182) := fi_ok ⟨objAt 182, by rw [hK]; exact fo182 _, by kernel_rfl⟩ (by kernel_rfl) (by rw [hK]; exact fb182 _) (fbind2 (by kernel_rfl) fun x y => by kernel_rfl)
theorem body182 : ∃ sp ap bp p, bodyAt 182 = [.Assign [.Attribute (.Name "self" sp) "comp_select_list" ap] (.Name "comp_select_list" bp) p] := ⟨_, _, _, _, rfl⟩
theorem loc182 : ((fdAt 182).scope.names.lookup ("self" : Str) == some .local && (fdAt 182).scope.names.lookup ("comp_select_list" : Str) == some .local && (fdAt 182).scope.kind == .function) = true := by kernel_rfl
theorem tc_weight (C : Addr) (l : List Value) (kw : List (Str × Value)) : (Code.builtin "type.__call__" ⟨.ref C :: l, kw⟩).weight = 1 := by first | rfl | kernel_rfl
theorem under_depth (A : Around) (C : Addr) (l : List Value) (kw : List (Str × Value)) : (A.under (.builtin "type.__call__" ⟨.ref C :: l, kw⟩)).depth = A.depth + 1 := by
  show A.depth + Code.weight (.builtin "type.__call__" ⟨.ref C :: l, kw⟩) = A.depth + 1
  rw [tc_weight]
section
variable {W : Wd} {A : Around} {s : Shared} {E : Value → Shared → Prop}
theorem tc_core (HW : WOk W) (B : Bg W s.heap) {v : Value} (hd : A.depth + 3 < recursionLimit) {Q : Value → Shared → Prop}
    (h : ∀ h₂ t₂ x dx es m, (∀ b o, s.heap.get? b = some o → h₂.get? b = some o) → s.heap.get? x = none → s.heap.get? dx = none → h₂.get? x = some (instObj 192 dx) → h₂.get? dx = some (dictOf es m) → StrK es → (∀ y, getL y es = if y = ("comp_select_list" : Str) then some (some v) else some none) → Q (.ref x) { s with heap := h₂, toks := t₂ }) :
    wpAny (model W.prog W.w) A (call (.ref 192) [v]) Q E s := by
  obtain ⟨sp, ap, bp, p, hb⟩ := body182
  have hloc := loc182
  simp only [Bool.and_eq_true, beq_iff_eq] at hloc
  obtain ⟨⟨l1, l2⟩, lk⟩ := hloc
  have hf := tc_facts W.w
  rw [Bool.and_eq_true, Bool.and_eq_true, beq_iff_eq] at hf
  obtain ⟨⟨f1, f2⟩, f3⟩ := hf
  obtain ⟨hp, gs, dr, tk, os⟩ := s
  have X : (KW W.w).In hp := fun a o e => B.kin a o (by rw [HW.K]; exact e)
  refine wpAny_call (make_core (makes_of X f1) (looks_findIn X f2) (fun self => bind_fn X self (beq_iff_eq.mp f3)) (.inl rfl) ?_)
  have up : ∀ b o, hp.get? b = some o → ((hp.push emptyDict).push (instObj 192 hp.objs.size)).get? b = some o := fun b o e => Heap.get?_push_of_some _ (Heap.get?_push_of_some _ e)
  have B1 : Bg W ((hp.push emptyDict).push (instObj 192 hp.objs.size)) := B.keeps up
  have hx0 : ((hp.push emptyDict).push (instObj 192 hp.objs.size)).get? (hp.objs.size + 1) = some (instObj 192 hp.objs.size) := by
    have := Heap.get?_push_size (h := hp.push emptyDict) (o := instObj 192 hp.objs.size) rfl
    rwa [Heap.size_push] at this
  have hdx0 : ((hp.push emptyDict).push (instObj 192 hp.objs.size)).get? hp.objs.size = some (dictOf [] 0) := Heap.get?_push_of_some _ (Heap.get?_push_size _ rfl)
  have n0 : ∀ a, hp.objs.size ≤ a → hp.get? a = none := fun a ha => by
    cases q : hp.get? a with
    | none => rfl
    | some o => exact absurd (Heap.lt_size q) (Nat.not_lt.mpr ha)
  refine enter (s := ⟨(hp.push emptyDict).push (instObj 192 hp.objs.size), gs, dr, tk, os⟩) (fi182 W HW.K) (by rw [under_depth]; omega) B1.kin B1.lim (vs := [.ref (hp.objs.size + 1), v]) (by kernel_rfl) fun h₁ hns hk E' => ?_
  show PySem.wpAt _ _ (.func (bodyAt 182) _) (execs (bodyAt 182) _) _ _ _
  rw [hb]
  have hL : hp.objs.size + 2 = ((hp.push emptyDict).push (instObj 192 hp.objs.size)).objs.size := by rw [Heap.size_push, Heap.size_push]
  refine PySem.wpAt_of_wpAny (wpAny_execs_cons (plainObj_wpAny_Assign_Attribute ?_))
  refine wpAny_Name (wpAny_loadName_local (env := callEnv (fdAt 182) _ 182) lk l2 hns (v := v) (by kernel_rfl) ?_) (by decide +kernel)
  refine wpAny_Name (wpAny_loadName_local (env := callEnv (fdAt 182) _ 182) lk l1 hns (v := .ref (hp.objs.size + 1)) (by kernel_rfl) ?_) (by decide +kernel)
  have F : Fr hp _ h₁ _ := ⟨hns, fun b o e => hk b o (up b o e), by show hp.objs.size ≤ ((hp.push emptyDict).push (instObj 192 hp.objs.size)).objs.size; rw [← hL]; omega⟩
  have N : News hp _ h₁ [(hp.objs.size + 1, instObj 192 hp.objs.size), (hp.objs.size, dictOf [] 0)] := fun q hq => by
    rcases List.mem_cons.mp hq with rfl | hq
    · exact ⟨hk _ _ hx0, by show hp.objs.size + 1 ≠ ((hp.push emptyDict).push (instObj 192 hp.objs.size)).objs.size; rw [← hL]; omega, n0 _ (Nat.le_succ _)⟩
    · rcases List.mem_singleton.mp hq with rfl
      exact ⟨hk _ _ hdx0, by show hp.objs.size ≠ ((hp.push emptyDict).push (instObj 192 hp.objs.size)).objs.size; rw [← hL]; omega, n0 _ (Nat.le_refl _)⟩
  refine set_step (K := KW W.w) F X N (fun e he => by cases he) (tc_set W.w) (by decide) (Nat.succ_ne_self _) (fun q hq => by cases hq) fun h' hsh t tk' F' N' => ?_
  refine wpAny_execs_nil ⟨rfl, ?_⟩
  refine h h' _ _ _ _ _ F'.keep (n0 _ (Nat.le_succ _)) (n0 _ (Nat.le_refl _)) (N' _ (.head _)).1 (N' _ (.tail _ (.head _))).1 (StrK.put fun e he => by cases he) fun y => ?_
  rw [getL_put (fun e he => by cases he)]
  rfl
end
end
end Mine
end

section
open PySem PySem.Spec PySem.Calls PyProof.Rows PySem.W
set_option Elab.async false
set_option maxRecDepth 100000
namespace Mine
noncomputable section
theorem nr_facts (w : World) : (makesIn (KW w) 164 && (findIn (KW w) (.ref 164) "__init__" == some (some (.ref 140))) && isFn (KW w) (.ref 140)) = true := by kernel_rfl
noncomputable def setB (K : Frag) (C : Addr) (name : Str) : Bool := findIn K (.ref C) "__setattr__" == some (some (.builtin "object.__setattr__")) && plainOver K C && takerIn K C name == some none && hasDictIn K C
theorem nr_set1 (w : World) : setB (KW w) 164 "lineno" = true := by kernel_rfl
theorem nr_set2 (w : World) : setB (KW w) 164 "instream" = true := by kernel_rfl
theorem nr_set3 (w : World) : setB (KW w) 164 "whitespace" = true := by kernel_rfl
theorem nr_set4 (w : World) : setB (KW w) 164 "pushback" = true := by kernel_rfl
theorem fb140 (w : World) : fiB (KW w) 140 = true := by kernel_rfl
theorem fo140 (w : World) : (KW w).lookup 140 = some (objAt 140) := by kernel_rfl
theorem fi140 (W : Wd) (hK : W.K = KW W.w) : FiOk W 140 (fiAt 140) := fi_ok ⟨objAt 140, by rw [hK]; exact fo140 _, by kernel_rfl⟩ (by kernel_rfl) (by rw [hK]; exact fb140 _) (fbind2 (by kernel_rfl) fun x y => by kernel_rfl)
noncomputable def wsStr : Str := ⟨([10, 9, 13, 32] : List Nat).toArray⟩
theorem body140 : ∃ p1 q1 k1 r1 t1 p2 q2 r2 t2 p3 q3 k3 r3 t3 p4 q4 r4 t4, bodyAt 140 = [.Assign [.Attribute (.Name "self" p1) "lineno" q1] (.Constant (.int 1) k1 r1) t1, .Assign [.Attribute (.Name "self" p2) "instream" q2] (.Name "fp" r2) t2,
    .Assign [.Attribute (.Name "self" p3) "whitespace" q3] (.Constant (.str wsStr) k3 r3) t3, .Assign [.Attribute (.Name "self" p4) "pushback" q4] (.List [] r4) t4] := ⟨_, _, _, _, _, _, _, _, _, _, _, _, _, _, _, _, _, _, rfl⟩
theorem loc140 : ((fdAt 140).scope.names.lookup ("self" : Str) == some .local && (fdAt 140).scope.names.lookup ("fp" : Str) == some .local && (fdAt 140).scope.kind == .function) = true := by kernel_rfl
theorem getL4 {n1 n2 n3 n4 : Str} {h1 h2 h3 h4 : Int} {t1 t2 t3 t4 : Tok} {v1 v2 v3 v4 : Value} (y : Str) : getL y (putL n4 h4 (.str n4 t4) v4 (putL n3 h3 (.str n3 t3) v3 (putL n2 h2 (.str n2 t2) v2 (putL n1 h1 (.str n1 t1) v1 [])))) =
    if y = n4 then some (some v4) else if y = n3 then some (some v3) else if y = n2 then some (some v2) else if y = n1 then some (some v1) else some none := by
  have s0 : StrK [] := fun e he => by cases he
  rw [getL_put s0.put.put.put, getL_put s0.put.put, getL_put s0.put, getL_put s0]
  rfl
section
variable {W : Wd} {A : Around} {s : Shared} {E : Value → Shared → Prop}
theorem nr_core (HW : WOk W) (B : Bg W s.heap) {v : Value} (hd : A.depth + 3 < recursionLimit) {Q : Value → Shared → Prop}
    (h : ∀ h₂ t₂ x dx l es m tk1 tk2, (∀ b o, s.heap.get? b = some o → h₂.get? b = some o) → s.heap.get? x = none → s.heap.get? dx = none → s.heap.get? l = none → l ≠ x → l ≠ dx → h₂.get? x = some (instObj 164 dx) → h₂.get? dx = some (dictOf es m) → h₂.get? l = some { cls := .type "list", data := .seq #[] } → StrK es →
      (∀ y, getL y es = if y = ("pushback" : Str) then some (some (.ref l)) else if y = ("whitespace" : Str) then some (some (.str wsStr tk2)) else if y = ("instream" : Str) then some (some v) else if y = ("lineno" : Str) then some (some (.int 1 tk1)) else some none) → Q (.ref x) { s with heap := h₂, toks := t₂ }) :
    wpAny (model W.prog W.w) A (call (.ref 164) [v]) Q E s := by
  obtain ⟨p1, q1, k1, r1, t1, p2, q2, r2, t2, p3, q3, k3, r3, t3, p4, q4, r4, t4, hb⟩ := body140
  have hloc := loc140
  simp only [Bool.and_eq_true, beq_iff_eq] at hloc
  obtain ⟨⟨l1, l2⟩, lk⟩ := hloc
  have hf := nr_facts W.w
  rw [Bool.and_eq_true, Bool.and_eq_true, beq_iff_eq] at hf
  obtain ⟨⟨f1, f2⟩, f3⟩ := hf
  obtain ⟨hp, gs, dr, tk, os⟩ := s
  have X : (KW W.w).In hp := fun a o e => B.kin a o (by rw [HW.K]; exact e)
  refine wpAny_call (make_core (makes_of X f1) (looks_findIn X f2) (fun self => bind_fn X self (beq_iff_eq.mp f3)) (.inl rfl) ?_)
  have up : ∀ b o, hp.get? b = some o → ((hp.push emptyDict).push (instObj 164 hp.objs.size)).get? b = some o := fun b o e => Heap.get?_push_of_some _ (Heap.get?_push_of_some _ e)
  have B1 : Bg W ((hp.push emptyDict).push (instObj 164 hp.objs.size)) := B.keeps up
  have hx0 : ((hp.push emptyDict).push (instObj 164 hp.objs.size)).get? (hp.objs.size + 1) = some (instObj 164 hp.objs.size) := by
    have := Heap.get?_push_size (h := hp.push emptyDict) (o := instObj 164 hp.objs.size) rfl
    rwa [Heap.size_push] at this
  have hdx0 : ((hp.push emptyDict).push (instObj 164 hp.objs.size)).get? hp.objs.size = some (dictOf [] 0) := Heap.get?_push_of_some _ (Heap.get?_push_size _ rfl)
  have n0 : ∀ a, hp.objs.size ≤ a → hp.get? a = none := fun a ha => by
    cases q : hp.get? a with
    | none => rfl
    | some o => exact absurd (Heap.lt_size q) (Nat.not_lt.mpr ha)
  refine enter (s := ⟨(hp.push emptyDict).push (instObj 164 hp.objs.size), gs, dr, tk, os⟩) (fi140 W HW.K) (by rw [under_depth]; omega) B1.kin B1.lim (vs := [.ref (hp.objs.size + 1), v]) (by kernel_rfl) fun h₁ hns hk E' => ?_
  show PySem.wpAt _ _ (.func (bodyAt 140) _) (execs (bodyAt 140) _) _ _ _
  rw [hb]
  have hL : hp.objs.size + 2 = ((hp.push emptyDict).push (instObj 164 hp.objs.size)).objs.size := by rw [Heap.size_push, Heap.size_push]
  have F : Fr hp _ h₁ _ := ⟨hns, fun b o e => hk b o (up b o e), by show hp.objs.size ≤ ((hp.push emptyDict).push (instObj 164 hp.objs.size)).objs.size; rw [← hL]; omega⟩
  have N : News hp _ h₁ [(hp.objs.size + 1, instObj 164 hp.objs.size), (hp.objs.size, dictOf [] 0)] := fun q hq => by
    rcases List.mem_cons.mp hq with rfl | hq
    · exact ⟨hk _ _ hx0, by show hp.objs.size + 1 ≠ ((hp.push emptyDict).push (instObj 164 hp.objs.size)).objs.size; rw [← hL]; omega, n0 _ (Nat.le_succ _)⟩
    · rcases List.mem_singleton.mp hq with rfl
      exact ⟨hk _ _ hdx0, by show hp.objs.size ≠ ((hp.push emptyDict).push (instObj 164 hp.objs.size)).objs.size; rw [← hL]; omega, n0 _ (Nat.le_refl _)⟩
  have s0 : StrK [] := fun e he => by cases he
  refine PySem.wpAt_of_wpAny (wpAny_execs_cons (plainObj_wpAny_Assign_Attribute (wpAny_Constant_int ?_)))
  refine wpAny_Name (wpAny_loadName_local (env := callEnv (fdAt 140) _ 140) lk l1 F.ns (v := .ref (hp.objs.size + 1)) (by kernel_rfl) ?_) (by decide +kernel)
  refine set_step (K := KW W.w) F X N s0 (nr_set1 W.w) (by decide) (Nat.succ_ne_self _) (fun q hq => by cases hq) fun hA hs1 u1 v1 FA NA => ?_
  refine wpAny_execs_cons (plainObj_wpAny_Assign_Attribute ?_)
  refine wpAny_Name (wpAny_loadName_local (env := callEnv (fdAt 140) _ 140) lk l2 FA.ns (v := v) (by kernel_rfl) ?_) (by decide +kernel)
  refine wpAny_Name (wpAny_loadName_local (env := callEnv (fdAt 140) _ 140) lk l1 FA.ns (v := .ref (hp.objs.size + 1)) (by kernel_rfl) ?_) (by decide +kernel)
  refine set_step (K := KW W.w) FA X NA s0.put (nr_set2 W.w) (Nat.le_trans (Nat.succ_le_succ putL_len) (by decide)) (Nat.succ_ne_self _) (fun q hq => by cases hq) fun hB hs2 u2 v2 FB NB => ?_
  refine wpAny_execs_cons (plainObj_wpAny_Assign_Attribute (wpAny_Constant_str ?_))
  refine wpAny_Name (wpAny_loadName_local (env := callEnv (fdAt 140) _ 140) lk l1 FB.ns (v := .ref (hp.objs.size + 1)) (by kernel_rfl) ?_) (by decide +kernel)
  refine set_step (K := KW W.w) FB X NB s0.put.put (nr_set3 W.w) (Nat.le_trans (Nat.succ_le_succ (Nat.le_trans putL_len (Nat.succ_le_succ putL_len))) (by decide)) (Nat.succ_ne_self _) (fun q hq => by cases hq) fun hC hs3 u3 v3 FC NC => ?_
  refine wpAny_execs_cons (plainObj_wpAny_Assign_Attribute ?_)
  refine List_ (spliced_nil (wpAny_newList ?_ (by decide)))
  have FD := FC.push { cls := .type "list", data := .seq ([] : List Value).toArray }
  have ND := NC.push FC { cls := .type "list", data := .seq ([] : List Value).toArray }
  refine wpAny_Name (wpAny_loadName_local (env := callEnv (fdAt 140) _ 140) lk l1 FD.ns (v := .ref (hp.objs.size + 1)) (by kernel_rfl) ?_) (by decide +kernel)
  have hsl : hp.get? hC.objs.size = none := (ND _ (.head _)).2.2
  have hlx : hC.objs.size ≠ hp.objs.size + 1 := fun e => by
    have := (NC _ (.head _)).1
    exact absurd (Heap.lt_size this) (by show ¬ hp.objs.size + 1 < hC.objs.size; rw [e]; exact Nat.lt_irrefl _)
  have hld : hC.objs.size ≠ hp.objs.size := fun e => by
    have := (NC _ (.tail _ (.head _))).1
    exact absurd (Heap.lt_size this) (by show ¬ hp.objs.size < hC.objs.size; rw [e]; exact Nat.lt_irrefl _)
  have ND' : News hp _ (hC.push { cls := .type "list", data := .seq ([] : List Value).toArray }) ((hp.objs.size + 1, instObj 164 hp.objs.size) :: (hp.objs.size, _) :: [(hC.objs.size, { cls := .type "list", data := .seq ([] : List Value).toArray })]) := fun q hq => by
    rcases List.mem_cons.mp hq with rfl | hq
    · exact ND _ (.tail _ (.head _))
    · rcases List.mem_cons.mp hq with rfl | hq
      · exact ND _ (.tail _ (.tail _ (.head _)))
      · rcases List.mem_singleton.mp hq with rfl
        exact ND _ (.head _)
  refine set_step (K := KW W.w) FD X ND' s0.put.put.put (nr_set4 W.w) (Nat.le_trans (Nat.succ_le_succ (Nat.le_trans putL_len (Nat.succ_le_succ (Nat.le_trans putL_len (Nat.succ_le_succ putL_len))))) (by decide)) (Nat.succ_ne_self _) (fun q hq => by
    rcases List.mem_singleton.mp hq with rfl
    exact hld) fun hE hs4 u4 v4 FE NE => ?_
  refine wpAny_execs_nil ⟨rfl, ?_⟩
  exact h hE _ _ _ _ _ _ _ _ FE.keep (n0 _ (Nat.le_succ _)) (n0 _ (Nat.le_refl _)) hsl hlx hld (NE _ (.head _)).1 (NE _ (.tail _ (.head _))).1 (NE _ (.tail _ (.tail _ (.head _)))).1 s0.put.put.put.put getL4
end
end
end Mine
end

section
open PySem PySem.Spec PySem.Calls PyProof.Rows PySem.W
set_option Elab.async false
set_option maxRecDepth 100000
namespace Mine
noncomputable section
section
variable {W : Wd} {h₀ : Heap} {k : Nat} {c : Ctx} {A : Around} {env : Env} {ρ ρ' : Nat → Addr} {σ σ' : St} {s s' : Shared} {E : Value → Shared → Prop}
theorem prim192 (HW : WOk W) (G : Gd W h₀ k c A env ρ σ s) {l : List AV} {v : Value} (V : VV W s ρ σ (.lst l) v) {Q : Value → Shared → Prop}
    (h : ∀ v s' ρ', MV W h₀ ρ σ s ρ' σ s' → VV W s' ρ' σ (.ins 192 [("comp_select_list", .lst l)]) v → Q v s') : wpAny (model W.prog W.w) A (call (.ref 192) [v]) Q E s := by
  refine tc_core HW G.bg (by have := G.depth; omega) fun h₂ t₂ x dx es m hk hx hdx ox od hs hg => ?_
  have m₁ : MV W h₀ ρ σ s ρ σ { s with heap := h₂, toks := t₂ } := Mv.heap G.rel hk
  refine h _ _ ρ m₁ (.ins (fun _ => v) ox (G.rel.unt_new hx) od (G.rel.unt_new hdx) (fun y e => ?_) (fun y z e => ?_) (fun y z e => ?_))
  · rw [hg]
    rw [List.lookup_cons] at e
    cases hy : y == ("comp_select_list" : Str) with
    | true => rw [hy] at e; first | exact no e | cases e
    | false => rw [if_neg (by simpa using hy)]
  · rw [List.lookup_cons] at e
    cases hy : y == ("comp_select_list" : Str) with
    | true =>
      rw [hg, if_pos (by simpa using hy)]
      obtain ⟨a, vs, rfl, _⟩ := V.lstI
      exact ⟨rfl, rfl⟩
    | false => rw [hy] at e; first | exact no e | cases e
  · rw [List.lookup_cons] at e
    cases hy : y == ("comp_select_list" : Str) with
    | true => rw [hy] at e; cases e; exact m₁.vr G.rel V
    | false => rw [hy] at e; first | exact no e | cases e

noncomputable def nrF (n : Nat) : List (Str × AV) := [("lineno", .int (.c 1)), ("instream", .none), ("whitespace", .str [10, 9, 13, 32]), ("pushback", .ref n)]
theorem nr_names : ("pushback" : Str) ≠ "lineno" ∧ ("pushback" : Str) ≠ "instream" ∧ ("pushback" : Str) ≠ "whitespace" ∧ ("whitespace" : Str) ≠ "lineno" ∧ ("whitespace" : Str) ≠ "instream" ∧ ("instream" : Str) ≠ "lineno" := by decide +kernel
theorem nrL1 (n : Nat) : (nrF n).lookup ("lineno" : Str) = some (.int (.c 1)) := by kernel_rfl
theorem nrL2 (n : Nat) : (nrF n).lookup ("instream" : Str) = some .none := by kernel_rfl
theorem nrL3 (n : Nat) : (nrF n).lookup ("whitespace" : Str) = some (.str [10, 9, 13, 32]) := by kernel_rfl
theorem nrL4 (n : Nat) : (nrF n).lookup ("pushback" : Str) = some (.ref n) := by kernel_rfl
theorem prim164 (HW : WOk W) (G : Gd W h₀ k c A env ρ σ s) {Q : Value → Shared → Prop}
    (h : ∀ v s' ρ', MV W h₀ ρ σ s ρ' (σ.new (.list [])) s' → VV W s' ρ' (σ.new (.list [])) (.ins 164 (nrF σ.n)) v → Q v s') : wpAny (model W.prog W.w) A (call (.ref 164) [.none]) Q E s := by
  refine nr_core HW G.bg (by have := G.depth; omega) fun h₂ t₂ x dx l es m tk1 tk2 hk hx hdx hl hlx hld ox od ol hs hg => ?_
  have m₁ : MV W h₀ ρ σ s (fun i => if i = σ.n then l else ρ i) (σ.new (.list [])) { s with heap := h₂, toks := t₂ } := Mv.new (co := { cls := .type "list", data := .seq ([] : List Value).toArray }) G.rel hl hk ol (.list rfl (fun i x v e => by simp at e))
  have unt : ∀ a, s.heap.get? a = none → a ≠ l → Unt (fun i => if i = σ.n then l else ρ i) (σ.new (.list [])) a := fun a ha hne j o q e => by
    rw [St.get_new] at q
    by_cases hj : σ.n = j
    · subst hj
      exact hne (by simpa using e.symm)
    · rw [if_neg hj] at q
      obtain ⟨_, co, ej, _⟩ := G.rel.ob j o q
      have : ρ j = a := by simpa [Ne.symm hj] using e
      rw [this, ha] at ej; first | exact no ej | cases ej
  obtain ⟨n1, n2, n3, n4, n5, n6⟩ := nr_names
  have key : ∀ y z, (nrF σ.n).lookup y = some z → (y = ("lineno" : Str) ∧ z = .int (.c 1)) ∨ (y = ("instream" : Str) ∧ z = .none) ∨ (y = ("whitespace" : Str) ∧ z = .str [10, 9, 13, 32]) ∨ (y = ("pushback" : Str) ∧ z = .ref σ.n) := fun y z e => by
    unfold nrF at e
    rw [List.lookup_cons] at e
    cases h1 : y == ("lineno" : Str) with
    | true => rw [h1] at e; cases e; exact .inl ⟨by simpa using h1, rfl⟩
    | false =>
      rw [h1] at e
      simp only [List.lookup_cons] at e
      cases h2 : y == ("instream" : Str) with
      | true => rw [h2] at e; cases e; exact .inr (.inl ⟨by simpa using h2, rfl⟩)
      | false =>
        rw [h2] at e
        cases h3 : y == ("whitespace" : Str) with
        | true => rw [h3] at e; cases e; exact .inr (.inr (.inl ⟨by simpa using h3, rfl⟩))
        | false =>
          rw [h3] at e
          cases h4 : y == ("pushback" : Str) with
          | true => rw [h4] at e; cases e; exact .inr (.inr (.inr ⟨by simpa using h4, rfl⟩))
          | false => rw [h4] at e; first | exact no e | cases e
  let g : Str → Value := fun y => if y = ("pushback" : Str) then .ref l else if y = ("whitespace" : Str) then .str wsStr tk2 else if y = ("instream" : Str) then .none else .int 1 tk1
  have g1 : g "lineno" = .int 1 tk1 := by show (if _ then _ else if _ then _ else if _ then _ else _) = _; rw [if_neg n1.symm, if_neg n4.symm, if_neg n6.symm]
  have g2 : g "instream" = .none := by show (if _ then _ else if _ then _ else if _ then _ else _) = _; rw [if_neg n2.symm, if_neg n5.symm, if_pos rfl]
  have g3 : g "whitespace" = .str wsStr tk2 := by show (if _ then _ else if _ then _ else if _ then _ else _) = _; rw [if_neg n3.symm, if_pos rfl]
  have g4 : g "pushback" = .ref l := by show (if _ then _ else if _ then _ else if _ then _ else _) = _; rw [if_pos rfl]
  refine h _ _ _ m₁ (.ins g ox (unt x hx hlx.symm) od (unt dx hdx hld.symm) (fun y e => ?_) (fun y z e => ?_) (fun y z e => ?_))
  · have no : ∀ (n : Str) (z : AV), (nrF σ.n).lookup n = some z → y ≠ n := fun n z hn hy => by rw [hy, hn] at e; first | exact no e | cases e
    rw [hg, if_neg (no _ _ (nrL4 σ.n)), if_neg (no _ _ (nrL3 σ.n)), if_neg (no _ _ (nrL2 σ.n)), if_neg (no _ _ (nrL1 σ.n))]
  · rcases key y z e with ⟨rfl, rfl⟩ | ⟨rfl, rfl⟩ | ⟨rfl, rfl⟩ | ⟨rfl, rfl⟩
    · rw [g1, hg, if_neg n1.symm, if_neg n4.symm, if_neg n6.symm, if_pos rfl]; exact ⟨rfl, rfl⟩
    · rw [g2, hg, if_neg n2.symm, if_neg n5.symm, if_pos rfl]; exact ⟨rfl, rfl⟩
    · rw [g3, hg, if_neg n3.symm, if_pos rfl]; exact ⟨rfl, rfl⟩
    · rw [g4, hg, if_pos rfl]; exact ⟨rfl, rfl⟩
  · rcases key y z e with ⟨rfl, rfl⟩ | ⟨rfl, rfl⟩ | ⟨rfl, rfl⟩ | ⟨rfl, rfl⟩
    · rw [g1]; exact .int (.c 1) tk1
    · rw [g2]; exact .none
    · rw [g3]; exact .str [10, 9, 13, 32] tk2
    · rw [g4]
      have : VR W.prog W.w W.θ h₂ (fun i => if i = σ.n then l else ρ i) (σ.new (.list [])) (.ref σ.n) (.ref ((fun i => if i = σ.n then l else ρ i) σ.n)) := .ref σ.n (Nat.lt_succ_self _)
      simpa using this
end
end
end Mine
end

section
open PySem PySem.Spec PySem.Calls PyProof.Rows PySem.W
set_option Elab.async false
set_option maxRecDepth 100000
namespace Mine
noncomputable section
theorem slot122 : ((objAt 122).slots.toList[4]?).join = some (.builtin "list.__new__") := by kernel_rfl
theorem fo122 (w : World) : (KW w).lookup 122 = some (objAt 122) := by kernel_rfl
noncomputable def clsB (o : Obj) : Bool := match o.data with
  | .cls cd => !cd.abstract && !cd.hasDel && cd.mro == [.ref 122, .type "list", .type "object"]
  | _ => false
theorem cls122b : clsB (objAt 122) = true := by kernel_rfl
theorem call122 (w : World) : specialIn (KW w) (.ref 122) "__call__" = some (some (.builtin "type.__call__")) := by kernel_rfl
theorem typ122 (w : World) : instIn (KW w) (.ref 122) (.type "type") = some true := by kernel_rfl
theorem init122 (w : World) : findIn (KW w) (.ref 122) "__init__" = some (some (.ref 59)) := by kernel_rfl
theorem fn59 (w : World) : typeIn (KW w) (.ref 59) = some (.type "function") := by kernel_rfl
section
variable {prog : Program} {w : World} {A : Around} {R : Result → Shared → Prop} {h : Heap} {g : Array GenState} {d : Drawn} {t : Nat} {os : OsState} {M : Model}
theorem made122 (X : (KW w).In h) : Looks M h (Bind.madeBy (.ref 122)) (some "list.__new__") := by
  have hb := cls122b
  unfold clsB at hb
  split at hb
  · rename_i cd hd
    simp only [Bool.and_eq_true, beq_iff_eq] at hb
    intro A Q E s k q
    have hx := k _ _ (X _ _ (fo122 w))
    unfold Bind.madeBy
    refine wpAny_bind ?_
    unfold mroOf
    refine wpAny_bind ?_
    unfold classData
    refine wpAny_bind (wpAny_load hx ?_)
    rw [hd]
    refine wpAny_pure (wpAny_pure ?_)
    rw [hb.2, List.forIn_cons]
    refine wpAny_bind (wpAny_bind (wpAny_bind (wpAny_bind (wpAny_loadPart hx (wpAny_pure ?_)))))
    have hs := slot122
    rw [← Array.getElem?_toList, hs]
    exact wpAny_pure (wpAny_pure (wpAny_pure q))
  · first | exact no hb | cases hb

theorem obj122 (X : (KW w).In h) : ∃ oc od cd sl, h.get? 122 = some ⟨oc, od, .cls cd, sl⟩ ∧ cd.abstract = false ∧ cd.hasDel = false ∧ cd.mro = [.ref 122, .type "list", .type "object"] := by
  have hb := cls122b
  have hx := X _ _ (fo122 w)
  generalize objAt 122 = o at hb hx
  obtain ⟨oc, od, da, sl⟩ := o
  unfold clsB at hb
  cases da <;> first | (cases hb; done) | skip
  rename_i cd
  simp only [Bool.and_eq_true, beq_iff_eq, Bool.not_eq_true'] at hb
  exact ⟨oc, od, cd, sl, hx, hb.1.1, hb.1.2, hb.2⟩
theorem base122 (X : (KW w).In h) : Looks M h (Bind.staticBase (.ref 122)) (.ref 122) := by
  obtain ⟨oc, od, cd, sl, hC, e1, e2, e3⟩ := obj122 X
  have hm : Looks M h (mroOf (.ref 122)) cd.mro := ((Looks.ld (part := none) hC).andThen .now).andThen .now
  intro A Q E s k q
  unfold Bind.staticBase
  refine wpAny_bind (hm A _ E s k ?_)
  rw [e3, List.forIn_cons]
  exact wpAny_bind (wpAny_bind (wpAny_bind (made122 X A _ E s k (wpAny_pure (wpAny_pure (wpAny_pure q))))))
theorem kind_new : builtinKind "list.__new__" = some .builtinFn := by decide +kernel
theorem split_new : splitId "list.__new__" = some ("list", "__new__") := by decide +kernel
theorem args_new (a : Value) : argsOk "list.__new__" ⟨[a], []⟩ := by unfold argsOk; kernel_rfl
theorem chk122 (X : (KW w).In h) : Looks (model prog w) h (checkBuiltinCall "list.__new__" ⟨[.ref 122], []⟩) () := by
  obtain ⟨oc, od, cd, sl, hC, e1, e2, e3⟩ := obj122 X
  intro A Q E s k q
  obtain ⟨hp, g, d, t, os⟩ := s
  have hC' : hp.get? 122 = some ⟨oc, od, .cls cd, sl⟩ := k _ _ hC
  have base := (base122 (M := model prog w) X).keeps k
  have made := (made122 (M := model prog w) X).keeps k
  have sub : Looks (model prog w) hp (isSubtype (.ref 122) (.type "list")) true := looks_subIn (fun a o e => k a o (X a o e)) (sub122 w)
  have ha := args_new (.ref 122)
  simp only [checkBuiltinCall, kind_new, split_new]
  repeat (first | simp only [bne_self_eq_false, beq_self_eq_true, Bool.not_true, Bool.false_eq_true, if_false, if_true] | lk)
  exact q
noncomputable abbrev accObj (dx : Addr) : Obj := ⟨.ref 122, some dx, .seq #[] 0, #[]⟩
theorem new122 (X : (KW w).In h) (hq : R (.ok (.ret (.ref (h.objs.size + 1)))) ⟨(h.push emptyDict).push (accObj h.objs.size), g, d, t, os⟩) :
    codeAny (model prog w) A (.call (.builtin "list.__new__") ⟨[.ref 122], []⟩) R ⟨h, g, d, t, os⟩ := by
  obtain ⟨oc, od, cd, sl, hC, e1, e2, e3⟩ := obj122 X
  have sub : Looks (model prog w) h (isSubtype (.ref 122) (.type "list")) true := looks_subIn X (sub122 w)
  refine codeAny_of_tree ?_
  show wpAny _ A.in1 (do checkBuiltinCall "list.__new__" ⟨[.ref 122], []⟩; again (.builtin "list.__new__" ⟨[.ref 122], []⟩)) _ _ _
  refine wpAny_bind (Looks.at (chk122 X) (wpAny_pure ⟨plainId_quiet F.plain_list_new _, codeAny_builtin_stack F.entry_list_new rfl fun p st => ?_⟩))
  rw [Around.under_plainId F.plain_list_new _]
  have hown := owner_list_new
  simp only [hown]
  have fin : wpAny (model prog w) A.in1 (do
      let .ref d ← newDict | unsupported "internal:list.__new__"
      ret (← newObj (.ref 122) (.seq #[]) (some d))) (fun fin s' => match fin with | .done f => R (.ok f) s' | .again c' => c'.quiet = true ∧ codeAny (model prog w) A c' R s') (fun e s' => R (.error e) s') ⟨h, g, d, t, os⟩ := by
    refine wpAny_bind (wpAny_newObj_type ?_)
    dsimp only
    refine wpAny_bind ?_
    show wpAny _ _ (newObjAsIs _ _ _) _ _ _
    unfold newObjAsIs classHasDel
    refine wpAny_bind (wpAny_alloc (wpAny_bind (wpAny_bind (wpAny_load (Heap.get?_push_of_some _ (Heap.get?_push_of_some _ hC)) (wpAny_pure ?_)))))
    rw [e2]
    refine wpAny_pure (wpAny_pure ?_)
    show R _ _
    rw [Heap.size_push]
    exact hq
  repeat (first | exact fin | simp only [bne_self_eq_false, beq_self_eq_true, Bool.not_true, Bool.false_eq_true, if_false, if_true, typeHasDict] | lk)
  all_goals trace_state
end
end
end Mine
end

section
open PySem PySem.Spec PySem.Calls PyProof.Rows PySem.W Builtin.ObjectAttr
set_option Elab.async false
set_option maxRecDepth 100000
namespace Mine
noncomputable section
theorem refuse122 (x : Value) : refuseLoop x "__setattr__" [.ref 122, .type "list", .type "object"] = pure () := by kernel_rfl
noncomputable def dfl59 : Value := match (fdAt 59).defaults with
  | .ref a => (match (objAt a).data with | .seq xs _ => xs.toList.headD .none | _ => .none)
  | _ => .none
theorem bind59 (w : World) (x : Addr) : ∀ S, peek (KW w) S (bindArgs (fdAt 59) ⟨[.ref x], []⟩) = some ([("self", .ref x), ("initial_size", dfl59)] : List (Str × Value)) := by intro S; kernel_rfl
theorem taker122 (w : World) : takerIn (KW w) 122 "_initial_size" = some none := by kernel_rfl
theorem hasd122 (w : World) : hasDictIn (KW w) 122 = true := by kernel_rfl
theorem seta122 (w : World) : findIn (KW w) (.ref 122) "__setattr__" = some (some (.builtin "object.__setattr__")) := by kernel_rfl

theorem mroB122 (w : World) : ∃ cd, clsIn (KW w) 122 = some cd ∧ cd.mro = [.ref 122, .type "list", .type "object"] := by
  obtain ⟨cd, hc, hm⟩ := Option.map_eq_some_iff.mp (mro122 w)
  exact ⟨cd, hc, hm⟩
theorem find_ini (w : World) : findIn (KW w) (.ref 122) "_initial_size" = some none := by kernel_rfl
section
variable {w : World} {A : Around} {E : Value → Shared → Prop} {s : Shared} {R : Result → Shared → Prop}
theorem osa122 {x dx : Addr} {ox : Obj} {es : List DictEntry} {m : Nat} {v : Value} {tk : Tok} (X : (KW w).In s.heap) (I : InstAt s.heap x ox 122 (some (dictOf es m))) (hd : ox.dict = some dx) (hs : StrK es) (hz : es.length + 1 ≤ 1000)
    (h : ∀ h' hsh t tk', h'.get? dx = some (dictOf (putL "_initial_size" hsh (.str "_initial_size" t) v es) (putN "_initial_size" es m)) → (∀ b o, b ≠ dx → s.heap.get? b = some o → h'.get? b = some o) → R (.ok (.ret .none)) { s with heap := h', toks := tk' }) :
    codeAny (model PR w) A (.call (.builtin "object.__setattr__") ⟨[.ref x, .str "_initial_size" tk, v], []⟩) R s := by
  have SF := PySem.F.store_object
  obtain ⟨cd, hc, hmro⟩ := mroB122 w
  have ne : cd.mro.isEmpty = false := by rw [hmro]; rfl
  have sub : Looks (model PR w) s.heap (isInstance (.ref x) (.type "object")) true := I.type.andThen (looks_mroIn X (by unfold mroIn; rw [hc, Option.bind_some, if_neg (by rw [ne]; decide), hmro]; rfl))
  refine codeAny_call_builtin SF.slot.plain SF.entry (@check_slot (model PR w) _ _ s "object.__setattr__" "object" "__setattr__" (.ref x) [.str "_initial_size" tk, v] [] _ SF.kind SF.split sub (SF.args (.ref x) (.str "_initial_size" tk) v) ?_)
  have hm : Looks (model PR w) s.heap (mroOf (.ref 122)) cd.mro := (looks_clsIn X hc).andThen .now
  rw [osa_eq, refuse_eq]
  refine wpAny_bind (wpAny_bind (I.type.here (wpAny_bind (hm.here ?_))))
  rw [hmro, refuse122]
  refine wpAny_pure (wpAny_bind (I.type.here (wpAny_bind ((looks_findIn X (find_ini w)).here (wpAny_bind (wpAny_pure ?_))))))
  obtain ⟨cd', hc', hd'⟩ := any_some (hasd122 w)
  have D := I.dict
  obtain ⟨hx, hcl, hn, -⟩ := I
  obtain ⟨oc, odi, oda, osl⟩ := ox
  dsimp only at hcl hd
  subst hcl hd
  dsimp only at D
  refine wpAny_bind (wpAny_pure (wpAny_bind (wpAny_bind (wpAny_loadPart hx (wpAny_bind ((looks_clsIn X hc').here ?_))))))
  rw [hd']
  refine wpAny_pure (a := some dx) (wpAny_bind (wpAny_pure (wpAny_bind ?_)))
  unfold nsSet
  refine wpAny_bind (wpAny_bind (wpAny_askSetting (wpAny_pure (wpAny_bind (wpAny_mkText (wpAny_bind (wpAny_loadPart D ?_)))))))
  dsimp only
  have c : (!es.toArray.any (·.key.isStr "_initial_size") && es.toArray.any (·.refKey)) = false := by
    have : es.any (·.refKey) = false := by
      rw [List.any_eq_false]
      intro e he
      obtain ⟨x, t, hk⟩ := hs e he
      unfold DictEntry.refKey
      rw [hk]
      exact Bool.false_ne_true
    rw [← Array.any_toList, ← Array.any_toList]
    show (_ && es.any (·.refKey)) = false
    rw [this, Bool.and_false]
  rw [aRefKeyMayBeTheName_at, c]
  have D' := Heap.get?_update_self (Obj.putName "_initial_size" (PyData.keyHash w.params "_initial_size") (.str "_initial_size" s.toks) v) D (by rw [putName_dict]; rfl)
  rw [putName_dict] at D'
  refine wpAny_updatePart D ?_
  refine wpAny_bind (wpAny_lookBehind D' (by exact pastItsLine_dict (by rw [List.size_toArray, sizeLine_eq]; exact Nat.le_trans putL_len (Nat.le_trans hz (by decide)))) ?_)
  exact wpAny_pure (h _ _ _ _ D' fun b o hb e => (Heap.get?_update_other _ _ (Ne.symm hb)).trans e)
end
end
end Mine
end

section
open PySem PySem.Spec PySem.Calls PyProof.Rows PySem.W Builtin.ObjectAttr
set_option Elab.async false
set_option maxRecDepth 100000
namespace Mine
noncomputable section
section
variable {w : World} {A : Around} {R : Result → Shared → Prop} {h : Heap} {g : Array GenState} {d : Drawn} {t : Nat} {os : OsState}
theorem make_acc (X : (KW w).In h)
    (hq : codeAny (model PR w) (A.under (.builtin "type.__call__" ⟨[.ref 122], []⟩)) (.call (.ref 59) ⟨[.ref (h.objs.size + 1)], []⟩) (InitBack (h.objs.size + 1) R) ⟨(h.push emptyDict).push (accObj h.objs.size), g, d, t, os⟩) :
    codeAny (model PR w) A (.call (.ref 122) ⟨[], []⟩) R ⟨h, g, d, t, os⟩ := by
  obtain ⟨oc, od, cd, sl, hC, e4, e2, e3⟩ := obj122 X
  have call := looks_specialIn (M := model PR w) X (call122 w)
  have e5 : cd.mro.isEmpty = false := by rw [e3]; rfl
  refine codeAny_of_tree ?_
  show wpAny _ _ (callAny (.ref 122) _) _ _ _
  refine nd_load hC ?_
  show wpAny _ _ (callAny.viaDunder (.ref 122) _) _ _ _
  unfold callAny.viaDunder
  refine wpAny_bind (call.at ?_)
  dsimp only
  rw [tc_bind]
  refine wpAny_bind (wpAny_pure (wpAny_bind (wpAny_pure ?_)))
  refine wpAny_pure (a := Fin.again (.call (.builtin "type.__call__") ⟨[.ref 122], []⟩)) (And.intro rfl ?_)
  refine codeAny_call_builtin_at (Code.quiet_builtin _ (by decide +kernel)) entry_typeCall (check_slot tc_kind tc_split (looks_instIn X (typ122 w)) (tc_args _ _ _) ?_)
  have base := base122 (M := model PR w) X
  have made := made122 (M := model PR w) X
  unfold Builtin.«type.__call__»
  have hm : Looks (model PR w) h (mroOf (.ref 122)) cd.mro := ((Looks.ld (part := none) hC).andThen .now).andThen .now
  repeat (first | simp only [e4, e5, Bool.false_eq_true, if_false] | with_reducible refine wpAny_call ?_ | lk)
  refine new122 X ?_
  have k : ∀ b o, h.get? b = some o → ((h.push emptyDict).push (accObj h.objs.size)).get? b = some o := fun b o e => Heap.get?_push_of_some _ (Heap.get?_push_of_some _ e)
  have hx : ((h.push emptyDict).push (accObj h.objs.size)).get? (h.objs.size + 1) = some (accObj h.objs.size) := by heap_get
  have t1 : Looks (model PR w) ((h.push emptyDict).push (accObj h.objs.size)) (typeOf (.ref (h.objs.size + 1))) (.ref 122) := (Looks.ld hx).andThen .now
  have s1 : Looks (model PR w) ((h.push emptyDict).push (accObj h.objs.size)) (isSubtype (.ref 122) (.ref 122)) true := looks_subIn (fun a o e => k a o (X a o e)) (subself w)
  have i1 : Looks (model PR w) ((h.push emptyDict).push (accObj h.objs.size)) (typeLookup (.ref 122) "__init__") (some (.ref 59)) := looks_findIn (fun a o e => k a o (X a o e)) (init122 w)
  have b1 := (bind_fn (M := model PR w) (fun a o e => k a o (X a o e)) (.ref (h.objs.size + 1)) (fn59 w))
  unfold isInstance callSpecial? specialOf
  repeat (first | with_reducible refine wpAny_call ?_ | lk)
  refine codeAny_mono hq fun r s' z => ?_
  rcases r with e | (v | _ | _ | _) <;> first | exact z | exact z.elim | skip
  obtain ⟨rfl, z⟩ := z
  exact wpAny_pure (wpAny_pure z)
end
end
end Mine
end

section
open PySem PySem.Spec PySem.Calls PyProof.Rows PySem.W Builtin.ObjectAttr
set_option Elab.async false
set_option maxRecDepth 100000
set_option maxHeartbeats 4000000
namespace Mine
noncomputable section
theorem fb59 (w : World) : fiB (KW w) 59 = true := by kernel_rfl
theorem body59 : ∃ sp p1 pv pa q0 q1 q2 q3 q4, bodyAt 59 = [.Assign [.Attribute (.Name "self" sp) "_initial_size" p1] (.Name "initial_size" pv) pa, .Expr (.Call (.Attribute (.Call (.Name "super" q0) [] [] q1) "__init__" q2) [] [] q3) q4] ∧ (q2.endLine == q3.line) = true := ⟨_, _, _, _, _, _, _, _, _, rfl, rfl⟩
theorem loc59 : ((fdAt 59).scope.names.lookup ("self" : Str) == some .local && (fdAt 59).scope.names.lookup ("initial_size" : Str) == some .local && (fdAt 59).scope.kind == .function) = true := by kernel_rfl
theorem bod59 : (fdAt 59).body = .stmts (bodyAt 59) := by kernel_rfl
theorem dat59 : (objAt 59).data = .func (fdAt 59) := by kernel_rfl
section
variable {W : Wd} {A : Around} {s : Shared} {E : Value → Shared → Prop}
theorem args_list_init0 (a : Value) : argsOk "list.__init__" ⟨[a], []⟩ := by unfold argsOk; kernel_rfl
theorem init_core (HW : WOk W) (B : Bg W s.heap) {x dx : Addr} {n : Nat} (ho : s.heap.get? x = some ⟨.ref 122, some dx, .seq #[] n, #[]⟩) (hdx : s.heap.get? dx = some (dictOf [] 0)) (hxd : x ≠ dx)
    (hd : A.depth < recursionLimit) {R : Result → Shared → Prop}
    (hm : mainGlobals ≠ dx ∧ builtinsNs ≠ dx)
    (hK : ∀ b o, W.K.lookup b = some o → b ≠ dx)
    (h : ∀ h₂ t₂ n' hsh t m, (∀ b o, b ≠ x → b ≠ dx → s.heap.get? b = some o → h₂.get? b = some o) → h₂.get? x = some ⟨.ref 122, some dx, .seq #[] n', #[]⟩ → h₂.get? dx = some (dictOf (putL "_initial_size" hsh (.str "_initial_size" t) dfl59 []) m) → R (.ok (.ret .none)) { s with heap := h₂, toks := t₂ }) :
    codeAny (model W.prog W.w) A (.call (.ref 59) ⟨[.ref x], []⟩) R s := by
  obtain ⟨sp, p1, pv, pa, q0, q1, q2, q3, q4, hbd, hl⟩ := body59
  have hloc := loc59
  simp only [Bool.and_eq_true, beq_iff_eq] at hloc
  obtain ⟨⟨l1, l2⟩, lk⟩ := hloc
  have hf := fb59 W.w
  unfold fiB at hf
  simp only [Bool.and_eq_true, Bool.not_eq_true', beq_iff_eq, decide_eq_true_eq, List.all_eq_true, bne_iff_ne] at hf
  obtain ⟨⟨⟨⟨⟨⟨⟨⟨g1, g2⟩, g3⟩, g4⟩, g5⟩, g6⟩, g7⟩, g8⟩, g9⟩ := hf
  have X : (KW W.w).In s.heap := HW.K ▸ B.kin
  refine ks_codeAny_call_defAt hd (X _ _ (fo59 W.w)) dat59 B.lim (codeRec_of X g1) bod59 (kp_binds X (bind59 W.w x)) g5 (fun p hp => ?_) (fun h₁ hns hk => ?_) g6 g7 g4
  · rcases hp with _ | ⟨_, _ | ⟨_, hp⟩⟩
    · exact l1
    · exact l2
    · first | exact no hp | cases hp
  rw [hbd]
  have X₁ : (KW W.w).In h₁ := fun a o e => hk a o (X a o e)
  have hx := hk _ _ ho
  have hdx' := hk _ _ hdx
  have I : InstAt h₁ x ⟨.ref 122, some dx, .seq #[] n, #[]⟩ 122 (some (dictOf [] 0)) := ⟨hx, rfl, rfl, hdx'⟩
  have hpk := HW.prog
  refine ks_wpAt_execs_cons (PySem.wpAt_of_wpAny (plainObj_wpAny_Assign_Attribute ?_ ?_))
  rotate_left
  · with_unfolding_all rfl
  refine wpAny_Name (wpAny_loadName_local (env := callEnv (fdAt 59) s.heap.objs.size 59) lk l2 hns (v := dfl59) (by kernel_rfl) ?_) (by decide +kernel)
  refine wpAny_Name (wpAny_loadName_local (env := callEnv (fdAt 59) s.heap.objs.size 59) lk l1 hns (v := .ref x) (by kernel_rfl) ?_) (by decide +kernel)
  rw [hpk]
  refine set_plain X₁ I (seta122 _) (osa122 X₁ I rfl (fun e he => by cases he) (by decide) fun h₂ hsh t tk' e₂ k₂ => ?_)
  have hbb : s.heap.get? s.heap.objs.size = none := by
    cases q : s.heap.get? s.heap.objs.size with
    | none => rfl
    | some o => exact absurd (Heap.lt_size q) (Nat.lt_irrefl _)
  have X₂ : (KW W.w).In h₂ := fun a o e => k₂ a o (hK a o (by rw [HW.K]; exact e)) (X₁ a o e)
  have hx₂ := k₂ _ _ hxd hx
  have hLd : s.heap.objs.size ≠ dx := fun e => by rw [e] at hbb; rw [hdx] at hbb; first | exact no hbb | cases hbb
  have ata : ∀ {a : Addr} {mm : Str → Option Value}, h₁.Ns a mm → a ≠ dx → h₂.Ns a mm := fun q e => q.at fun o z => k₂ _ o e z
  have hsx : s.heap.objs.size ≠ x := fun e => by rw [e] at hbb; rw [ho] at hbb; first | exact no hbb | cases hbb
  obtain ⟨hp, gs, dr, tk, os⟩ := s
  dsimp only
  refine ks_wpAt_execs_cons (ks_wpAt_Expr_any ?_ (by show ((fdAt 59).scope.kind == .module && _) = false; rw [lk]; rfl) rfl)
  refine super_call (mg := W.mg) (mb := W.mb) (sf59 W.w) (bm_init W.w) X₂ (ata hns hLd) (by kernel_rfl) (ata (B.ns.keeps hk) hm.1) HW.sup.1 (ata (B.nsb.keeps hk) hm.2) HW.sup.2 hx₂ (acc_ne W.w X₂ hx₂) hl (fun h₃ t₃ k₃ => chk_slot (by decide +kernel) (args_list_init0 _)) fun h₃ t₃ k₃ => ?_
  refine init_body (k₃ _ _ hx₂) fun h₄ n' e₄ s₄ => ?_
  refine PySem.wpAt_of_wpAny (wpAny_execs_nil ?_)
  exact h _ _ n' hsh t _ (fun b o hb1 hb2 e => (s₄.2 b hb1).trans (k₃ b o (k₂ b o hb2 (hk b o e)))) e₄ ((s₄.2 _ (Ne.symm hxd)).trans (k₃ _ _ e₂))
end
end
end Mine
end

section
open PySem PySem.Spec PySem.Calls PyProof.Rows PySem.W Builtin.ObjectAttr
set_option Elab.async false
set_option maxRecDepth 100000
set_option maxHeartbeats 4000000
namespace Mine
noncomputable section
section
variable {W : Wd} {h₀ : Heap} {k : Nat} {c : Ctx} {A : Around} {env : Env} {ρ ρ' : Nat → Addr} {σ σ' : St} {s s' : Shared} {E : Value → Shared → Prop}
theorem Mv.new2 {prog : Program} {w : World} {θ : Nat → Int} (R : Rel prog w θ h₀ ρ σ s.heap) {h' : Heap} {tk : Nat} {a : Addr} {o' : AO} {co : Obj} (ha : s.heap.get? a = none)
    (hk : ∀ b o, s.heap.get? b = some o → h'.get? b = some o) (e : h'.get? a = some co) (r : OR prog w θ h' (fun i => if i = σ.n then a else ρ i) (σ.new o') o' co) :
    Mv prog w θ h₀ ρ σ s (fun i => if i = σ.n then a else ρ i) (σ.new o') { s with heap := h', toks := tk } := by
  have lt : ∀ j o₁, σ.get j = some o₁ → j ≠ σ.n := fun j o₁ q => Nat.ne_of_lt (R.ob j o₁ q).1
  have M : Mono s.heap ρ σ h' (fun i => if i = σ.n then a else ρ i) (σ.new o') := ⟨Nat.le_succ _, fun i hi => if_neg (Nat.ne_of_lt hi), fun b o₁ q _ _ => hk b o₁ q, fun b o₁ q u j o₂ gj z => by
    rw [St.get_new] at gj
    by_cases hj : σ.n = j
    · subst hj
      have z' : a = b := by simpa using z
      rw [← z', ha] at q; first | exact no q | cases q
    · rw [if_neg hj] at gj
      exact u j o₂ gj (by simpa [Ne.symm hj] using z)⟩
  refine ⟨Nat.le_succ _, M.ext, fun j o₁ q => ?_, fun b o₁ q => ⟨o₁, hk b o₁ q⟩, fun b o₁ q _ => hk b o₁ q, ⟨_, _, rfl⟩, ⟨fun j o₁ q => ?_, fun j o₁ q z => ?_, fun j k o₁ o₂ p q z => ?_, fun b o₁ q => hk b o₁ (R.base b o₁ q)⟩⟩
  · rw [St.get_new] at q
    by_cases hj : σ.n = j
    · subst hj; exact .inr ⟨Nat.le_refl _, by simpa using ha⟩
    · rw [if_neg hj] at q; exact .inl ⟨_, q⟩
  · rw [St.get_new] at q
    by_cases hj : σ.n = j
    · subst hj
      rw [if_pos rfl] at q
      cases q
      exact ⟨Nat.lt_succ_self _, co, by simpa using e, r⟩
    · rw [if_neg hj] at q
      obtain ⟨hl, cj, ej, rj⟩ := R.ob j o₁ q
      exact ⟨Nat.lt_succ_of_lt hl, cj, by simpa [Ne.symm hj] using hk _ _ ej, rj.mono M⟩
  · rw [St.get_new] at q
    by_cases hj : σ.n = j
    · subst hj
      show h₀.get? (if σ.n = σ.n then a else ρ σ.n) = none
      rw [if_pos rfl]
      cases y : h₀.get? a with
      | none => rfl
      | some o₂ => rw [R.base _ _ y] at ha; first | exact no ha | cases ha
    · rw [if_neg hj] at q
      show h₀.get? (if j = σ.n then a else ρ j) = none
      rw [if_neg (Ne.symm hj)]
      exact R.nw j o₁ q z
  · rw [St.get_new] at p q
    have z' : (if j = σ.n then a else ρ j) = (if k = σ.n then a else ρ k) := z
    by_cases hj : σ.n = j
    · by_cases hk' : σ.n = k
      · exact hj.symm.trans hk'
      · exfalso
        rw [if_neg hk'] at q
        rw [if_pos hj.symm, if_neg (Ne.symm hk')] at z'
        obtain ⟨_, ck, ek, _⟩ := R.ob k o₂ q
        rw [← z', ha] at ek; first | exact no ek | cases ek
    · by_cases hk' : σ.n = k
      · exfalso
        rw [if_neg hj] at p
        rw [if_pos hk'.symm, if_neg (Ne.symm hj)] at z'
        obtain ⟨_, cj, ej, _⟩ := R.ob j o₁ p
        rw [z', ha] at ej; first | exact no ej | cases ej
      · rw [if_neg hj] at p
        rw [if_neg hk'] at q
        rw [if_neg (Ne.symm hj), if_neg (Ne.symm hk')] at z'
        exact R.inj j k _ _ p q z'
theorem prim122 (HW : WOk W) (G : Gd W h₀ k c A env ρ σ s) {Q : Value → Shared → Prop}
    (h : ∀ v s' ρ', MV W h₀ ρ σ s ρ' (σ.new (.acc [])) s' → VV W s' ρ' (σ.new (.acc [])) (.ref σ.n) v → Q v s') : wpAny (model W.prog W.w) A (call (.ref 122) []) Q E s := by
  have B := G.bg
  have X : (KW W.w).In s.heap := HW.K ▸ B.kin
  have hdp := G.depth
  have m0 := G.rel
  obtain ⟨hp, gs, dr, tk, os⟩ := s
  have hpk := HW.prog
  refine wpAny_call (codeAny_mono (R := fun r s' => ∃ v, r = .ok (.ret v) ∧ Q v s') ?_ fun r s' z => ?_)
  rotate_left
  · obtain ⟨v, rfl, z⟩ := z
    exact z
  rw [hpk]
  refine make_acc X ?_
  rw [← hpk]
  have nx : hp.get? (hp.objs.size + 1) = none := by
    cases q : hp.get? (hp.objs.size + 1) with
    | none => rfl
    | some o => exact absurd (Heap.lt_size q) (Nat.not_lt.mpr (Nat.le_succ _))
  have nd : hp.get? hp.objs.size = none := by
    cases q : hp.get? hp.objs.size with
    | none => rfl
    | some o => exact absurd (Heap.lt_size q) (Nat.lt_irrefl _)
  have hk : ∀ b o, hp.get? b = some o → ((hp.push emptyDict).push (accObj hp.objs.size)).get? b = some o := fun b o e => Heap.get?_push_of_some _ (Heap.get?_push_of_some _ e)
  have hx : ((hp.push emptyDict).push (accObj hp.objs.size)).get? (hp.objs.size + 1) = some (accObj hp.objs.size) := by heap_get
  have hd : ((hp.push emptyDict).push (accObj hp.objs.size)).get? hp.objs.size = some emptyDict := by heap_get
  have hlt1 : mainGlobals < hp.objs.size := B.ns.lt
  have hlt2 : builtinsNs < hp.objs.size := B.nsb.lt
  refine init_core (s := ⟨(hp.push emptyDict).push (accObj hp.objs.size), gs, dr, tk, os⟩) HW (B.keeps hk) hx hd (Nat.succ_ne_self _) (by rw [under_depth]; omega) ⟨Nat.ne_of_lt hlt1, Nat.ne_of_lt hlt2⟩ (fun b o e q => ?_) fun h₂ t₂ n' hsh t m hk2 ex ed => ?_
  · exact Nat.ne_of_lt (Heap.lt_size (B.kin b o e)) q
  refine ⟨rfl, _, rfl, ?_⟩
  have hkk : ∀ b o, hp.get? b = some o → h₂.get? b = some o := fun b o e => hk2 b o (fun q => by rw [q, nx] at e; cases e) (fun q => by rw [q, nd] at e; cases e) (hk b o e)
  have m₁ : MV W h₀ ρ σ ⟨hp, gs, dr, tk, os⟩ (fun i => if i = σ.n then hp.objs.size + 1 else ρ i) (σ.new (.acc [])) { (⟨hp, gs, dr, tk, os⟩ : Shared) with heap := h₂, toks := t₂ } :=
    Mv.new2 m0 nx hkk ex (.acc (vs := []) rfl (fun i x v a => by simp at a) ed (fun j o q e => ?_) (fun y hy => ?_))
  · refine h _ _ _ m₁ ?_
    have e := VR.ref (prog := W.prog) (w := W.w) (θ := W.θ) (h := h₂) (ρ := fun i => if i = σ.n then hp.objs.size + 1 else ρ i) (σ := σ.new (.acc [])) σ.n (Nat.lt_succ_self _)
    rw [if_pos rfl] at e
    exact e
  · rw [St.get_new] at q
    by_cases hj : σ.n = j
    · subst hj
      simp at e
    · rw [if_neg hj] at q
      obtain ⟨_, co, ej, _⟩ := m0.ob j o q
      have : ρ j = hp.objs.size := by simpa [Ne.symm hj] using e
      rw [this, nd] at ej; first | exact no ej | cases ej
  · rw [getL_put (fun e he => by cases he), if_neg hy]
    rfl
end
end
end Mine
end

section
open PySem PySem.Spec PySem.Calls PyProof.Rows PySem.W
set_option Elab.async false
set_option maxRecDepth 100000
set_option maxHeartbeats 4000000
namespace Mine
noncomputable section
/-- add_callers, as a primitive (what is left of PrimOk) -/
noncomputable def P203 (W : Wd) : Prop :=
  ∀ h₀ k c t s₁ (σ : St) r, t.length + s₁.length ≤ 1000 → addC t s₁ = some r → ∀ A env ρ s, Gd W h₀ k c A env ρ σ s → ∀ u v, VV W s ρ σ (.dicI t) u → VV W s ρ σ (.dicI s₁) v → ∀ (Q : Value → Shared → Prop) (E : Value → Shared → Prop),
    (∀ v s' ρ', MV W h₀ ρ σ s ρ' σ s' → VV W s' ρ' σ (.dicI r) v → Q v s') → wpAny (model W.prog W.w) A (PySem.call (.ref 203) [u, v]) Q E s
theorem vvs1 {W : Wd} {s : Shared} {ρ : Nat → Addr} {σ : St} {a : AV} {vs : List Value} (V : VVs W s ρ σ [a] vs) : ∃ v, vs = [v] ∧ VV W s ρ σ a v := by
  match vs, V with
  | [], V => exact V.elim
  | [v], V => exact ⟨v, rfl, V.1⟩
  | _ :: _ :: _, V => exact V.2.elim
theorem vvs2 {W : Wd} {s : Shared} {ρ : Nat → Addr} {σ : St} {a b : AV} {vs : List Value} (V : VVs W s ρ σ [a, b] vs) : ∃ u v, vs = [u, v] ∧ VV W s ρ σ a u ∧ VV W s ρ σ b v := by
  match vs, V with
  | [], V => exact V.elim
  | u :: vs, V =>
    obtain ⟨v, rfl, b⟩ := vvs1 V.2
    exact ⟨u, v, rfl, V.1, b⟩
theorem vvs3 {W : Wd} {s : Shared} {ρ : Nat → Addr} {σ : St} {a b c : AV} {vs : List Value} (V : VVs W s ρ σ [a, b, c] vs) : ∃ u v x, vs = [u, v, x] ∧ VV W s ρ σ a u ∧ VV W s ρ σ b v ∧ VV W s ρ σ c x := by
  match vs, V with
  | [], V => exact V.elim
  | u :: vs, V =>
    obtain ⟨v, x, rfl, b⟩ := vvs2 V.2
    exact ⟨u, v, x, rfl, V.1, b⟩
theorem vv_ref {W : Wd} {s : Shared} {ρ : Nat → Addr} {σ : St} {i : Nat} {v : Value} (V : VV W s ρ σ (.ref i) v) : v = .ref (ρ i) := by cases V; rfl
theorem vv_none {W : Wd} {s : Shared} {ρ : Nat → Addr} {σ : St} {v : Value} (V : VV W s ρ σ .none v) : v = .none := by cases V; rfl
theorem prim_ok {W : Wd} (HW : WOk W) (HK : KOk W.K) (H : P203 W) : PrimOk W := by
  intro h₀ k c f args σ r σ' e A env ρ s G vs V Q E h
  have hdp := G.depth
  unfold primA at e
  split at e
  · rename_i hf; subst hf
    have e := Option.some.inj e
    split at e
    · split at e
      · rename_i hz
        obtain ⟨r', e', e''⟩ := Option.map_eq_some_iff.mp e
        cases e''
        obtain ⟨u, v, rfl, U, V'⟩ := vvs2 V
        exact H _ _ _ _ _ _ _ hz e' _ _ _ _ G _ _ U V' Q E h
      · first | exact no e | cases e
    · first | exact no e | cases e
  split at e
  · rename_i hf; subst hf
    have e := Option.some.inj e
    split at e
    · cases e
      obtain ⟨v, rfl, V'⟩ := vvs1 V
      exact prim192 HW G V' h
    · first | exact no e | cases e
  split at e
  · rename_i hf; subst hf
    have e := Option.some.inj e
    split at e
    · cases e
      obtain ⟨v, rfl, V'⟩ := vvs1 V
      rw [vv_none V']
      exact prim164 HW G h
    · first | exact no e | cases e
  split at e
  · rename_i hf; subst hf
    have e := Option.some.inj e
    split at e
    · cases e
      match vs, V with
      | [], _ => exact prim122 HW G h
      | _ :: _, V => exact V.elim
    · first | exact no e | cases e
  split at e
  · rename_i hf; subst hf
    have e := Option.some.inj e
    split at e
    · split at e
      · rename_i g
        split at e
        · cases e
          obtain ⟨v, rfl, V'⟩ := vvs1 V
          rw [vv_ref V']
          exact prim119 HW G (by omega) g h
        · first | exact no e | cases e
      · first | exact no e | cases e
    · first | exact no e | cases e
  split at e
  · rename_i hf; subst hf
    have e := Option.some.inj e
    split at e
    · split at e
      · rename_i g
        split at e
        · rename_i hz
          cases e
          obtain ⟨v, x, y, rfl, V', X, Y⟩ := vvs3 V
          rw [vv_ref V']
          exact prim66 HW HK G (by omega) g hz X Y h
        · first | exact no e | cases e
      · first | exact no e | cases e
    · first | exact no e | cases e
  split at e
  · rename_i hf; subst hf
    have e := Option.some.inj e
    split at e
    · split at e
      · rename_i g
        split at e
        · rename_i hz
          obtain ⟨v, rfl, V'⟩ := vvs1 V
          rw [vv_ref V']
          exact prim82 HW HK G (by omega) g hz e h
        · first | exact no e | cases e
      · first | exact no e | cases e
    · first | exact no e | cases e
  · first | exact no e | cases e
/-- the machine's ground at this text -/
theorem all_ok {W : Wd} (HW : WOk W) (hT : ThOk W) (H : P203 W) {h₀ : Heap} (X : W.K.In h₀) (T : Top W.p W.loose W.mean W.mg W.mb h₀) : AllOk W gvA ftA := by
  have kk : KOk W.K := HW.K ▸ kok W.w
  exact ⟨hT, gvok W HW.K X T, ftok W HW.K, kk, prim_ok HW kk H, accget W HW.prog HW.K, accit W HW.prog HW.K⟩
end
end Mine
end

section
open PySem PySem.Spec PySem.Calls PyProof.Rows PySem.W
set_option Elab.async false
set_option maxRecDepth 100000
set_option maxHeartbeats 4000000
namespace Mine
noncomputable section
theorem fb203 (w : World) : fiB (KW w) 203 = true := by kernel_rfl
theorem fo203 (w : World) : (KW w).lookup 203 = some (objAt 203) := by kernel_rfl
theorem fi203 (W : Wd) (hK : W.K = KW W.w) : FiOk W 203 (fiAt 203) := fi_ok ⟨objAt 203, by rw [hK]; exact fo203 _, by kernel_rfl⟩ (by kernel_rfl) (by rw [hK]; exact fb203 _) (fbind2 (by kernel_rfl) fun x y => by kernel_rfl)
/-- the shape of the sum -/
noncomputable def augS (st : Stmt) : Prop := ∃ p0 p1 p2 p3 p4, st = .AugAssign (.Subscript (.Name "new_callers" p0) (.Name "func" p1) p2) .Add (.Name "caller" p3) p4
theorem augS_eq {st : Stmt} (h : augS st) : ∃ p0 p1 p2 p3 p4, st = .AugAssign (.Subscript (.Name "new_callers" p0) (.Name "func" p1) p2) .Add (.Name "caller" p3) p4 := h
theorem body203 : ∃ a0 a1 a2 b0 b1 b2 b3 c0 c1 c2 d0 d1 d2 d3 d4 b4 e0 e1 e2 e3 f0 f1 f2 g0 g1 g2 i0 i1 i2 i3 j s3 i5 k0 k1 k2 k3 k4 i4 e4 r0 r1,
    bodyAt 203 = [.Assign [.Name "new_callers" a0] (.Dict [] [] a1) a2,
      .For (.Tuple [.Name "func" b0, .Name "caller" b1] b2 b3) (.Call (.Attribute (.Name "target" c0) "items" c1) [] [] c2) [.Assign [.Subscript (.Name "new_callers" d0) (.Name "func" d1) d2] (.Name "caller" d3) d4] [] b4,
      .For (.Tuple [.Name "func" e0, .Name "caller" e1] e2 e3) (.Call (.Attribute (.Name "source" f0) "items" f1) [] [] f2)
        [.If (.Compare (.Name "func" g0) [.In] [.Name "new_callers" g1] g2) [.If (.Call (.Name "isinstance" i0) [.Name "caller" i1, .Name "tuple" i2] [] i3) [j] [s3] i5] [.Assign [.Subscript (.Name "new_callers" k0) (.Name "func" k1) k2] (.Name "caller" k3) k4] i4] [] e4,
      .Return (some (.Name "new_callers" r0)) r1] ∧ (c1.endLine == c2.line) = true ∧ (f1.endLine == f2.line) = true ∧ augS s3 :=
  ⟨_, _, _, _, _, _, _, _, _, _, _, _, _, _, _, _, _, _, _, _, _, _, _, _, _, _, _, _, _, _, _, _, _, _, _, _, _, _, _, _, _, _, rfl, rfl, rfl, _, _, _, _, _, rfl⟩
theorem loc203 : ((fdAt 203).scope.names.lookup ("target" : Str) == some .local && (fdAt 203).scope.names.lookup ("source" : Str) == some .local && (fdAt 203).scope.names.lookup ("new_callers" : Str) == some .local && (fdAt 203).scope.names.lookup ("func" : Str) == some .local && (fdAt 203).scope.names.lookup ("caller" : Str) == some .local && (fdAt 203).scope.kind == .function) = true := by kernel_rfl
end
end Mine
end

section
open PySem PySem.Spec PySem.Calls PyProof.Rows PySem.W
set_option Elab.async false
set_option maxRecDepth 100000
set_option maxHeartbeats 4000000
namespace Mine
noncomputable section
section
variable {W : Wd} {A : Around} {s : Shared} {E : Value → Shared → Prop} {L : Addr} {m : Str → Option Value} {K : Type} [DecidableEq K] {knd : PySem.KeyKind W.prog W.w K}
theorem set_st {d : Addr} {kvs : List (K × Value)} {key v : Value} {n : K} {p0 p1 p2 p3 p4 : Pos} (hns : s.heap.Ns L m) (h1 : m "new_callers" = some (.ref d)) (h2 : m "func" = some key) (h3 : m "caller" = some v) (hkey : knd.is n key = true) (hd : s.heap.DictOf knd d kvs) (hz : kvs.length ≤ 1000) {Q : Flow → Shared → Prop}
    (h : ∀ h', h'.DictOf knd d (stored kvs n v) → Heap.SameBut d s.heap h' → Q .next { s with heap := h', toks := s.toks + 1 }) :
    wpAny (model W.prog W.w) A (exec (.Assign [.Subscript (.Name "new_callers" p0) (.Name "func" p1) p2] (.Name "caller" p3) p4) (callEnv (fdAt 203) L 203)) Q E s := by
  have hl := loc203
  simp only [Bool.and_eq_true, beq_iff_eq] at hl
  obtain ⟨⟨⟨⟨⟨l1, l2⟩, l3⟩, l4⟩, l5⟩, lk⟩ := hl
  refine wpAny_Assign_Subscript ?_ (by with_unfolding_all rfl)
  refine wpAny_Name (wpAny_loadName_local (env := callEnv (fdAt 203) L 203) lk l5 hns (v := v) h3 ?_) (by decide +kernel)
  refine wpAny_Name (wpAny_loadName_local (env := callEnv (fdAt 203) L 203) lk l3 hns (v := .ref d) h1 ?_) (by decide +kernel)
  refine wpAny_Name (wpAny_loadName_local (env := callEnv (fdAt 203) L 203) lk l4 hns (v := key) h2 ?_) (by decide +kernel)
  exact wpAny_setItem_pairs hkey hd h (Nat.le_trans hz (by decide))
theorem aug_st {d : Addr} {kvs : List (K × Value)} {key : Value} {n : K} {a b : Int} {ta tb : Tok} {p0 p1 p2 p3 p4 : Pos} (hns : s.heap.Ns L m) (h1 : m "new_callers" = some (.ref d)) (h2 : m "func" = some key) (h3 : m "caller" = some (.int b tb)) (hkey : knd.is n key = true) (hd : s.heap.DictOf knd d kvs) (hv : valueAt kvs n = some (.int a ta)) (hz : kvs.length ≤ 1000) {Q : Flow → Shared → Prop}
    (h : ∀ h' t t', h'.DictOf knd d (stored kvs n (.int (a + b) t)) → Heap.SameBut d s.heap h' → Q .next { s with heap := h', toks := t' }) :
    wpAny (model W.prog W.w) A (exec (.AugAssign (.Subscript (.Name "new_callers" p0) (.Name "func" p1) p2) .Add (.Name "caller" p3) p4) (callEnv (fdAt 203) L 203)) Q E s := by
  have hl := loc203
  simp only [Bool.and_eq_true, beq_iff_eq] at hl
  obtain ⟨⟨⟨⟨⟨l1, l2⟩, l3⟩, l4⟩, l5⟩, lk⟩ := hl
  refine wpAny_AugAssign_Subscript ?_
  refine wpAny_Name (wpAny_loadName_local (env := callEnv (fdAt 203) L 203) lk l3 hns (v := .ref d) h1 ?_) (by decide +kernel)
  refine wpAny_Name (wpAny_loadName_local (env := callEnv (fdAt 203) L 203) lk l4 hns (v := key) h2 ?_) (by decide +kernel)
  refine wpAny_getItem_of hkey hd.mapOf hv ?_
  refine wpAny_Name (wpAny_loadName_local (env := callEnv (fdAt 203) L 203) (s := { s with toks := s.toks + 1 }) lk l5 hns (v := .int b tb) h3 ?_) (by decide +kernel)
  refine AutoIntOps.iadd_0 ?_
  refine wpAny_setItem_pairs hkey hd (fun h' e s' => h h' _ _ e s') (Nat.le_trans hz (by decide))
theorem in_st {d : Addr} {kvs : List (K × Value)} {key : Value} {n : K} {p0 p1 p2 p3 : Pos} {b1 b2 : List Stmt} (hns : s.heap.Ns L m) (h1 : m "new_callers" = some (.ref d)) (h2 : m "func" = some key) (hkey : knd.is n key = true) (hd : s.heap.DictOf knd d kvs) (hsm : (d == sysModules) = false) {Q : Flow → Shared → Prop}
    (ht : (valueAt kvs n).isSome = true → wpAny (model W.prog W.w) A (execs b1 (callEnv (fdAt 203) L 203)) Q E { s with toks := s.toks + 1 })
    (hf : (valueAt kvs n).isSome = false → wpAny (model W.prog W.w) A (execs b2 (callEnv (fdAt 203) L 203)) Q E { s with toks := s.toks + 1 }) :
    wpAny (model W.prog W.w) A (exec (.If (.Compare (.Name "func" p0) [.In] [.Name "new_callers" p1] p2) b1 b2 p3) (callEnv (fdAt 203) L 203)) Q E s := by
  have hl := loc203
  simp only [Bool.and_eq_true, beq_iff_eq] at hl
  obtain ⟨⟨⟨⟨⟨l1, l2⟩, l3⟩, l4⟩, l5⟩, lk⟩ := hl
  refine wpAny_If (wpAny_isTrue_Compare1 ?_)
  refine wpAny_Name (wpAny_loadName_local (env := callEnv (fdAt 203) L 203) lk l4 hns (v := key) h2 ?_) (by decide +kernel)
  refine wpAny_Name (wpAny_loadName_local (env := callEnv (fdAt 203) L 203) lk l3 hns (v := .ref d) h1 ?_) (by decide +kernel)
  refine wpAny_in_of hkey hsm hd.mapOf (wpAny_truthy_bool ?_)
  cases q : (valueAt kvs n).isSome with
  | true => exact ht q
  | false => exact hf q
end
end
end Mine
end

section
open PySem PySem.Spec PySem.Calls PyProof.Rows PySem.W
set_option Elab.async false
set_option maxRecDepth 100000
set_option maxHeartbeats 4000000
namespace Mine
noncomputable section
theorem glb203 : ((fdAt 203).scope.names.lookup ("isinstance" : Str) == some .globalImplicit && (fdAt 203).scope.names.lookup ("tuple" : Str) == some .globalImplicit && ((fdAt 203).globals == mainGlobals) && ((fdAt 203).builtins == builtinsNs)) = true := by kernel_rfl
section
variable {W : Wd} {A : Around} {s : Shared} {E : Value → Shared → Prop} {L : Addr} {m : Str → Option Value}
theorem isi_st {b : Int} {tb : Tok} {i0 i1 i2 i3 i5 : Pos} {b1 b2 : List Stmt} (B : Bg W s.heap) (hI : W.mg ("isinstance" : Str) = none ∧ W.mb ("isinstance" : Str) = some (.builtin "isinstance")) (hT : W.mg ("tuple" : Str) = none ∧ W.mb ("tuple" : Str) = some (.type "tuple"))
    (hns : s.heap.Ns L m) (h3 : m "caller" = some (.int b tb)) {Q : Flow → Shared → Prop}
    (hf : ∀ t', wpAny (model W.prog W.w) A (execs b2 (callEnv (fdAt 203) L 203)) Q E { s with toks := t' }) :
    wpAny (model W.prog W.w) A (exec (.If (.Call (.Name "isinstance" i0) [.Name "caller" i1, .Name "tuple" i2] [] i3) b1 b2 i5) (callEnv (fdAt 203) L 203)) Q E s := by
  have hl := loc203
  simp only [Bool.and_eq_true, beq_iff_eq] at hl
  obtain ⟨⟨⟨⟨⟨l1, l2⟩, l3⟩, l4⟩, l5⟩, lk⟩ := hl
  have hg := glb203
  simp only [Bool.and_eq_true, beq_iff_eq] at hg
  obtain ⟨⟨⟨g1, g2⟩, g3⟩, g4⟩ := hg
  have glob : ∀ {x : Str} {v : Value} {Q : Value → Shared → Prop}, (fdAt 203).scope.names.lookup x = some .globalImplicit → W.mg x = none → W.mb x = some v → Q v s → wpAny (model W.prog W.w) A (loadName (callEnv (fdAt 203) L 203) x) Q E s := by
    intro x v Q hx h1 h2 hq
    rw [loadName_read (env := callEnv (fdAt 203) L 203) lk hx]
    exact loadGlobal_builtin (by show s.heap.Ns (fdAt 203).globals _; rw [g3]; exact B.ns) h1 (by show s.heap.Ns (fdAt 203).builtins _; rw [g4]; exact B.nsb) h2 hq
  refine wpAny_If ?_
  rw [isTrue_plain (by rfl)]
  refine wpAny_bind (wpAny_Call_NameR (wpAny_Name (glob g1 hI.1 hI.2 ?_) (by decide +kernel)))
  refine callWith_of (P := fun _ => True) rfl (fun _ _ => ⟨.machine, .inr (.inl rfl), Looks.of_pure rfl⟩) ?_
  show wpAny _ _ (evalArgs (.builtin "isinstance") true [(false, eval (.Name "caller" i1) (callEnv (fdAt 203) L 203)), (false, eval (.Name "tuple" i2) (callEnv (fdAt 203) L 203))] []) _ _ _
  refine evalArgs_plain (spliced_cons ?_)
  refine wpAny_Name (wpAny_loadName_local (env := callEnv (fdAt 203) L 203) lk l5 hns (v := .int b tb) h3 ?_) (by decide +kernel)
  refine spliced_cons ?_
  refine wpAny_Name (glob g2 hT.1 hT.2 ?_) (by decide +kernel)
  refine spliced_nil ⟨trivial, ?_⟩
  refine IsiPair.int_tuple ?_
  refine wpAny_bind (wpAny_standAt (wpAny_holding (wpAny_truthy_bool ?_)))
  exact hf _
end
end
end Mine
end

section
open PySem PySem.Spec PySem.Calls PyProof.Rows PySem.W
set_option Elab.async false
set_option maxRecDepth 100000
set_option maxHeartbeats 4000000
namespace Mine
noncomputable section
section
variable {W : Wd} {A : Around} {s : Shared} {E : Value → Shared → Prop} {L : Addr} {m : Str → Option Value}
theorem pair_asg {t : Addr} {key v : Value} {b0 b1 b3 : Pos} {b2 : Nat} (hand : A.handled = none) (hns : s.heap.Ns L m) (ht : s.heap.IsTuple t #[key, v]) {Q : Unit → Shared → Prop}
    (h : ∀ h' t', h'.Ns L (fun x => if x = ("caller" : Str) then some v else if x = ("func" : Str) then some key else m x) → (∀ b o, b ≠ L → s.heap.get? b = some o → h'.get? b = some o) → Q () { s with heap := h', toks := t' }) :
    wpAny (model W.prog W.w) A (assign (.Tuple [.Name "func" b0, .Name "caller" b1] b2 b3) (callEnv (fdAt 203) L 203) (.ref t)) Q E s := by
  have hl := loc203
  simp only [Bool.and_eq_true, beq_iff_eq] at hl
  obtain ⟨⟨⟨⟨⟨l1, l2⟩, l3⟩, l4⟩, l5⟩, lk⟩ := hl
  have hp : ((fdAt 203).scope.kind == .class || ((fdAt 203).scope.kind == .module && (callEnv (fdAt 203) L 203).locals != (callEnv (fdAt 203) L 203).globals)) = false := by rw [lk]; rfl
  refine wpAny_assign_Tuple hand ht rfl rfl fun h' hx => ?_
  have hk : ∀ b o, s.heap.get? b = some o → h'.get? b = some o := fun b o hb => hx b o (Nat.ne_of_lt (Heap.lt_size hb)) hb
  show wpAny _ _ (assignInOrder [assign (.Name "func" b0) (callEnv (fdAt 203) L 203), assign (.Name "caller" b1) (callEnv (fdAt 203) L 203)] [key, v]) _ _ _
  simp only [assignInOrder]
  refine wpAny_bind (wpAny_holding (wpAny_assign_Name (wpAny_storeName_local (env := callEnv (fdAt 203) L 203) l4 (hns.keeps hk) (fun h₁ n₁ s₁ => ?_) hp)))
  refine wpAny_bind (wpAny_holding (wpAny_assign_Name (wpAny_storeName_local (env := callEnv (fdAt 203) L 203) l5 n₁ (fun h₂ n₂ s₂ => ?_) hp)))
  exact wpAny_pure (h _ _ n₂ fun b o hb e => (s₂.2 b hb).trans ((s₁.2 b hb).trans (hk b o e)))
end
end
end Mine
end

section
open PySem PySem.Spec PySem.Calls PyProof.Rows PySem.W
set_option Elab.async false
set_option maxRecDepth 100000
set_option maxHeartbeats 4000000
namespace Mine
noncomputable section
section
variable {W : Wd} {A : Around} {s : Shared} {E : Value → Shared → Prop} {L : Addr} {m : Str → Option Value} {K : Type} [DecidableEq K] {knd : PySem.KeyKind W.prog W.w K}
theorem items_ev {x : Str} {d : Addr} {kvs : List (K × Value)} {c0 c1 c2 : Pos} (hx : (fdAt 203).scope.names.lookup x = some .local) (hxd : (x == ("__debug__" : Str)) = false) (hns : s.heap.Ns L m) (h1 : m x = some (.ref d)) (hd : s.heap.DictOf knd d kvs) (hsm : (d == sysModules) = false) (hl : (c1.endLine == c2.line) = true)
    {Q : Value → Shared → Prop} (h : ∀ v h', (∀ b o, s.heap.get? b = some o → h'.get? b = some o) → h'.IsItemsView v d → Q (.ref v) { s with heap := h' }) :
    wpAny (model W.prog W.w) A (eval (.Call (.Attribute (.Name x c0) "items" c1) [] [] c2) (callEnv (fdAt 203) L 203)) Q E s := by
  have hl3 := loc203
  simp only [Bool.and_eq_true, beq_iff_eq] at hl3
  obtain ⟨⟨⟨⟨⟨l1, l2⟩, l3⟩, l4⟩, l5⟩, lk⟩ := hl3
  refine meth_form (args := []) rfl hl (Nat.lt_of_sub_pos (by exact Nat.succ_pos 29)) rfl (wpAny_Name (wpAny_loadName_local (env := callEnv (fdAt 203) L 203) lk hx hns (v := .ref d) h1 fun pl => ?_) hxd)
  have hT : s.TypeIs (.ref d) "dict" := hd.typeIs
  have hno : ∀ a, Value.ref d = .ref a → ∃ o, s.heap.get? a = some o ∧ o.dict = none := hd.mapOf.noDict
  refine getMethod_builtin hT PySem.F.plainAttrs_dict PySem.F.slot_dict_items PySem.F.type_dict_items hno ?_
  refine callWith_of (P := fun _ => True) rfl (fun _ _ => ⟨.machine, .inr (.inl rfl), Looks.of_pure rfl⟩) ?_
  refine evalArgs_nil3 ⟨trivial, ?_⟩
  refine call_meetsIn PySem.F.slot_dict_items hT PySem.F.entry_dict_items (PySem.F.args_dict_items_1 _) (meets_dict_items knd d hsm) ⟨⟨kvs, hd⟩, ?_⟩
  exact h _ _ (fun b o e => Heap.get?_push_of_some _ e) ⟨_, Heap.get?_push_size _ rfl, rfl, rfl⟩
end
end
end Mine
end

section
open PySem PySem.Spec PySem.Calls PyProof.Rows PySem.W
set_option Elab.async false
set_option maxRecDepth 100000
set_option maxHeartbeats 4000000
namespace Mine
noncomputable section
section
variable {W : Wd} {A : Around} {s : Shared} {E : Value → Shared → Prop} {L : Addr} {m : Str → Option Value} {K : Type} [DecidableEq K] {knd : PySem.KeyKind W.prog W.w K}
theorem items_for {x : Str} {u d : Addr} {kvs : List (K × Value)} {ep : Nat} {c0 c1 c2 b0 b1 b3 b4 : Pos} {b2 : Nat} {body : List Stmt} (hand : A.handled = none) (hx : (fdAt 203).scope.names.lookup x = some .local) (hxd : (x == ("__debug__" : Str)) = false) (hns : s.heap.Ns L m) (h1 : m x = some (.ref u)) (hd : s.heap.DictAt knd u kvs ep) (hsm : (u == sysModules) = false) (hl : (c1.endLine == c2.line) = true)
    (J : Nat → List (K × Value) → Prop) {l₀ : List (K × Value)} (hJ₀ : J 0 l₀) (hJ : s.heap.DictOf knd d l₀) (hdu : u ≠ d) (hdL : d ≠ L) (huL : u ≠ L)
    (step : ∀ j k v key s₁ m₁ E' l, J j l → kvs[j]? = some (k, v) → knd.is k key = true → s₁.heap.Ns L m₁ → m₁ ("func" : Str) = some key → m₁ ("caller" : Str) = some v → (∀ y, y ≠ ("func" : Str) → y ≠ ("caller" : Str) → m₁ y = m y) → s₁.heap.DictOf knd d l → (∀ b o, b ≠ L → b ≠ d → s.heap.get? b = some o → s₁.heap.get? b = some o) →
      ∀ Q : Flow → Shared → Prop, (∀ h' t' l', J (j + 1) l' → h'.DictOf knd d l' → (∀ b o, b ≠ d → s₁.heap.get? b = some o → h'.get? b = some o) → Q .next { s₁ with heap := h', toks := t' }) → wpAny (model W.prog W.w) A (execs body (callEnv (fdAt 203) L 203)) Q E' s₁)
    {Q : Flow → Shared → Prop} (h : ∀ h' t' m' l, J kvs.length l → h'.Ns L m' → (∀ y, y ≠ ("func" : Str) → y ≠ ("caller" : Str) → m' y = m y) → h'.DictOf knd d l → (∀ b o, b ≠ L → b ≠ d → s.heap.get? b = some o → h'.get? b = some o) → Q .next { s with heap := h', toks := t' }) :
    wpAny (model W.prog W.w) A (exec (.For (.Tuple [.Name "func" b0, .Name "caller" b1] b2 b3) (.Call (.Attribute (.Name x c0) "items" c1) [] [] c2) body [] b4) (callEnv (fdAt 203) L 203)) Q E s := by
  refine wpAny_For (items_ev hx hxd hns h1 hd.dictOf hsm hl fun v h₁ k₁ iv => ?_) (folded_not rfl)
  obtain ⟨od, _, hod, _⟩ := id hd
  have hd₁ : h₁.DictAt knd u kvs ep := dictAt_kept hd fun _ ho => k₁ _ _ ho
  refine wpAny_pyIter_items iv hd₁ ?_
  have key := codeAny_forLoop_any (prog := W.prog) (w := W.w) (A := A) (target := .Tuple [.Name "func" b0, .Name "caller" b1] b2 b3) (it := .ref h₁.objs.size) (body := body) (orelse := []) (env := callEnv (fdAt 203) L 203)
    (R := fun r s' => match r with | .ok f => Q f s' | .error e => cameBackBy (model W.prog W.w) A (callEnv (fdAt 203) L 203) E e s')
    (fun n s₃ => ∃ j ok ov h₃ t₃ m₃ l, J j l ∧ n + j = kvs.length ∧ s₃ = { s with heap := h₃, toks := t₃ } ∧ IsItemIter h₃ h₁.objs.size u j kvs.length ep ok ov ∧ h₃.Ns L m₃ ∧ (∀ y, y ≠ ("func" : Str) → y ≠ ("caller" : Str) → m₃ y = m y) ∧ h₃.DictOf knd d l ∧ (∀ b o, b ≠ L → b ≠ d → s.heap.get? b = some o → h₃.get? b = some o)) ?_
    (s := { s with heap := h₁.push { cls := .type "dict_itemiterator", data := .fields #[.none, .bool false, .ref u, .int 0 0, .int kvs.length 0, .int ep 0, .none, .none] } }) kvs.length
    ⟨0, .none, .none, _, _, m, l₀, hJ₀, rfl, rfl, Heap.get?_push_size _ rfl, (hns.keeps k₁).push _, fun _ _ _ => rfl, ?_, fun b o _ _ e => Heap.get?_push_of_some _ (k₁ b o e)⟩
  · exact key
  · intro n s₃ hI
    obtain ⟨j, ok, ov, h₃, t₃, m₃, l, jl, e0, e1, hi, hn, hm, hj, hk⟩ := hI
    subst e1
    have hfresh : ∀ b o, s.heap.get? b = some o → b ≠ h₁.objs.size := fun b o e => Nat.ne_of_lt (Heap.lt_size (k₁ b o e))
    have hd₃ : h₃.DictAt knd u kvs ep := dictAt_kept hd fun _ ho => hk _ _ huL hdu ho
    obtain ⟨oL, hoL⟩ := ns_ex hns
    obtain ⟨oD, hoD⟩ := dictOf_ex hJ
    have hLI := hfresh _ _ hoL
    have hDI := hfresh _ _ hoD
    cases q : kvs[j]? with
    | none =>
      have hjl : j = kvs.length := by have := List.getElem?_eq_none_iff.mp q; omega
      refine wpAny_pyNext_items_end hand hi hd₃ q fun h' hx' => ?_
      refine wpAny_execs_nil (h h' t₃ m₃ l (hjl ▸ jl) (hn.extBut hx' hLI) hm ?_ fun b o hb1 hb2 e => hx' b o (hfresh _ _ e) (hk b o hb1 hb2 e))
      exact dictOf_kept hj fun _ ho => hx' _ _ hDI ho
    | some p =>
      obtain ⟨k, v⟩ := p
      refine wpAny_pyNext_items_item hi hd₃ q fun key' h' hkey hi' hnew _ hk' => ?_
      refine wpAny_letOwnedTupleGo_items hi' fun h'' hi'' hs' => ?_
      have hk2 : ∀ b o, b ≠ h₁.objs.size → h₃.get? b = some o → h''.get? b = some o := fun b o hb e => (hs'.2 b hb).trans (hk' b o hb e)
      have hIlt : h₁.objs.size < h₃.objs.size := Heap.lt_size hi
      refine pair_asg hand (hn.at fun o e => hk2 _ o hLI e) ⟨_, (hs'.2 _ (Nat.ne_of_gt hIlt)).trans hnew, rfl, _, rfl⟩ fun h₄ t₄ n₄ k₄ => ?_
      refine step j k v key' _ _ _ l jl q hkey n₄ (by show (if _ then _ else if _ then _ else _) = _; rw [if_neg (show ("func" : Str) ≠ ("caller" : Str) by decide +kernel), if_pos rfl]) (by show (if _ then _ else if _ then _ else _) = _; rw [if_pos rfl]) (fun y y1 y2 => by simp only [if_neg y1, if_neg y2]; exact hm y y1 y2) ?_ (fun b o hb1 hb2 e => k₄ _ _ hb1 (hk2 _ _ (hfresh _ _ e) (hk _ _ hb1 hb2 e))) _ fun h₅ t₅ l₅ jl₅ j₅ k₅ => ?_
      · exact dictOf_kept hj fun _ ho => k₄ _ _ hdL (hk2 _ _ hDI ho)
      · have hlt : j < kvs.length := (List.getElem?_eq_some_iff.mp q).1
        refine ⟨n - 1, (by omega : n - 1 < n), j + 1, key', v, h₅, t₅, (fun x => if x = ("caller" : Str) then some v else if x = ("func" : Str) then some key' else m₃ x), l₅, jl₅, (by omega : n - 1 + (j + 1) = kvs.length), rfl, ?_, n₄.at fun o e => k₅ _ o hdL.symm e, fun y y1 y2 => by simp only [if_neg y1, if_neg y2]; exact hm y y1 y2, j₅, fun b o hb1 hb2 e => k₅ _ _ hb2 (k₄ _ _ hb1 (hk2 _ _ (hfresh _ _ e) (hk _ _ hb1 hb2 e)))⟩
        exact k₅ _ _ hDI.symm (k₄ _ _ hLI.symm hi'')
  · exact dictOf_kept hJ fun _ ho => Heap.get?_push_of_some _ (k₁ _ _ ho)
end
end
end Mine
end

section
open PySem PySem.Spec PySem.Calls PyProof.Rows PySem.W
set_option Elab.async false
set_option maxRecDepth 100000
set_option maxHeartbeats 4000000
namespace Mine
noncomputable section
section
variable {K : Type} [DecidableEq K]
/-- the new dict after j turns of the second loop -/
inductive AddJ (kvs src : List (K × Value)) : Nat → List (K × Value) → Prop
  | zero : AddJ kvs src 0 kvs
  | new {j : Nat} {l : List (K × Value)} {k : K} {v : Value} : AddJ kvs src j l → src[j]? = some (k, v) → valueAt l k = none → AddJ kvs src (j + 1) (stored l k v)
  | old {j : Nat} {l : List (K × Value)} {k : K} {a b : Int} {ta tb t : Tok} : AddJ kvs src j l → src[j]? = some (k, .int b tb) → valueAt l k = some (.int a ta) → AddJ kvs src (j + 1) (stored l k (.int (a + b) t))
end
end
end Mine
end

section
open PySem PySem.Spec PySem.Calls PyProof.Rows PySem.W
set_option Elab.async false
set_option maxRecDepth 100000
set_option maxHeartbeats 4000000
namespace Mine
noncomputable section
section
variable {W : Wd} {A : Around} {s : Shared} {E : Value → Shared → Prop} {K : Type} [DecidableEq K] {knd : PySem.KeyKind W.prog W.w K}
theorem stored_none {l : List (K × Value)} {k : K} {v : Value} (h : ∀ x ∈ l, x.1 ≠ k) : stored l k v = l ++ [(k, v)] := by
  unfold stored
  rw [if_neg]
  simp only [List.any_eq_true, decide_eq_true_eq, not_exists, not_and]
  exact fun x hx => h x hx
/-- the second loop's body -/
theorem body2 {L d : Addr} {m : Str → Option Value} {l : List (K × Value)} {k : K} {key v : Value} {g0 g1 g2 i0 i1 i2 i3 i5 k0 k1 k2 k3 k4 i4 : Pos} {j s3 : Stmt} (B : Bg W s.heap) (hI : W.mg ("isinstance" : Str) = none ∧ W.mb ("isinstance" : Str) = some (.builtin "isinstance")) (hT : W.mg ("tuple" : Str) = none ∧ W.mb ("tuple" : Str) = some (.type "tuple"))
    (ha : augS s3) (hns : s.heap.Ns L m) (h1 : m "new_callers" = some (.ref d)) (h2 : m "func" = some key) (h3 : m "caller" = some v) (hkey : knd.is k key = true) (hd : s.heap.DictOf knd d l) (hsm : (d == sysModules) = false) (hz : l.length ≤ 1000)
    (hv : ∀ o, valueAt l k = some o → ∃ a ta b tb, o = .int a ta ∧ v = .int b tb) {Q : Flow → Shared → Prop}
    (hnew : valueAt l k = none → ∀ h' t', h'.DictOf knd d (stored l k v) → Heap.SameBut d s.heap h' → Q .next { s with heap := h', toks := t' })
    (hold : ∀ a ta b tb t, valueAt l k = some (.int a ta) → v = .int b tb → ∀ h' t', h'.DictOf knd d (stored l k (.int (a + b) t)) → Heap.SameBut d s.heap h' → Q .next { s with heap := h', toks := t' }) :
    wpAny (model W.prog W.w) A (execs [.If (.Compare (.Name "func" g0) [.In] [.Name "new_callers" g1] g2) [.If (.Call (.Name "isinstance" i0) [.Name "caller" i1, .Name "tuple" i2] [] i3) [j] [s3] i5] [.Assign [.Subscript (.Name "new_callers" k0) (.Name "func" k1) k2] (.Name "caller" k3) k4] i4] (callEnv (fdAt 203) L 203)) Q E s := by
  obtain ⟨q0, q1, q2, q3, q4, rfl⟩ := augS_eq ha
  refine wpAny_execs_cons (in_st hns h1 h2 hkey hd hsm (fun hs => ?_) fun hs => ?_)
  · obtain ⟨o, ho⟩ := Option.isSome_iff_exists.mp hs
    obtain ⟨a, ta, b, tb, rfl, rfl⟩ := hv o ho
    refine wpAny_execs_cons (isi_st (s := { s with toks := s.toks + 1 }) B hI hT hns h3 fun t' => ?_)
    refine wpAny_execs_cons (aug_st (s := { s with toks := t' }) hns h1 h2 h3 hkey hd ho hz fun h' t t'' e se => ?_)
    exact wpAny_execs_nil (wpAny_execs_nil (wpAny_execs_nil (hold a ta b tb t ho rfl h' t'' e se)))
  · have hn : valueAt l k = none := by cases q : valueAt l k with | none => rfl | some o => rw [q] at hs; first | exact no hs | cases hs
    refine wpAny_execs_cons (set_st (s := { s with toks := s.toks + 1 }) hns h1 h2 h3 hkey hd hz fun h' e se => ?_)
    exact wpAny_execs_nil (wpAny_execs_nil (hnew hn h' _ e se))
end
end
end Mine
end

section
open PySem PySem.Spec PySem.Calls PyProof.Rows PySem.W
set_option Elab.async false
set_option maxRecDepth 100000
set_option maxHeartbeats 4000000
namespace Mine
noncomputable section
theorem wk (x : Str) (y : Str) (h : (x == y) = false) : x ≠ y := fun e => by rw [e, beq_self_eq_true] at h; cases h
theorem nm203 : (("new_callers" : Str) == ("func" : Str)) = false ∧ (("new_callers" : Str) == ("caller" : Str)) = false ∧ (("source" : Str) == ("func" : Str)) = false ∧ (("source" : Str) == ("caller" : Str)) = false ∧ (("source" : Str) == ("new_callers" : Str)) = false ∧ (("target" : Str) == ("new_callers" : Str)) = false := by decide +kernel
section
variable {W : Wd} {A : Around} {s : Shared} {E : Value → Shared → Prop} {K : Type} [DecidableEq K] {knd : PySem.KeyKind W.prog W.w K}
theorem take_none {kvs : List (K × Value)} {j : Nat} {k : K} {v : Value} (hn : (kvs.map (·.1)).Nodup) (q : kvs[j]? = some (k, v)) : stored (kvs.take j) k v = kvs.take (j + 1) := by
  have hlt : j < kvs.length := (List.getElem?_eq_some_iff.mp q).1
  rw [stored_none, List.take_add_one, q]
  · rfl
  · intro x hx e
    obtain ⟨i, hi, rfl⟩ := List.mem_iff_getElem.mp hx
    rw [List.length_take] at hi
    have hij : i < j := Nat.lt_of_lt_of_le hi (Nat.min_le_left _ _)
    have e1 := List.getElem?_eq_some_iff.mp q
    obtain ⟨h1, h2⟩ := e1
    rw [List.getElem_take] at e
    have a1 : (kvs.map (·.1))[i]'(by rw [List.length_map]; omega) = (kvs.map (·.1))[j]'(by rw [List.length_map]; omega) := by
      rw [List.getElem_map, List.getElem_map, h2]; exact e
    have := (List.getElem_inj hn).mp a1
    omega
end
end
end Mine
end

section
open PySem PySem.Spec PySem.Calls PyProof.Rows PySem.W
set_option Elab.async false
set_option maxRecDepth 100000
set_option maxHeartbeats 4000000
namespace Mine
noncomputable section
section
variable {W : Wd} {A : Around} {s : Shared} {E : Value → Shared → Prop} {K : Type} [DecidableEq K] {knd : PySem.KeyKind W.prog W.w K}
theorem add_core (HK : W.K = KW W.w) (B : Bg W s.heap) (hI : W.mg ("isinstance" : Str) = none ∧ W.mb ("isinstance" : Str) = some (.builtin "isinstance")) (hT : W.mg ("tuple" : Str) = none ∧ W.mb ("tuple" : Str) = some (.type "tuple"))
    (hand : A.handled = none) (hdp : A.depth < recursionLimit) {u1 u2 : Addr} {kvs src : List (K × Value)} {ep1 ep2 : Nat} (hd1 : s.heap.DictAt knd u1 kvs ep1) (hd2 : s.heap.DictAt knd u2 src ep2) (hs1 : (u1 == sysModules) = false) (hs2 : (u2 == sysModules) = false) (hbig : ∃ o, s.heap.get? sysModules = some o)
    (hz0 : kvs.length ≤ 1000) (hz : ∀ j l, AddJ kvs src j l → l.length ≤ 1000) (hv : ∀ j l k v o, AddJ kvs src j l → src[j]? = some (k, v) → valueAt l k = some o → ∃ a ta b tb, o = .int a ta ∧ v = .int b tb) {Q : Value → Shared → Prop}
    (h : ∀ h' t' d l, AddJ kvs src src.length l → h'.DictOf knd d l → s.heap.get? d = none → (∀ b o, s.heap.get? b = some o → h'.get? b = some o) → Q (.ref d) { s with heap := h', toks := t' }) :
    wpAny (model W.prog W.w) A (call (.ref 203) [.ref u1, .ref u2]) Q E s := by
  obtain ⟨a0, a1, a2, b0, b1, b2, b3, c0, c1, c2, d0, d1, d2, d3, d4, b4, e0, e1, e2, e3, f0, f1, f2, g0, g1, g2, i0, i1, i2, i3, j, s3, i5, k0, k1, k2, k3, k4, i4, e4, r0, r1, hb, hl1, hl2, haug⟩ := body203
  have hl3 := loc203
  simp only [Bool.and_eq_true, beq_iff_eq] at hl3
  obtain ⟨⟨⟨⟨⟨l1, l2⟩, l3⟩, l4⟩, l5⟩, lk⟩ := hl3
  refine wpAny_call (enter (fi203 W HK) hdp B.kin B.lim (vs := [.ref u1, .ref u2]) (by kernel_rfl) fun h₁ hns hk E' => ?_)
  show PySem.wpAt _ _ (.func (bodyAt 203) _) (execs (bodyAt 203) _) _ _ _
  rw [hb]
  refine PySem.wpAt_of_wpAny (wpAny_execs_cons ?_)
  have hp : ((fdAt 203).scope.kind == .class || ((fdAt 203).scope.kind == .module && (callEnv (fdAt 203) s.heap.objs.size 203).locals != (callEnv (fdAt 203) s.heap.objs.size 203).globals)) = false := by rw [lk]; rfl
  obtain ⟨nm1, nm2, nm3, nm4, nm5, nm6⟩ := nm203
  refine wpAny_Assign_Name (wpAny_Dict_empty (wpAny_storeName_local (env := callEnv (fdAt 203) s.heap.objs.size 203) l3 (hns.push _) (fun h₂ n₂ s₂ => ?_) hp)) (by with_unfolding_all rfl)
  have hLlt : s.heap.objs.size < h₁.objs.size := ex_lt (ns_ex hns)
  have hk₂ : ∀ b o, s.heap.get? b = some o → h₂.get? b = some o := fun b o e => (s₂.2 b (Nat.ne_of_lt (Heap.lt_size e))).trans (Heap.get?_push_of_some _ (hk b o e))
  have hdL : h₁.objs.size ≠ s.heap.objs.size := Nat.ne_of_gt hLlt
  have hD : h₂.DictOf knd h₁.objs.size ([] : List (K × Value)) := dictOf_kept (Heap.DictOf.new (knd := knd) h₁) fun _ ho => (s₂.2 _ hdL).trans ho
  have hfr : ∀ b o, s.heap.get? b = some o → b ≠ s.heap.objs.size := fun b o e => Nat.ne_of_lt (Heap.lt_size e)
  have hfd : ∀ b o, s.heap.get? b = some o → b ≠ h₁.objs.size := fun b o e => Nat.ne_of_lt (Heap.lt_size (hk b o e))
  have hdn : s.heap.get? h₁.objs.size = none := by
    cases q : s.heap.get? h₁.objs.size with
    | none => rfl
    | some o => exact absurd rfl (hfd _ _ q)
  have hdsm : (h₁.objs.size == sysModules) = false := by
    obtain ⟨o, e⟩ := hbig
    cases q : (h₁.objs.size == sysModules) with
    | false => rfl
    | true => exact absurd (beq_iff_eq.mp q).symm (hfd _ _ e)
  obtain ⟨o1, t1, ho1, r1⟩ := hd1
  obtain ⟨o2, t2, ho2, r2⟩ := hd2
  refine wpAny_execs_cons (items_for (A := A.deeper (callEnv (fdAt 203) s.heap.objs.size 203)) (L := s.heap.objs.size) (s := { s with heap := h₂, toks := _ }) (ep := ep1) (kvs := kvs) hand l1 (by decide +kernel) n₂ (by kernel_rfl) ⟨o1, t1, hk₂ _ _ ho1, r1⟩ hs1 hl1 (fun j l => l = kvs.take j) (l₀ := []) rfl hD (hfd _ _ ho1) hdL (hfr _ _ ho1) (fun j k v key s₁ m₁ E' l hl q hkey ns₁ hf hc hm hdl hkp Q' hQ => ?_) fun h₃ t₃ m₃ l₃ hl₃ n₃ hm₃ hD₃ hk₃ => ?_)
  · subst hl
    refine wpAny_execs_cons (set_st ns₁ ?_ hf hc hkey hdl (by rw [List.length_take]; omega) fun h' e se => ?_)
    · rw [hm _ (wk _ _ nm1) (wk _ _ nm2)]; kernel_rfl
    · refine wpAny_execs_nil (hQ h' _ _ (take_none r1.2.2.2.2 q) e fun b o hb eb => (se.2 b hb).trans eb)
  · have hk3 : ∀ b o, s.heap.get? b = some o → h₃.get? b = some o := fun b o e => hk₃ b o (hfr _ _ e) (hfd _ _ e) (hk₂ b o e)
    rw [List.take_length] at hl₃
    subst hl₃
    have hB3 : ∀ {h' : Heap}, (∀ b o, b ≠ s.heap.objs.size → b ≠ h₁.objs.size → h₃.get? b = some o → h'.get? b = some o) → Bg W h' := fun hkp => B.keeps fun b o e => hkp b o (hfr _ _ e) (hfd _ _ e) (hk3 b o e)
    refine wpAny_execs_cons (items_for (A := A.deeper (callEnv (fdAt 203) s.heap.objs.size 203)) (L := s.heap.objs.size) (s := { s with heap := h₃, toks := _ }) (ep := ep2) (kvs := src) hand l2 (by decide +kernel) n₃ ?_ ⟨o2, t2, hk3 _ _ ho2, r2⟩ hs2 hl2 (AddJ l₃ src) AddJ.zero hD₃ (hfd _ _ ho2) hdL (hfr _ _ ho2) (fun j k v key s₁ m₁ E' l hl q hkey ns₁ hf hc hm hdl hkp Q' hQ => ?_) fun h₄ t₄ m₄ l₄ hl₄ n₄ hm₄ hD₄ hk₄ => ?_)
    · rw [hm₃ _ (wk _ _ nm3) (wk _ _ nm4)]; kernel_rfl
    · refine body2 (s := s₁) (hB3 hkp) hI hT haug ns₁ ?_ hf hc hkey hdl hdsm (hz j l hl) (fun o => hv j l k v o hl q) (fun hn h' t' e se => hQ h' t' _ (.new hl q hn) e fun b o hb eb => (se.2 b hb).trans eb) (fun a ta b tb t ho hvv h' t' e se => hQ h' t' _ (.old hl (hvv ▸ q) ho) e fun b o hb eb => (se.2 b hb).trans eb)
      rw [hm _ (wk _ _ nm1) (wk _ _ nm2), hm₃ _ (wk _ _ nm1) (wk _ _ nm2)]; kernel_rfl
    · refine wpAny_execs_cons (wpAny_Return_some (wpAny_Name (wpAny_loadName_local (env := callEnv (fdAt 203) s.heap.objs.size 203) lk l3 n₄ (v := .ref h₁.objs.size) ?_ ?_) (by decide +kernel)))
      · rw [hm₄ _ (wk _ _ nm1) (wk _ _ nm2), hm₃ _ (wk _ _ nm1) (wk _ _ nm2)]; kernel_rfl
      · exact h h₄ t₄ _ l₄ hl₄ hD₄ hdn fun b o e => hk₄ b o (hfr _ _ e) (hfd _ _ e) (hk3 b o e)
end
end
end Mine
end

section
open PySem PySem.Spec PySem.Calls PyProof.Rows PySem.W
set_option Elab.async false
set_option maxRecDepth 100000
set_option maxHeartbeats 4000000
namespace Mine
noncomputable section
section
variable {K : Type} [DecidableEq K] {l : List (K × Value)} {k : K} {v : Value} {p : K × Value}
theorem valueAt_eq (h : p.1 = k) : valueAt (p :: l) k = some p.2 := by
  unfold valueAt; rw [List.find?_cons]; simp [h]
theorem valueAt_ne (h : p.1 ≠ k) : valueAt (p :: l) k = valueAt l k := by
  unfold valueAt; rw [List.find?_cons]; simp [h]
theorem stored_eq (h : p.1 = k) (hn : k ∉ l.map (·.1)) (v : Value) : stored (p :: l) k v = (p.1, v) :: l := by
  unfold stored
  rw [if_pos (by simp [h]), List.map_cons, if_pos h, map_store_of_not_mem _ _ _ hn]
theorem stored_ne (h : p.1 ≠ k) (v : Value) : stored (p :: l) k v = p :: stored l k v := by
  unfold stored
  have e : ((p :: l).any fun kv => decide (kv.1 = k)) = l.any fun kv => decide (kv.1 = k) := by rw [List.any_cons, decide_eq_false h, Bool.false_or]
  rw [e]
  by_cases q : (l.any fun kv => decide (kv.1 = k)) = true
  · rw [if_pos q, if_pos q, List.map_cons, if_neg h]
  · rw [if_neg q, if_neg q]; rfl
theorem stored_nodup (h : (l.map (·.1)).Nodup) (k : K) (v : Value) : ((stored l k v).map (·.1)).Nodup := by
  unfold stored
  by_cases q : (l.any fun kv => decide (kv.1 = k)) = true
  · rw [if_pos q, keys_map_store]; exact h
  · rw [if_neg q, List.map_append]
    refine List.nodup_append.mpr ⟨h, by simp, fun a ha b hb e => q ?_⟩
    simp at hb
    subst hb
    subst e
    obtain ⟨kv, hkv, e⟩ := List.mem_map.mp ha
    exact List.any_eq_true.mpr ⟨kv, hkv, by simpa using e⟩
theorem AddJ.len {kvs src : List (K × Value)} {j : Nat} {l : List (K × Value)} (h : AddJ kvs src j l) : l.length ≤ kvs.length + j ∧ j ≤ src.length := by
  induction h with
  | zero => exact ⟨Nat.le_refl _, Nat.zero_le _⟩
  | new _ q _ ih =>
    have := (List.getElem?_eq_some_iff.mp q).1
    exact ⟨Nat.le_trans (stored_length_le _ _ _) (by omega), this⟩
  | old _ q _ ih =>
    have := (List.getElem?_eq_some_iff.mp q).1
    exact ⟨Nat.le_trans (stored_length_le _ _ _) (by omega), this⟩
end
section
variable {W : Wd} {h₀ : Heap} {kk : Nat} {c : Ctx} {A : Around} {env : Env} {ρ ρ' : Nat → Addr} {σ σ' : St} {s s' : Shared} {E : Value → Shared → Prop}
theorem addCk_ok {k : Int} {e : IE} : ∀ {t : List (Int × AV)} {l : List (Int × Value)} {t' : List (Int × AV)}, DVs W s ρ σ t l → (l.map (·.1)).Nodup → addCk t k e = some t' →
    (valueAt l k = none → ∀ tb, DVs W s ρ σ t' (stored l k (.int (e.den W.θ) tb))) ∧ (∀ o, valueAt l k = some o → ∃ a ta, o = .int a ta ∧ ∀ tk, DVs W s ρ σ t' (stored l k (.int (a + e.den W.θ) tk)))
  | [], [], t', _, _, h => by
    cases h
    exact ⟨fun _ tb => ⟨⟨rfl, .int e tb⟩, trivial⟩, fun o h => by cases h⟩
  | p :: r, q :: l, t', ⟨⟨e1, e2⟩, D⟩, hn, h => by
    obtain ⟨hn1, hn2⟩ := List.nodup_cons.mp (show (q.1 :: l.map (·.1)).Nodup from hn)
    unfold addCk at h
    split at h
    · rename_i hk
      have hk : p.1 = k := by simpa using hk
      have hq : q.1 = k := e1.symm.trans hk
      split at h
      · rename_i u hu
        cases h
        rw [hu] at e2
        obtain ⟨ta, hqa⟩ := VV.intI e2
        refine ⟨fun hv => (by rw [valueAt_eq hq] at hv; cases hv), fun o ho => ?_⟩
        rw [valueAt_eq hq] at ho
        cases ho
        refine ⟨_, ta, hqa, fun tk => ?_⟩
        rw [stored_eq hq (hq ▸ hn1)]
        refine ⟨⟨e1, ?_⟩, D⟩
        have := VR.int (prog := W.prog) (w := W.w) (θ := W.θ) (h := s.heap) (ρ := ρ) (σ := σ) (iAdd u e) tk
        rw [iAdd_den] at this
        exact this
      · first | exact no h | cases h
    · rename_i hk
      have hk : ¬ p.1 = k := by simpa using hk
      have hq : q.1 ≠ k := fun h => hk (e1.trans h)
      split at h
      · rename_i r' hr
        cases h
        obtain ⟨i1, i2⟩ := addCk_ok D hn2 hr
        refine ⟨fun hv tb => ?_, fun o ho => ?_⟩
        · rw [valueAt_ne hq] at hv
          rw [stored_ne hq]
          exact ⟨⟨e1, e2⟩, i1 hv tb⟩
        · rw [valueAt_ne hq] at ho
          obtain ⟨a, ta, ea, D'⟩ := i2 o ho
          refine ⟨a, ta, ea, fun tk => ?_⟩
          rw [stored_ne hq]
          exact ⟨⟨e1, e2⟩, D' tk⟩
      · first | exact no h | cases h
  | [], _ :: _, _, h, _, _ => h.elim
  | _ :: _, [], _, h, _, _ => h.elim
theorem DVs.at {κ : Type} : ∀ {xs : List (κ × AV)} {vs : List (κ × Value)} {i : Nat} {v : κ × Value}, DVs W s ρ σ xs vs → vs[i]? = some v → ∃ x, xs[i]? = some x ∧ x.1 = v.1 ∧ VV W s ρ σ x.2 v.2
  | [], [], _, _, _, e => by simp at e
  | a :: xs, b :: vs, 0, v, ⟨p, q⟩, e => by
    simp at e
    subst e; exact ⟨a, rfl, p⟩
  | a :: xs, b :: vs, i + 1, v, ⟨p, q⟩, e => by
    obtain ⟨x, h1, h2⟩ := DVs.at q (by simpa using e)
    exact ⟨x, by simpa using h1, h2⟩
  | [], _ :: _, _, _, h, _ => h.elim
  | _ :: _, [], _, _, h, _ => h.elim
theorem drop_at {α : Type} {l : List α} {j : Nat} {x : α} (h : l[j]? = some x) : l.drop j = x :: l.drop (j + 1) := by
  obtain ⟨hl, e⟩ := List.getElem?_eq_some_iff.mp h
  rw [List.drop_eq_getElem_cons hl, e]
/-- the invariant of the second loop, against the abstract sum -/
theorem addJ_ok {t src' : List (Int × AV)} {r : List (Int × AV)} {kvs src : List (Int × Value)} (hr : addC t src' = some r) (D : DVs W s ρ σ t kvs) (S : DVs W s ρ σ src' src) (hn : (kvs.map (·.1)).Nodup) {j : Nat} {l : List (Int × Value)}
    (h : AddJ kvs src j l) : ∃ tj, addC tj (src'.drop j) = some r ∧ DVs W s ρ σ tj l ∧ (l.map (·.1)).Nodup := by
  induction h with
  | zero => exact ⟨t, hr, D, hn⟩
  | @new j l k v _ q hv ih =>
    obtain ⟨tj, h1, h2, h3⟩ := ih
    obtain ⟨x, hx, e1, e2⟩ := S.at q
    rw [drop_at hx] at h1
    obtain ⟨x1, x2⟩ := x
    cases x2 with
    | int e =>
      simp only at e1 e2
      subst e1
      obtain ⟨tb, rfl⟩ := VV.intI e2
      unfold addC at h1
      split at h1
      · rename_i t' ht
        exact ⟨t', h1, (addCk_ok h2 h3 ht).1 hv tb, stored_nodup h3 _ _⟩
      · first | exact no h1 | cases h1
    | _ => first | exact no h1 | cases h1
  | @old j l k a b ta tb tk _ q hv ih =>
    obtain ⟨tj, h1, h2, h3⟩ := ih
    obtain ⟨x, hx, e1, e2⟩ := S.at q
    rw [drop_at hx] at h1
    obtain ⟨x1, x2⟩ := x
    cases x2 with
    | int e =>
      simp only at e1 e2
      subst e1
      obtain ⟨tb', hb⟩ := VV.intI e2
      cases hb
      unfold addC at h1
      split at h1
      · rename_i t' ht
        obtain ⟨a', ta', ha, D'⟩ := (addCk_ok h2 h3 ht).2 _ hv
        cases ha
        exact ⟨t', h1, D' tk, stored_nodup h3 _ _⟩
      · first | exact no h1 | cases h1
    | _ => first | exact no h1 | cases h1
theorem addJ_met {t src' : List (Int × AV)} {r : List (Int × AV)} {kvs src : List (Int × Value)} (hr : addC t src' = some r) (D : DVs W s ρ σ t kvs) (S : DVs W s ρ σ src' src) (hn : (kvs.map (·.1)).Nodup) {j : Nat} {l : List (Int × Value)}
    (h : AddJ kvs src j l) {k : Int} {v o : Value} (q : src[j]? = some (k, v)) (ho : valueAt l k = some o) : ∃ a ta b tb, o = .int a ta ∧ v = .int b tb := by
  obtain ⟨tj, h1, h2, h3⟩ := addJ_ok hr D S hn h
  obtain ⟨x, hx, e1, e2⟩ := S.at q
  rw [drop_at hx] at h1
  obtain ⟨x1, x2⟩ := x
  cases x2 with
  | int e =>
    simp only at e1 e2
    subst e1
    obtain ⟨tb, rfl⟩ := VV.intI e2
    unfold addC at h1
    split at h1
    · rename_i t' ht
      obtain ⟨a, ta, ha, _⟩ := (addCk_ok h2 h3 ht).2 _ ho
      exact ⟨a, ta, _, tb, ha, rfl⟩
    · first | exact no h1 | cases h1
  | _ => first | exact no h1 | cases h1
theorem p203 (HK : W.K = KW W.w) (hI : W.mg ("isinstance" : Str) = none ∧ W.mb ("isinstance" : Str) = some (.builtin "isinstance")) (hT : W.mg ("tuple" : Str) = none ∧ W.mb ("tuple" : Str) = some (.type "tuple")) : P203 W := by
  intro h₀ k c t s₁ σ r hz hr A env ρ s G u v U V Q E h
  obtain ⟨u1, kvs, ep1, rfl, hd1, hu1, hs1, D⟩ := VV.dicII U
  obtain ⟨u2, src, ep2, rfl, hd2, hu2, hs2, S⟩ := VV.dicII V
  have hn : (kvs.map (·.1)).Nodup := by obtain ⟨_, _, _, _, _, _, _, hn⟩ := hd1; exact hn
  rw [D.len, S.len] at hz
  have hdp := G.depth
  refine add_core HK G.bg hI hT G.hand (by omega) hd1 hd2 hs1 hs2 (G.big.elim fun o e => ⟨o, G.rel.base _ _ e⟩) (by omega) (fun j l hj => by have := hj.len; omega) (fun j l k v o hj q ho => addJ_met hr D S hn hj q ho) fun h' t' d l hl hd hnew hk => ?_
  have m : MV W h₀ ρ σ s ρ σ { s with heap := h', toks := t' } := Mv.heap G.rel hk
  obtain ⟨tj, h1, h2, h3⟩ := addJ_ok hr D S hn hl
  rw [List.drop_eq_nil_of_le (by rw [S.len]; exact Nat.le_refl _)] at h1
  cases h1
  obtain ⟨o, es, ep, ho, hx⟩ := hd
  refine h _ _ ρ m (VV.dicI' (DVs.mv G.rel m h2) (ep := ep) ⟨o, es, ho, hx⟩ (G.rel.unt_new hnew) ?_)
  cases q : (d == sysModules) with
  | false => rfl
  | true =>
    obtain ⟨o', e'⟩ := G.big
    have := G.rel.base _ _ e'
    rw [← beq_iff_eq.mp q, hnew] at this
    cases this
end
end
end Mine
end

section
open PySem PySem.Spec PySem.Calls PyProof.Rows PySem.W
set_option Elab.async false
set_option maxRecDepth 100000
set_option maxHeartbeats 4000000
namespace Mine
noncomputable section
theorem fb222 (w : World) : fiB (KW w) 222 = true := by kernel_rfl
theorem fo222 (w : World) : (KW w).lookup 222 = some (objAt 222) := by kernel_rfl
theorem fi222 (W : Wd) (hK : W.K = KW W.w) : FiOk W 222 (fiAt 222) := fi_ok ⟨objAt 222, by rw [hK]; exact fo222 _, by kernel_rfl⟩ (by kernel_rfl) (by rw [hK]; exact fb222 _) (fbind1 (by kernel_rfl) fun x => by kernel_rfl)
theorem loc222 : ((fdAt 222).scope.names.lookup ("numbers" : Str) == some .local && (fdAt 222).scope.names.lookup ("profile" : Str) == some .local && (fdAt 222).scope.names.lookup ("k" : Str) == some .local && (fdAt 222).scope.names.lookup ("number" : Str) == some .local && (fdAt 222).scope.names.lookup ("name" : Str) == some .local && (fdAt 222).scope.kind == .function) = true := by kernel_rfl
theorem glb222 : ((fdAt 222).scope.names.lookup ("enumerate" : Str) == some .globalImplicit && (fdAt 222).scope.names.lookup ("add_callers" : Str) == some .globalImplicit && ((fdAt 222).globals == mainGlobals) && ((fdAt 222).builtins == builtinsNs)) = true := by kernel_rfl
/-- the text's shape -/
noncomputable def disp3 (e : Expr) : Prop := ∃ k0 p0 k1 p1 k2 p2 d0 d1 d2 p, e = .Dict [some (.Constant (.str "a") k0 p0), some (.Constant (.str "b") k1 p1), some (.Constant (.str "c") k2 p2)] [.Dict [] [] d0, .Dict [] [] d1, .Dict [] [] d2] p
theorem disp3_eq {e : Expr} (h : disp3 e) : ∃ k0 p0 k1 p1 k2 p2 d0 d1 d2 p, e = .Dict [some (.Constant (.str "a") k0 p0), some (.Constant (.str "b") k1 p1), some (.Constant (.str "c") k2 p2)] [.Dict [] [] d0, .Dict [] [] d1, .Dict [] [] d2] p := h
/-- k % 3 -/
noncomputable def idx1 (e : Expr) : Prop := ∃ p0 n1 p1 p2, e = .BinOp (.Name "k" p0) .Mod (.Constant (.int 3) n1 p1) p2
theorem idx1_eq {e : Expr} (h : idx1 e) : ∃ p0 n1 p1 p2, e = .BinOp (.Name "k" p0) .Mod (.Constant (.int 3) n1 p1) p2 := h
/-- k // 3 % 3 -/
noncomputable def idx2 (e : Expr) : Prop := ∃ p0 n1 p1 p2 n3 p3 p4, e = .BinOp (.BinOp (.Name "k" p0) .FloorDiv (.Constant (.int 3) n1 p1) p2) .Mod (.Constant (.int 3) n3 p3) p4
theorem idx2_eq {e : Expr} (h : idx2 e) : ∃ p0 n1 p1 p2 n3 p3 p4, e = .BinOp (.BinOp (.Name "k" p0) .FloorDiv (.Constant (.int 3) n1 p1) p2) .Mod (.Constant (.int 3) n3 p3) p4 := h
/-- 'abc'[i] -/
noncomputable def abcI (f : Expr → Prop) (e : Expr) : Prop := ∃ k p i q, e = .Subscript (.Constant (.str "abc") k p) i q ∧ f i
theorem abcI_eq {f : Expr → Prop} {e : Expr} (h : abcI f e) : ∃ k p i q, e = .Subscript (.Constant (.str "abc") k p) i q ∧ f i := h
noncomputable def subN (e : Expr) : Prop := ∃ p0 p1 p2, e = .Subscript (.Name "profile" p0) (.Name "name" p1) p2
theorem subN_eq {e : Expr} (h : subN e) : ∃ p0 p1 p2, e = .Subscript (.Name "profile" p0) (.Name "name" p1) p2 := h
noncomputable def addE (e : Expr) : Prop := ∃ v0 v1 v2 v3 w0 w1 i q w10 w11 v4, e = .Call (.Name "add_callers" v0) [.Subscript (.Name "profile" v1) (.Name "name" v2) v3, .Dict [some (.Subscript (.Constant (.str "abc") w0 w1) i q)] [.Name "number" w10] w11] [] v4 ∧ idx2 i
theorem addE_eq {e : Expr} (h : addE e) : ∃ v0 v1 v2 v3 w0 w1 i q w10 w11 v4, e = .Call (.Name "add_callers" v0) [.Subscript (.Name "profile" v1) (.Name "name" v2) v3, .Dict [some (.Subscript (.Constant (.str "abc") w0 w1) i q)] [.Name "number" w10] w11] [] v4 ∧ idx2 i := h
noncomputable def enumE (e : Expr) : Prop := ∃ c0 c1 c2, e = .Call (.Name "enumerate" c0) [.Name "numbers" c1] [] c2
theorem enumE_eq {e : Expr} (h : enumE e) : ∃ c0 c1 c2, e = .Call (.Name "enumerate" c0) [.Name "numbers" c1] [] c2 := h
noncomputable def kNum (e : Expr) : Prop := ∃ p0 p1 k p, e = .Tuple [.Name "k" p0, .Name "number" p1] k p
theorem kNum_eq {e : Expr} (h : kNum e) : ∃ p0 p1 k p, e = .Tuple [.Name "k" p0, .Name "number" p1] k p := h
theorem body222 : ∃ a0 d a1 t i b0 n0 e1 n1 s e2 n2 r0 r1, bodyAt 222 = [.Assign [.Name "profile" a0] d a1, .For t i [.Assign [.Name "name" n0] e1 n1, .Assign [s] e2 n2] [] b0, .Return (some (.Name "profile" r0)) r1] ∧
    disp3 d ∧ kNum t ∧ enumE i ∧ abcI idx1 e1 ∧ subN s ∧ addE e2 :=
  ⟨_, _, _, _, _, _, _, _, _, _, _, _, _, _, rfl, ⟨_, _, _, _, _, _, _, _, _, _, rfl⟩, ⟨_, _, _, _, rfl⟩, ⟨_, _, _, rfl⟩, ⟨_, _, _, _, rfl, _, _, _, _, rfl⟩, ⟨_, _, _, rfl⟩, ⟨_, _, _, _, _, _, _, _, _, _, _, rfl, _, _, _, _, _, _, _, rfl⟩⟩
end
end Mine
end

section
open PySem PySem.Spec PySem.Calls PyProof.Rows PySem.W
set_option Elab.async false
set_option maxRecDepth 100000
set_option maxHeartbeats 4000000
namespace Mine
/-- what has been laid into the place r of nine -/
noncomputable def S9 (ns : List Int) (r : Nat) : Nat → Int
  | 0 => 0
  | j + 1 => S9 ns r j + (if j % 9 = r then ns.getD j 0 else 0)
noncomputable def ltr : Nat → Str
  | 0 => "a"
  | 1 => "b"
  | _ => "c"
noncomputable def tab (ns : List Int) (i j : Nat) : List (Str × Int) := ([0, 1, 2].filter fun c => decide (3 * c + i < j)).map fun c => (ltr c, S9 ns (3 * c + i) j)
noncomputable def addT : List (Str × Int) → Str → Int → List (Str × Int)
  | [], k, x => [(k, x)]
  | p :: r, k, x => if p.1 = k then (p.1, p.2 + x) :: r else p :: addT r k x
theorem ltr_ab : (ltr 0 = ltr 1) = False := by simp only [eq_iff_iff, iff_false]; decide +kernel
theorem ltr_ac : (ltr 0 = ltr 2) = False := by simp only [eq_iff_iff, iff_false]; decide +kernel
theorem ltr_bc : (ltr 1 = ltr 2) = False := by simp only [eq_iff_iff, iff_false]; decide +kernel
theorem S9_ne {ns : List Int} {r j : Nat} (h : j % 9 ≠ r) : S9 ns r (j + 1) = S9 ns r j := by simp [S9, h]
theorem S9_eq {ns : List Int} {r j : Nat} (h : j % 9 = r) : S9 ns r (j + 1) = S9 ns r j + ns.getD j 0 := by simp [S9, h]
theorem tab_full (ns : List Int) (i j : Nat) (hi : i < 3) (hj : 9 ≤ j) : tab ns i j = [(ltr 0, S9 ns i j), (ltr 1, S9 ns (3 + i) j), (ltr 2, S9 ns (6 + i) j)] := by
  have h0 : 3 * 0 + i < j := by omega
  have h1 : 3 * 1 + i < j := by omega
  have h2 : 3 * 2 + i < j := by omega
  unfold tab
  rw [List.filter_cons_of_pos (by simpa using h0), List.filter_cons_of_pos (by simpa using h1), List.filter_cons_of_pos (by simpa using h2)]
  simp
theorem tab_other (ns : List Int) (i j : Nat) (hi : i < 3) (h : j % 3 ≠ i) : tab ns i (j + 1) = tab ns i j := by
  unfold tab
  have e : ∀ c, (decide (3 * c + i < j + 1)) = decide (3 * c + i < j) := fun c => by
    have : 3 * c + i ≠ j := fun e => h (by omega)
    rw [decide_eq_decide]
    omega
  have s : ∀ c ∈ [0, 1, 2], S9 ns (3 * c + i) (j + 1) = S9 ns (3 * c + i) j := fun c hc => S9_ne (fun e => by omega)
  rw [show (fun c => decide (3 * c + i < j + 1)) = fun c => decide (3 * c + i < j) from funext e]
  refine List.map_congr_left fun c hc => ?_
  rw [s c (List.mem_filter.mp hc).1]
theorem tab_step (ns : List Int) (j : Nat) : tab ns (j % 3) (j + 1) = addT (tab ns (j % 3) j) (ltr (j / 3 % 3)) (ns.getD j 0) := by
  by_cases hj : 9 ≤ j
  · rw [tab_full ns _ _ (Nat.mod_lt _ (by decide)) (by omega), tab_full ns _ _ (Nat.mod_lt _ (by decide)) hj]
    have hc : j / 3 % 3 = 0 ∨ j / 3 % 3 = 1 ∨ j / 3 % 3 = 2 := by omega
    rcases hc with hc | hc | hc
    · rw [hc, S9_eq (r := j % 3) (by omega), S9_ne (r := 3 + j % 3) (by omega), S9_ne (r := 6 + j % 3) (by omega)]
      simp [addT]
    · rw [hc, S9_ne (r := j % 3) (by omega), S9_eq (r := 3 + j % 3) (by omega), S9_ne (r := 6 + j % 3) (by omega)]
      simp [addT, ltr_ab]
    · rw [hc, S9_ne (r := j % 3) (by omega), S9_ne (r := 3 + j % 3) (by omega), S9_eq (r := 6 + j % 3) (by omega)]
      simp [addT, ltr_ac, ltr_bc]
  · have : j = 0 ∨ j = 1 ∨ j = 2 ∨ j = 3 ∨ j = 4 ∨ j = 5 ∨ j = 6 ∨ j = 7 ∨ j = 8 := by omega
    rcases this with rfl | rfl | rfl | rfl | rfl | rfl | rfl | rfl | rfl <;> simp [tab, addT, S9, ltr_ab, ltr_ac, ltr_bc]
noncomputable def TR : List (Str × Int) → List (Str × Value) → Prop
  | [], [] => True
  | p :: r, q :: l => (p.1 = q.1 ∧ ∃ t, q.2 = .int p.2 t) ∧ TR r l
  | _, _ => False
theorem TR.len : ∀ {T : List (Str × Int)} {l : List (Str × Value)}, TR T l → T.length = l.length
  | [], [], _ => rfl
  | _ :: _, _ :: _, ⟨_, b⟩ => congrArg (· + 1) (TR.len b)
  | [], _ :: _, h => h.elim
  | _ :: _, [], h => h.elim
theorem TR.val {k : Str} {o : Value} : ∀ {T : List (Str × Int)} {l : List (Str × Value)}, TR T l → valueAt l k = some o → ∃ a ta, o = .int a ta
  | [], [], _, h => by cases h
  | p :: r, q :: l, ⟨⟨_, t, e⟩, b⟩, h => by
    by_cases hq : q.1 = k
    · rw [valueAt_eq hq] at h
      cases h
      exact ⟨_, t, e⟩
    · rw [valueAt_ne hq] at h
      exact TR.val b h
  | [], _ :: _, h, _ => h.elim
  | _ :: _, [], h, _ => h.elim
theorem TR.add_new {k : Str} {x : Int} {t : Tok} : ∀ {T : List (Str × Int)} {l : List (Str × Value)}, TR T l → valueAt l k = none → TR (addT T k x) (stored l k (.int x t))
  | [], [], _, _ => ⟨⟨rfl, t, rfl⟩, trivial⟩
  | p :: r, q :: l, ⟨⟨e1, e⟩, b⟩, h => by
    have hq : q.1 ≠ k := fun hq => by rw [valueAt_eq hq] at h; first | exact no h | cases h
    rw [valueAt_ne hq] at h
    rw [stored_ne hq]
    unfold addT
    rw [if_neg (by rw [e1]; exact hq)]
    exact ⟨⟨e1, e⟩, TR.add_new b h⟩
  | [], _ :: _, h, _ => h.elim
  | _ :: _, [], h, _ => h.elim
theorem TR.add_old {k : Str} {x a : Int} {t ta : Tok} : ∀ {T : List (Str × Int)} {l : List (Str × Value)}, TR T l → (l.map (·.1)).Nodup → valueAt l k = some (.int a ta) → TR (addT T k x) (stored l k (.int (a + x) t))
  | [], [], _, _, h => by cases h
  | p :: r, q :: l, ⟨⟨e1, t', e⟩, b⟩, hn, h => by
    obtain ⟨hn1, hn2⟩ := List.nodup_cons.mp (show (q.1 :: l.map (·.1)).Nodup from hn)
    by_cases hq : q.1 = k
    · rw [valueAt_eq hq, e] at h
      cases h
      rw [stored_eq hq (hq ▸ hn1)]
      unfold addT
      rw [if_pos (by rw [e1]; exact hq)]
      exact ⟨⟨e1, t, rfl⟩, b⟩
    · rw [valueAt_ne hq] at h
      rw [stored_ne hq]
      unfold addT
      rw [if_neg (by rw [e1]; exact hq)]
      exact ⟨⟨e1, t', e⟩, TR.add_old b hn2 h⟩
  | [], _ :: _, h, _, _ => h.elim
  | _ :: _, [], h, _, _ => h.elim
theorem addJ_one {kvs l : List (Str × Value)} {T : List (Str × Int)} {k : Str} {x : Int} {t : Tok} (hT : TR T kvs) (hn : (kvs.map (·.1)).Nodup) (h : AddJ kvs [(k, .int x t)] 1 l) : TR (addT T k x) l := by
  cases h with
  | new h0 q hv =>
    cases h0
    cases q
    exact hT.add_new hv
  | old h0 q hv =>
    cases h0
    cases q
    exact hT.add_old hn hv
end Mine
end

section
open PySem PySem.Spec PySem.Calls PyProof.Rows PySem.W
set_option Elab.async false
set_option maxRecDepth 100000
set_option maxHeartbeats 4000000
namespace Mine
noncomputable section
section
variable {W : Wd} {A : Around} {s : Shared} {E : Value → Shared → Prop} {L : Addr} {m : Str → Option Value} {env : Env}
theorem ltr_code {i : Nat} (hi : i < 3) : ∃ ch, (([97, 98, 99] : List Nat))[i]? = some ch ∧ ltr i = ⟨[ch].toArray⟩ := by
  match i, hi with
  | 0, _ => exact ⟨97, rfl, by decide +kernel⟩
  | 1, _ => exact ⟨98, rfl, by decide +kernel⟩
  | 2, _ => exact ⟨99, rfl, by decide +kernel⟩
/-- 'abc'[i] -/
theorem abc_ev {i : Nat} (hi : i < 3) {k : Nat} {p q : Pos} {idx : Expr} (hn : notSlice idx = true) {Q : Value → Shared → Prop}
    (h : ∀ tk₀, wpAny (model W.prog W.w) A (eval idx env) (fun v s' => ∃ t, v = .int i t ∧ ∃ tk, s' = { s with toks := tk } ∧ ∀ t' tk', Q (.str (ltr i) t') { s with toks := tk' }) E { s with toks := tk₀ }) :
    wpAny (model W.prog W.w) A (eval (.Subscript (.Constant (.str "abc") k p) idx q) env) Q E s := by
  refine Subscript_ (wpAny_Constant_str (wpAny_mono (h _) (fun v s' hv => ?_) fun _ _ x => x))
  obtain ⟨t, rfl, tk, rfl, hQ⟩ := hv
  obtain ⟨ch, h1, h2⟩ := ltr_code hi
  have e0 : ("abc" : Str) = ⟨([97, 98, 99] : List Nat).toArray⟩ := by decide +kernel
  rw [e0]
  refine tail_any (T := "str") rfl slot_str_getitem.lookup (PyProof.Rows.getItem_str (c := ch) ?_ ?_ ?_) (sub_operate hn _ _)
  · show (decide ((i : Int) < -(2 ^ 63 : Int)) || decide ((i : Int) ≥ 2 ^ 63)) = false
    simp; omega
  · show (seqIndex? (i : Int) 3).bind _ = some ch
    have : seqIndex? (i : Int) 3 = some i := by
      unfold seqIndex?
      have e1 : ¬ (i : Int) < 0 := by omega
      have e2 : (i : Int) < 3 := by omega
      simp [e1, e2]
    rw [this]
    simpa using h1
  · rw [← h2]
    exact hQ _ _
/-- the text's two indexes -/
theorem idx1_ev {j : Nat} {tj : Tok} {idx : Expr} (hx : idx1 idx) (hns : s.heap.Ns L m) (hk : m "k" = some (.int j tj)) {Q : Value → Shared → Prop} (h : ∀ t tk, Q (.int ((j % 3 : Nat) : Int) t) { s with toks := tk }) :
    wpAny (model W.prog W.w) A (eval idx (callEnv (fdAt 222) L 222)) Q E s := by
  have hl := loc222
  simp only [Bool.and_eq_true, beq_iff_eq] at hl
  obtain ⟨⟨⟨⟨⟨l1, l2⟩, l3⟩, l4⟩, l5⟩, lk⟩ := hl
  obtain ⟨p0, n1, p1, p2, rfl⟩ := idx1_eq hx
  refine wpAny_BinOp (wpAny_Name (wpAny_loadName_local (env := callEnv (fdAt 222) L 222) lk l3 hns (v := .int j tj) hk ?_) (by decide +kernel))
  refine wpAny_Constant_int (PyProof.Rows.mod_int' (by decide) ?_)
  have : Int.fmod (j : Int) 3 = ((j % 3 : Nat) : Int) := by rw [Int.fmod_eq_emod_of_nonneg _ (by decide)]; rfl
  rw [this]
  exact h _ _
theorem idx2_ev {j : Nat} {tj : Tok} {idx : Expr} (hx : idx2 idx) (hns : s.heap.Ns L m) (hk : m "k" = some (.int j tj)) {Q : Value → Shared → Prop} (h : ∀ t tk, Q (.int ((j / 3 % 3 : Nat) : Int) t) { s with toks := tk }) :
    wpAny (model W.prog W.w) A (eval idx (callEnv (fdAt 222) L 222)) Q E s := by
  have hl := loc222
  simp only [Bool.and_eq_true, beq_iff_eq] at hl
  obtain ⟨⟨⟨⟨⟨l1, l2⟩, l3⟩, l4⟩, l5⟩, lk⟩ := hl
  obtain ⟨p0, n1, p1, p2, n3, p3, p4, rfl⟩ := idx2_eq hx
  refine wpAny_BinOp (wpAny_BinOp (wpAny_Name (wpAny_loadName_local (env := callEnv (fdAt 222) L 222) lk l3 hns (v := .int j tj) hk ?_) (by decide +kernel)))
  refine wpAny_Constant_int (PyProof.Rows.floordiv_int (by decide) ?_ (.inl (PyProof.noPylong_small (by decide))))
  refine wpAny_Constant_int (PyProof.Rows.mod_int' (by decide) ?_)
  have : Int.fmod (Int.fdiv (j : Int) 3) 3 = ((j / 3 % 3 : Nat) : Int) := by
    rw [Int.fmod_eq_emod_of_nonneg _ (by decide), Int.fdiv_eq_ediv_of_nonneg _ (by decide)]; rfl
  rw [this]
  exact h _ _
theorem idx1_ns {e : Expr} (h : idx1 e) : notSlice e = true := by obtain ⟨_, _, _, _, rfl⟩ := idx1_eq h; rfl
theorem idx2_ns {e : Expr} (h : idx2 e) : notSlice e = true := by obtain ⟨_, _, _, _, _, _, _, rfl⟩ := idx2_eq h; rfl
/-- the three empty tables -/
theorem disp_ev {e : Expr} (he : disp3 e) {Q : Value → Shared → Prop}
    (h : ∀ h' t0 t1 t2 pd tk, (∀ b o, s.heap.get? b = some o → h'.get? b = some o) → (t0 ≠ t1 ∧ t0 ≠ t2 ∧ t1 ≠ t2 ∧ t0 ≠ pd ∧ t1 ≠ pd ∧ t2 ≠ pd) → (s.heap.get? t0 = none ∧ s.heap.get? t1 = none ∧ s.heap.get? t2 = none ∧ s.heap.get? pd = none) →
      h'.DictOf (strKind W.prog W.w) pd [(ltr 0, .ref t0), (ltr 1, .ref t1), (ltr 2, .ref t2)] → h'.DictOf (strKind W.prog W.w) t0 [] → h'.DictOf (strKind W.prog W.w) t1 [] → h'.DictOf (strKind W.prog W.w) t2 [] → Q (.ref pd) { s with heap := h', toks := tk }) :
    wpAny (model W.prog W.w) A (eval e env) Q E s := by
  obtain ⟨k0, p0, k1, p1, k2, p2, d0, d1, d2, p, rfl⟩ := disp3_eq he
  generalize hv : ([Expr.Dict [] [] d0, Expr.Dict [] [] d1, Expr.Dict [] [] d2] : List Expr) = vals
  refine wpAny_Dict_walk (knd := strKind W.prog W.w) rfl (by subst hv; rfl) (by simp) (by simp) ?_
  subst hv
  refine pairTrees_cons_walk (wpAny_Constant_str (wpAny_Dict_empty ?_))
  refine pairTrees_cons_walk (wpAny_Constant_str (wpAny_Dict_empty ?_))
  refine pairTrees_cons_walk (wpAny_Constant_str (wpAny_Dict_empty ?_))
  refine pairTrees_nil_walk ?_
  dsimp only
  have hn : (([("a" : Str), "b", "c"] : List Str)).Nodup := by decide +kernel
  have z0 : (s.heap.push { cls := .type "dict", data := .dict #[] }).objs.size = s.heap.objs.size + 1 := Heap.size_push ..
  have z1 : ((s.heap.push { cls := .type "dict", data := .dict #[] }).push { cls := .type "dict", data := .dict #[] }).objs.size = s.heap.objs.size + 1 + 1 := by rw [Heap.size_push, z0]
  have z2 : (((s.heap.push { cls := .type "dict", data := .dict #[] }).push { cls := .type "dict", data := .dict #[] }).push { cls := .type "dict", data := .dict #[] }).objs.size = s.heap.objs.size + 1 + 1 + 1 := by rw [Heap.size_push, z1]
  refine display_done_str rfl hn (((Heap.DictOf.new (knd := strKind W.prog W.w) s.heap).push _).push _ |>.push _) fun h' hd hs => ?_
  have none_of : ∀ {n : Nat}, s.heap.objs.size ≤ n → s.heap.get? n = none := fun {n} hle => by
    cases q : s.heap.get? n with
    | none => rfl
    | some o => exact absurd (Heap.lt_size q) (Nat.not_lt.mpr hle)
  have ds : ∀ {d : Addr}, d ≠ s.heap.objs.size → _ → h'.DictOf (strKind W.prog W.w) d [] := fun {d} hne (hd : Heap.DictOf (strKind W.prog W.w) _ d []) => hd.sameBut hs hne
  refine h h' (s.heap.objs.size + 1) (s.heap.objs.size + 1 + 1) (s.heap.objs.size + 1 + 1 + 1) s.heap.objs.size _ (fun b o eb => (hs.2 b (Nat.ne_of_lt (Heap.lt_size eb))).trans (Heap.get?_push_of_some _ (Heap.get?_push_of_some _ (Heap.get?_push_of_some _ (Heap.get?_push_of_some _ eb)))))
    ⟨?_, ?_, ?_, ?_, ?_, ?_⟩ ⟨none_of (by omega), none_of (by omega), none_of (by omega), none_of (Nat.le_refl _)⟩ ?_ ?_ ?_ ?_
  · exact Nat.ne_of_lt (Nat.lt_succ_self _)
  · exact Nat.ne_of_lt (Nat.lt_succ_of_lt (Nat.lt_succ_self _))
  · exact Nat.ne_of_lt (Nat.lt_succ_self _)
  · exact Nat.ne_of_gt (Nat.lt_succ_self _)
  · exact Nat.ne_of_gt (Nat.lt_succ_of_lt (Nat.lt_succ_self _))
  · exact Nat.ne_of_gt (Nat.lt_succ_of_lt (Nat.lt_succ_of_lt (Nat.lt_succ_self _)))
  · rw [← z2, ← z1, ← z0]
    exact hd
  · refine ds (Nat.ne_of_gt (Nat.lt_succ_self _)) ?_
    have := ((Heap.DictOf.new (knd := strKind W.prog W.w) (s.heap.push { cls := .type "dict", data := .dict #[] })).push { cls := .type "dict", data := .dict #[] }).push { cls := .type "dict", data := .dict #[] }
    rw [z0] at this
    exact this
  · refine ds (Nat.ne_of_gt (Nat.lt_succ_of_lt (Nat.lt_succ_self _))) ?_
    have := (Heap.DictOf.new (knd := strKind W.prog W.w) ((s.heap.push { cls := .type "dict", data := .dict #[] }).push { cls := .type "dict", data := .dict #[] })).push { cls := .type "dict", data := .dict #[] }
    rw [z1] at this
    exact this
  · refine ds (Nat.ne_of_gt (Nat.lt_succ_of_lt (Nat.lt_succ_of_lt (Nat.lt_succ_self _)))) ?_
    have := Heap.DictOf.new (knd := strKind W.prog W.w) (((s.heap.push { cls := .type "dict", data := .dict #[] }).push { cls := .type "dict", data := .dict #[] }).push { cls := .type "dict", data := .dict #[] })
    rw [z2] at this
    exact this
end
end
end Mine
end

section
open PySem PySem.Spec PySem.Calls PyProof.Rows PySem.W
set_option Elab.async false
set_option maxRecDepth 100000
set_option maxHeartbeats 4000000
namespace Mine
noncomputable section
set_option linter.unusedSimpArgs false
section
variable {W : Wd} {A : Around} {s : Shared} {E : Value → Shared → Prop} {L pd : Addr} {m : Str → Option Value}
noncomputable def pdl (t : Nat → Addr) : List (Str × Value) := [(ltr 0, .ref (t 0)), (ltr 1, .ref (t 1)), (ltr 2, .ref (t 2))]
theorem pdl_at (t : Nat → Addr) {i : Nat} (hi : i < 3) : valueAt (pdl t) (ltr i) = some (.ref (t i)) := by
  match i, hi with
  | 0, _ => exact valueAt_eq rfl
  | 1, _ => exact (valueAt_ne (by simp [ltr_ab])).trans (valueAt_eq rfl)
  | 2, _ => exact (valueAt_ne (by simp [ltr_ac])).trans ((valueAt_ne (by simp [ltr_bc])).trans (valueAt_eq rfl))
theorem ba : (ltr 1 = ltr 0) = False := by simp only [eq_iff_iff, iff_false]; decide +kernel
theorem ca : (ltr 2 = ltr 0) = False := by simp only [eq_iff_iff, iff_false]; decide +kernel
theorem cb : (ltr 2 = ltr 1) = False := by simp only [eq_iff_iff, iff_false]; decide +kernel
theorem pdl_put (t : Nat → Addr) {i : Nat} (hi : i < 3) (d : Addr) : stored (pdl t) (ltr i) (.ref d) = pdl fun k => if k = i then d else t k := by
  match i, hi with
  | 0, _ => simp [stored, pdl, ltr_ab, ltr_ac, ltr_bc, ba, ca, cb]
  | 1, _ => simp [stored, pdl, ltr_ab, ltr_ac, ltr_bc, ba, ca, cb]
  | 2, _ => simp [stored, pdl, ltr_ab, ltr_ac, ltr_bc, ba, ca, cb]
structure Bs (W : Wd) (h₀ : Heap) (L pd : Addr) : Prop where
  bg : Bg W h₀
  big : ∃ o, h₀.get? sysModules = some o
  L : h₀.get? L = none
  pd : h₀.get? pd = none
theorem prof_turn (HK : W.K = KW W.w) (hI : W.mg ("isinstance" : Str) = none ∧ W.mb ("isinstance" : Str) = some (.builtin "isinstance")) (hT : W.mg ("tuple" : Str) = none ∧ W.mb ("tuple" : Str) = some (.type "tuple")) (hadd : W.mg ("add_callers" : Str) = some (.ref 203))
    (hand : A.handled = none) (hdp : A.depth < recursionLimit) {h₀ : Heap} (Z : Bs W h₀ L pd) (base : ∀ b o, h₀.get? b = some o → s.heap.get? b = some o) {j : Nat} {tj tx : Tok} {x : Int} {t : Nat → Addr} {T : List (Str × Int)} {kvs : List (Str × Value)}
    (hns : s.heap.Ns L m) (h1 : m "profile" = some (.ref pd)) (h2 : m "k" = some (.int j tj)) (h3 : m "number" = some (.int x tx)) (hpL : pd ≠ L)
    (hpd : s.heap.DictOf (strKind W.prog W.w) pd (pdl t)) (hkv : s.heap.DictOf (strKind W.prog W.w) (t (j % 3)) kvs) (hTR : TR T kvs) (hlen : T.length ≤ 3) (htL : t (j % 3) ≠ L) (ht₀ : h₀.get? (t (j % 3)) = none)
    {n0 n1 n2 : Pos} {e1 sE e2 : Expr} (he1 : abcI idx1 e1) (hs : subN sE) (he2 : addE e2) {Q : Flow → Shared → Prop}
    (h : ∀ h' tk d l m', TR (addT T (ltr (j / 3 % 3)) x) l → h'.DictOf (strKind W.prog W.w) d l → s.heap.get? d = none → h'.DictOf (strKind W.prog W.w) pd (pdl fun k => if k = j % 3 then d else t k) → h'.Ns L m' → (∀ y, y ≠ ("name" : Str) → m' y = m y) →
      (∀ b o, b ≠ L → b ≠ pd → s.heap.get? b = some o → h'.get? b = some o) → Q .next { s with heap := h', toks := tk }) :
    wpAny (model W.prog W.w) A (execs [.Assign [.Name "name" n0] e1 n1, .Assign [sE] e2 n2] (callEnv (fdAt 222) L 222)) Q E s := by
  have hl := loc222
  simp only [Bool.and_eq_true, beq_iff_eq] at hl
  obtain ⟨⟨⟨⟨⟨l1, l2⟩, l3⟩, l4⟩, l5⟩, lk⟩ := hl
  have hg := glb222
  simp only [Bool.and_eq_true, beq_iff_eq] at hg
  obtain ⟨⟨⟨g1, g2⟩, g3⟩, g4⟩ := hg
  have hi : j % 3 < 3 := Nat.mod_lt _ (by decide)
  have hc : j / 3 % 3 < 3 := Nat.mod_lt _ (by decide)
  obtain ⟨ak, ap, ai, aq, rfl, hx1⟩ := abcI_eq he1
  obtain ⟨s0, s1, s2, rfl⟩ := subN_eq hs
  obtain ⟨v0, v1, v2, v3, w0, w1, i2, q2, w10, w11, v4, rfl, hx2⟩ := addE_eq he2
  have hp : ((fdAt 222).scope.kind == .class || ((fdAt 222).scope.kind == .module && (callEnv (fdAt 222) L 222).locals != (callEnv (fdAt 222) L 222).globals)) = false := by rw [lk]; rfl
  have sL : (L == sysModules) = false := by
    obtain ⟨o, e⟩ := Z.big
    cases q : (L == sysModules) with
    | false => rfl
    | true => have := Z.L; rw [beq_iff_eq.mp q, e] at this; first | exact no this | cases this
  have sm : ∀ {a : Addr}, h₀.get? a = none → (a == sysModules) = false := fun {a} ha => by
    obtain ⟨o, e⟩ := Z.big
    cases q : (a == sysModules) with
    | false => rfl
    | true => rw [beq_iff_eq.mp q, e] at ha; first | exact no ha | cases ha
  refine wpAny_execs_cons (wpAny_Assign_Name (abc_ev hi (idx1_ns hx1) fun tk₀ => idx1_ev (s := { s with toks := tk₀ }) hx1 hns h2 fun t₀ tk => ⟨t₀, rfl, tk, rfl, fun t' tk' => ?_⟩) (by with_unfolding_all rfl))
  refine wpAny_storeName_local (env := callEnv (fdAt 222) L 222) (s := { s with toks := tk' }) l5 hns (fun h₁ n₁ e₁ => ?_) hp
  have k1 : ∀ b o, b ≠ L → s.heap.get? b = some o → h₁.get? b = some o := fun b o hb e => (e₁.2 b hb).trans e
  have base1 : ∀ b o, h₀.get? b = some o → h₁.get? b = some o := fun b o e => k1 b o (fun q => by subst q; rw [Z.L] at e; cases e) (base b o e)
  have hpd1 : h₁.DictOf (strKind W.prog W.w) pd (pdl t) := hpd.sameBut e₁ hpL
  have hkv1 : h₁.DictOf (strKind W.prog W.w) (t (j % 3)) kvs := hkv.sameBut e₁ htL
  have nmk : ("name" : Str) ≠ "k" ∧ ("profile" : Str) ≠ "name" ∧ ("number" : Str) ≠ "name" ∧ ("k" : Str) ≠ "name" := ⟨wk _ _ (by decide +kernel), wk _ _ (by decide +kernel), wk _ _ (by decide +kernel), wk _ _ (by decide +kernel)⟩
  refine wpAny_execs_cons (wpAny_Assign_Subscript ?_ (by with_unfolding_all rfl))
  have B1 : Bg W h₁ := Z.bg.keeps base1
  refine wpAny_Call_NameR (wpAny_Name ?_ (by decide +kernel))
  rw [loadName_read (env := callEnv (fdAt 222) L 222) lk g2]
  refine loadGlobal_global (by show Heap.Ns h₁ (fdAt 222).globals _; rw [g3]; exact B1.ns) hadd ?_
  refine callWith_of (P := W.K.In) rfl (keeps_K (KOk.known (HK ▸ kok W.w) 203 (by decide))) ?_
  show wpAny _ _ (evalArgs (.ref 203) true [(false, eval (.Subscript (.Name "profile" v1) (.Name "name" v2) v3) (callEnv (fdAt 222) L 222)), (false, eval (.Dict [some (.Subscript (.Constant (.str "abc") w0 w1) i2 q2)] [.Name "number" w10] w11) (callEnv (fdAt 222) L 222))] []) _ _ _
  have mp1 : (if ("profile" : Str) = "name" then some (Value.str (ltr (j % 3)) t') else m "profile") = some (.ref pd) := by rw [if_neg nmk.2.1]; exact h1
  have mn1 : (if ("name" : Str) = "name" then some (Value.str (ltr (j % 3)) t') else m "name") = some (.str (ltr (j % 3)) t') := if_pos rfl
  have mk1 : (if ("k" : Str) = "name" then some (Value.str (ltr (j % 3)) t') else m "k") = some (.int j tj) := by rw [if_neg nmk.2.2.2]; exact h2
  have mx1 : (if ("number" : Str) = "name" then some (Value.str (ltr (j % 3)) t') else m "number") = some (.int x tx) := by rw [if_neg nmk.2.2.1]; exact h3
  refine evalArgs_plain (spliced_cons (Subscript_ ?_))
  refine wpAny_Name (wpAny_loadName_local (env := callEnv (fdAt 222) L 222) lk l2 n₁ (v := .ref pd) mp1 ?_) (by decide +kernel)
  refine wpAny_Name (wpAny_loadName_local (env := callEnv (fdAt 222) L 222) lk l5 n₁ (v := .str (ltr (j % 3)) t') mn1 ?_) (by decide +kernel)
  refine tail_any hpd1.typeIs slot_dict_getitem.lookup (wpAny_getItem_of (knd := strKind W.prog W.w) (k := ltr (j % 3)) (by simp [PySem.strKind, Value.isStrOf]) hpd1.mapOf (pdl_at t hi) ?_) (sub_operate rfl _ _)
  refine spliced_cons (wpAny_Dict_walk (knd := strKind W.prog W.w) rfl rfl (by simp) (by simp) ?_)
  refine pairTrees_cons_walk (abc_ev hc (idx2_ns hx2) fun tk₁ => idx2_ev (s := { s with heap := h₁.push { cls := .type "dict", data := .dict #[] }, toks := tk₁ }) hx2 (n₁.push _) mk1 fun t₂ tk₂ => ⟨t₂, rfl, tk₂, rfl, fun t₃ tk₃ => ?_⟩)
  refine wpAny_Name (wpAny_loadName_local (env := callEnv (fdAt 222) L 222) lk l4 (n₁.push _) (v := .int x tx) mx1 ?_) (by decide +kernel)
  refine pairTrees_nil_walk ?_
  dsimp only
  refine display_done_str rfl (by simp [strPairs]) (Heap.DictOf.new (knd := strKind W.prog W.w) h₁) fun h₂ hd₂ e₂ => ?_
  have k2 : ∀ b o, h₁.get? b = some o → h₂.get? b = some o := fun b o e => (e₂.2 b (Nat.ne_of_lt (Heap.lt_size e))).trans (Heap.get?_push_of_some _ e)
  have k2' : ∀ b o, h₀.get? b = some o → h₂.get? b = some o := fun b o e => k2 b o (base1 b o e)
  refine spliced_nil ⟨fun a o e => k2' a o (Z.bg.kin a o e), ?_⟩
  obtain ⟨ot, tt, ept, hot, rt⟩ := hkv1
  obtain ⟨od, td, epd, hod, rd⟩ := hd₂
  have hz : kvs.length ≤ 3 := by rw [← hTR.len]; exact hlen
  have fr₁ : h₁.get? h₁.objs.size = none := by
    cases q : h₁.get? h₁.objs.size with
    | none => rfl
    | some o => exact absurd (Heap.lt_size q) (Nat.lt_irrefl _)
  have hd0 : h₀.get? h₁.objs.size = none := by
    cases q : h₀.get? h₁.objs.size with
    | none => rfl
    | some o => rw [base1 _ _ q] at fr₁; cases fr₁
  refine add_core (s := { s with heap := h₂, toks := _ }) (knd := strKind W.prog W.w) (u1 := t (j % 3)) (u2 := h₁.objs.size) (kvs := kvs) (src := [(ltr (j / 3 % 3), .int x tx)]) HK (Z.bg.keeps k2') hI hT hand hdp ⟨ot, tt, k2 _ _ hot, rt⟩ ⟨od, td, hod, rd⟩ (sm ht₀) (sm hd0) (Z.big.elim fun o e => ⟨o, k2' _ _ e⟩) (by omega) (fun i l hj => by have := hj.len; simp at this; omega) (fun i l k v o hj q ho => ?_) fun h₃ tk₃ d l hJ hdl hdn k3 => ?_
  · match i, q with
    | 0, q =>
      cases hj
      simp at q
      obtain ⟨rfl, rfl⟩ := q
      obtain ⟨a, ta, e⟩ := hTR.val ho
      exact ⟨a, ta, x, tx, e, rfl⟩
    | i + 1, q => simp at q
  · have n₃ : h₃.Ns L _ := n₁.keeps fun b o e => k3 b o (k2 b o e)
    have hpd3 : h₃.DictOf (strKind W.prog W.w) pd (pdl t) := dictOf_kept hpd1 fun _ ho => k3 _ _ (k2 _ _ ho)
    refine wpAny_Name (wpAny_loadName_local (env := callEnv (fdAt 222) L 222) lk l2 n₃ (v := .ref pd) mp1 ?_) (by decide +kernel)
    refine wpAny_Name (wpAny_loadName_local (env := callEnv (fdAt 222) L 222) lk l5 n₃ (v := .str (ltr (j % 3)) t') mn1 ?_) (by decide +kernel)
    refine wpAny_setItem_pairs (knd := strKind W.prog W.w) (k := ltr (j % 3)) (by simp [PySem.strKind, Value.isStrOf]) hpd3 (fun h₄ hd₄ e₄ => ?_) (Nat.le_trans (show 3 ≤ 1000 by decide) (by decide))
    rw [pdl_put t hi] at hd₄
    obtain ⟨op, tp, epp, hop, _⟩ := hpd
    have hds : s.heap.get? d = none := by
      cases q : s.heap.get? d with
      | none => rfl
      | some o =>
        by_cases hdL : d = L
        · subst hdL
          obtain ⟨oL, esL, epL, hoL, _⟩ := n₁
          exact absurd ((k2 _ _ hoL).symm.trans hdn) (fun e => by cases e)
        · exact absurd ((k2 _ _ (k1 _ _ hdL q)).symm.trans hdn) (fun e => by cases e)
    have hdp' : d ≠ pd := fun e => by rw [e, hop] at hds; first | exact no hds | cases hds
    refine wpAny_execs_nil (h h₄ _ d l _ (addJ_one hTR rt.2.2.2.2 hJ) (hdl.sameBut e₄ hdp') hds hd₄ (n₃.sameBut e₄ hpL.symm) (fun y hy => if_neg hy) fun b o hb hb' e => (e₄.2 b hb').trans (k3 b o (k2 b o (k1 b o hb e))))
end
end
end Mine
end

section
open PySem PySem.Spec PySem.Calls PyProof.Rows PySem.W
set_option Elab.async false
set_option maxRecDepth 100000
set_option maxHeartbeats 4000000
namespace Mine
noncomputable section
theorem ints_at : ∀ {vs : List Value} {ns : List Int} {j : Nat} {v : Value}, IntsAre vs ns → vs[j]? = some v → ∃ t, v = .int (ns.getD j 0) t
  | _, _, _, _, .nil, h => by simp at h
  | _, _, 0, _, .cons n t _, h => by simp at h; exact ⟨t, by simp [← h]⟩
  | _, _, j + 1, _, .cons n t hh, h => by
    obtain ⟨t', e⟩ := ints_at hh (j := j) (by simpa using h)
    exact ⟨t', by simpa using e⟩
section
variable {W : Wd} {A : Around} {s : Shared} {E : Value → Shared → Prop} {L : Addr} {m : Str → Option Value}
theorem pair_asg2 {t : Addr} {key v : Value} {b0 b1 b3 : Pos} {b2 : Nat} (hand : A.handled = none) (hns : s.heap.Ns L m) (ht : s.heap.IsTuple t #[key, v]) {Q : Unit → Shared → Prop}
    (h : ∀ h' t', h'.Ns L (fun x => if x = ("number" : Str) then some v else if x = ("k" : Str) then some key else m x) → (∀ b o, b ≠ L → s.heap.get? b = some o → h'.get? b = some o) → Q () { s with heap := h', toks := t' }) :
    wpAny (model W.prog W.w) A (assign (.Tuple [.Name "k" b0, .Name "number" b1] b2 b3) (callEnv (fdAt 222) L 222) (.ref t)) Q E s := by
  have hl := loc222
  simp only [Bool.and_eq_true, beq_iff_eq] at hl
  obtain ⟨⟨⟨⟨⟨l1, l2⟩, l3⟩, l4⟩, l5⟩, lk⟩ := hl
  have hp : ((fdAt 222).scope.kind == .class || ((fdAt 222).scope.kind == .module && (callEnv (fdAt 222) L 222).locals != (callEnv (fdAt 222) L 222).globals)) = false := by rw [lk]; rfl
  refine wpAny_assign_Tuple hand ht rfl rfl fun h' hx => ?_
  have hk : ∀ b o, s.heap.get? b = some o → h'.get? b = some o := fun b o hb => hx b o (Nat.ne_of_lt (Heap.lt_size hb)) hb
  show wpAny _ _ (assignInOrder [assign (.Name "k" b0) (callEnv (fdAt 222) L 222), assign (.Name "number" b1) (callEnv (fdAt 222) L 222)] [key, v]) _ _ _
  simp only [assignInOrder]
  refine wpAny_bind (wpAny_holding (wpAny_assign_Name (wpAny_storeName_local (env := callEnv (fdAt 222) L 222) l3 (hns.keeps hk) (fun h₁ n₁ s₁ => ?_) hp)))
  refine wpAny_bind (wpAny_holding (wpAny_assign_Name (wpAny_storeName_local (env := callEnv (fdAt 222) L 222) l4 n₁ (fun h₂ n₂ s₂ => ?_) hp)))
  exact wpAny_pure (h _ _ n₂ fun b o hb e => (s₂.2 b hb).trans ((s₁.2 b hb).trans (hk b o e)))
structure PJ (W : Wd) (h₀ : Heap) (L pd e it : Addr) (ns : List Int) (j : Nat) (t : Nat → Addr) (h : Heap) (m : Str → Option Value) : Prop where
  base : ∀ b o, h₀.get? b = some o → h.get? b = some o
  fns : h.Ns L m
  mp : m ("profile" : Str) = some (.ref pd)
  fpd : h.DictOf (strKind W.prog W.w) pd (pdl t)
  tb : ∀ i, i < 3 → ∃ l, TR (tab ns i j) l ∧ h.DictOf (strKind W.prog W.w) (t i) l ∧ h₀.get? (t i) = none ∧ t i ≠ pd ∧ t i ≠ L ∧ t i ≠ e ∧ t i ≠ it
theorem PJ.keeps {h₀ h h' : Heap} {pd e it : Addr} {ns : List Int} {j : Nat} {t : Nat → Addr} (P : PJ W h₀ L pd e it ns j t h m) (hk : ∀ b o, b ≠ e → b ≠ it → h.get? b = some o → h'.get? b = some o) (he : h₀.get? e = none) (hi : h₀.get? it = none) (x1 : L ≠ e) (x2 : L ≠ it) (x3 : pd ≠ e) (x4 : pd ≠ it) : PJ W h₀ L pd e it ns j t h' m := by
  refine ⟨fun b o q => hk b o (fun z => by rw [z, he] at q; cases q) (fun z => by rw [z, hi] at q; cases q) (P.base b o q), P.fns.at fun o q => hk _ _ x1 x2 q, P.mp, ?_, fun i hi => ?_⟩
  · obtain ⟨o, es, ep, ho, r⟩ := P.fpd
    exact ⟨o, es, ep, hk _ _ x3 x4 ho, r⟩
  · obtain ⟨l, a, ⟨o, es, ep, ho, r⟩, c, d, f, g, z⟩ := P.tb i hi
    exact ⟨l, a, ⟨o, es, ep, hk _ _ g z ho, r⟩, c, d, f, g, z⟩
theorem tab_len (ns : List Int) (i j : Nat) : (tab ns i j).length ≤ 3 := by
  unfold tab
  rw [List.length_map]
  exact List.length_filter_le _ _
/-- the loop -/
theorem prof_for (HK : W.K = KW W.w) (hI : W.mg ("isinstance" : Str) = none ∧ W.mb ("isinstance" : Str) = some (.builtin "isinstance")) (hT : W.mg ("tuple" : Str) = none ∧ W.mb ("tuple" : Str) = some (.type "tuple")) (hadd : W.mg ("add_callers" : Str) = some (.ref 203)) (hen : W.mg ("enumerate" : Str) = none ∧ W.mb ("enumerate" : Str) = some (.type "enumerate"))
    (hand : A.handled = none) (hdp : A.depth < recursionLimit) {h₀ : Heap} {pd : Addr} (Z : Bs W h₀ L pd) (base : ∀ b o, h₀.get? b = some o → s.heap.get? b = some o) {D : Addr} {vs : List Value} {ns : List Int} (hD : h₀.IsList D vs.toArray) (hDi : IntsAre vs ns) {t : Nat → Addr} (hns : s.heap.Ns L m) (h1 : m "profile" = some (.ref pd)) (h2 : m "numbers" = some (.ref D)) (hpL : pd ≠ L)
    (hpd : s.heap.DictOf (strKind W.prog W.w) pd (pdl t)) (htb : ∀ i, i < 3 → s.heap.DictOf (strKind W.prog W.w) (t i) [] ∧ h₀.get? (t i) = none ∧ t i ≠ pd ∧ t i ≠ L)
    {n0 n1 n2 b4 : Pos} {tg iE e1 sE e2 : Expr} (htg : kNum tg) (hiE : enumE iE) (he1 : abcI idx1 e1) (hs : subN sE) (he2 : addE e2) {Q : Flow → Shared → Prop}
    (h : ∀ h' tk m' t' e it, PJ W h₀ L pd e it ns vs.length t' h' m' → Q .next { s with heap := h', toks := tk }) :
    wpAny (model W.prog W.w) A (exec (.For tg iE [.Assign [.Name "name" n0] e1 n1, .Assign [sE] e2 n2] [] b4) (callEnv (fdAt 222) L 222)) Q E s := by
  have hl := loc222
  simp only [Bool.and_eq_true, beq_iff_eq] at hl
  obtain ⟨⟨⟨⟨⟨l1, l2⟩, l3⟩, l4⟩, l5⟩, lk⟩ := hl
  have hg := glb222
  simp only [Bool.and_eq_true, beq_iff_eq] at hg
  obtain ⟨⟨⟨g1, g2⟩, g3⟩, g4⟩ := hg
  obtain ⟨p0, p1, pk, pp, rfl⟩ := kNum_eq htg
  obtain ⟨c0, c1, c2, rfl⟩ := enumE_eq hiE
  have hD' : s.heap.IsList D vs.toArray := isList_kept hD fun _ ho => base _ _ ho
  have B1 : Bg W s.heap := Z.bg.keeps base
  have bgk : ∀ {h' : Heap}, (∀ b o, h₀.get? b = some o → h'.get? b = some o) → Bg W h' := fun hk => Z.bg.keeps hk
  refine wpAny_For ?_ (folded_not rfl)
  refine wpAny_Call_NameR (wpAny_Name ?_ (by decide +kernel))
  rw [loadName_read (env := callEnv (fdAt 222) L 222) lk g1]
  refine loadGlobal_builtin (by show s.heap.Ns (fdAt 222).globals _; rw [g3]; exact B1.ns) hen.1 (by show s.heap.Ns (fdAt 222).builtins _; rw [g4]; exact B1.nsb) hen.2 ?_
  refine callWith_of (P := fun _ => True) rfl (fun _ _ => ⟨.machine, .inr (.inl rfl), Looks.of_pure rfl⟩) ?_
  show wpAny _ _ (evalArgs (.type "enumerate") true [(false, eval (.Name "numbers" c1) (callEnv (fdAt 222) L 222))] []) _ _ _
  refine evalArgs_plain (spliced_cons ?_)
  refine wpAny_Name (wpAny_loadName_local (env := callEnv (fdAt 222) L 222) lk l1 hns (v := .ref D) h2 ?_) (by decide +kernel)
  refine spliced_nil ⟨trivial, ?_⟩
  refine call_enumerate_list hD' fun h₁ he hit hz₁ k₁ => ?_
  refine wpAny_pyIter_enum he ?_
  have nz : ∀ {n : Nat}, s.heap.objs.size ≤ n → s.heap.get? n = none := fun {n} hle => by
    cases q : s.heap.get? n with
    | none => rfl
    | some o => exact absurd (Heap.lt_size q) (Nat.not_lt.mpr hle)
  have n0z : ∀ {n : Nat}, s.heap.objs.size ≤ n → h₀.get? n = none := fun {n} hle => by
    cases q : h₀.get? n with
    | none => rfl
    | some o => have := base _ _ q; rw [nz hle] at this; first | exact no this | cases this
  have hLlt : L < s.heap.objs.size := ex_lt (ns_ex hns)
  have hplt : pd < s.heap.objs.size := ex_lt (dictOf_ex hpd)
  have hDlt : D < s.heap.objs.size := ex_lt (list_ex hD')
  have x1 : L ≠ s.heap.objs.size + 1 := Nat.ne_of_lt (Nat.lt_succ_of_lt hLlt)
  have x2 : L ≠ s.heap.objs.size := Nat.ne_of_lt hLlt
  have x3 : pd ≠ s.heap.objs.size + 1 := Nat.ne_of_lt (Nat.lt_succ_of_lt hplt)
  have x4 : pd ≠ s.heap.objs.size := Nat.ne_of_lt hplt
  have x5 : D ≠ s.heap.objs.size + 1 := Nat.ne_of_lt (Nat.lt_succ_of_lt hDlt)
  have x6 : D ≠ s.heap.objs.size := Nat.ne_of_lt hDlt
  have x7 : s.heap.objs.size + 1 ≠ s.heap.objs.size := Nat.succ_ne_self _
  have f1 : h₀.get? (s.heap.objs.size + 1) = none := n0z (Nat.le_succ _)
  have f2 : h₀.get? s.heap.objs.size = none := n0z (Nat.le_refl _)
  have key := codeAny_forLoop_any (prog := W.prog) (w := W.w) (A := A) (target := .Tuple [.Name "k" p0, .Name "number" p1] pk pp) (it := .ref (s.heap.objs.size + 1)) (body := [.Assign [.Name "name" n0] e1 n1, .Assign [sE] e2 n2]) (orelse := []) (env := callEnv (fdAt 222) L 222)
    (R := fun r s' => match r with | .ok f => Q f s' | .error e => cameBackBy (model W.prog W.w) A (callEnv (fdAt 222) L 222) E e s')
    (fun n s₃ => ∃ j old h₃ t₃ m₃ t', n + j = vs.length ∧ s₃ = { s with heap := h₃, toks := t₃ } ∧ IsEnum h₃ (s.heap.objs.size + 1) s.heap.objs.size ((j : Nat) : Int) old ∧ h₃.IsListIter s.heap.objs.size D j ∧ PJ W h₀ L pd (s.heap.objs.size + 1) s.heap.objs.size ns j t' h₃ m₃) ?_
    (s := { s with heap := h₁ }) vs.length ⟨0, .none, h₁, s.toks, m, t, rfl, rfl, he, hit, ?_⟩
  · exact key
  · intro n s₃ hI
    obtain ⟨j, old, h₃, t₃, m₃, t', e0, e1', hen', hit', P⟩ := hI
    subst e1'
    have hD3 : h₃.IsList D vs.toArray := isList_kept hD fun _ ho => P.base _ _ ho
    cases q : vs.toArray[j]? with
    | none =>
      have hjl : j = vs.length := by have : vs.length ≤ j := by simpa using q
                                     omega
      refine wpAny_pyNext_enum_end hand hen' hit' hD3 q fun h' hx' => ?_
      exact wpAny_execs_nil (h h' t₃ m₃ t' _ _ (hjl ▸ P.keeps (fun b o _ hb e => hx' b o hb e) f1 f2 x1 x2 x3 x4))
    | some v =>
      have hjlt : j < vs.length := by have := (Array.getElem?_eq_some_iff.mp q).1; simpa using this
      obtain ⟨tv, rfl⟩ := ints_at hDi (j := j) (by simpa using q)
      refine wpAny_pyNext_enum_item hen' hit' hD3 q x7 fun h₄ heo hit₄ ht₄ hz₄ hk₄ => ?_
      refine wpAny_letOwnedTupleGo_enum heo fun h₅ he₅ hs₅ => ?_
      have hE3 : s.heap.objs.size + 1 < h₃.objs.size := Heap.lt_size hen'
      have P5 : PJ W h₀ L pd (s.heap.objs.size + 1) s.heap.objs.size ns j t' h₅ m₃ := P.keeps (fun b o hb hb' e => (hs₅.2 b hb).trans (hk₄ b o hb hb' e)) f1 f2 x1 x2 x3 x4
      have ht₅ : h₅.get? h₃.objs.size = some { cls := .type "tuple", data := .seq #[.int j t₃, .int (ns.getD j 0) tv] } := (hs₅.2 _ (Nat.ne_of_gt hE3)).trans ht₄
      refine pair_asg2 hand P5.fns ⟨_, ht₅, rfl, _, rfl⟩ fun h₆ t₆ n₆ k₆ => ?_
      have base6 : ∀ b o, h₀.get? b = some o → h₆.get? b = some o := fun b o e => k₆ b o (fun z => by rw [z, Z.L] at e; cases e) (P5.base b o e)
      obtain ⟨l, a1, a2, a3, a4, a5, a6, a7⟩ := P5.tb (j % 3) (Nat.mod_lt _ (by decide))
      have up6 : ∀ {a : Addr} {l : List (Str × Value)}, a ≠ L → h₅.DictOf (strKind W.prog W.w) a l → h₆.DictOf (strKind W.prog W.w) a l := fun {a l} ha x => dictOf_kept x fun _ ho => k₆ _ _ ha ho
      have nmx : ("profile" : Str) ≠ "number" ∧ ("profile" : Str) ≠ "k" ∧ ("k" : Str) ≠ "number" ∧ ("profile" : Str) ≠ "name" := ⟨wk _ _ (by decide +kernel), wk _ _ (by decide +kernel), wk _ _ (by decide +kernel), wk _ _ (by decide +kernel)⟩
      have mp6 : (if ("profile" : Str) = "number" then some (Value.int (ns.getD j 0) tv) else if ("profile" : Str) = "k" then some (Value.int j t₃) else m₃ "profile") = some (.ref pd) := by rw [if_neg nmx.1, if_neg nmx.2.1]; exact P.mp
      refine prof_turn (m := fun x => if x = ("number" : Str) then some (Value.int (ns.getD j 0) tv) else if x = ("k" : Str) then some (Value.int j t₃) else m₃ x) HK hI hT hadd hand hdp Z base6 (j := j) (x := ns.getD j 0) n₆ mp6 (by show (if _ then _ else if _ then _ else _) = _; rw [if_neg nmx.2.2.1, if_pos rfl]) (if_pos rfl) hpL (up6 hpL P5.fpd) (up6 a5 a2) a1 (tab_len _ _ _) a5 a3 he1 hs he2 fun h₇ tk₇ d l₇ m₇ T7 D7 dn pd7 N7 M7 k₇ => ?_
      have k67 : ∀ b o, b ≠ L → b ≠ pd → h₅.get? b = some o → h₇.get? b = some o := fun b o hb hb' e => k₇ b o hb hb' (k₆ b o hb e)
      have ex6 : ∀ {b : Addr} {o : Obj}, h₅.get? b = some o → b ≠ L → h₆.get? b = some o := fun {b o} e hb => k₆ b o hb e
      have hit₅ : h₅.IsListIter s.heap.objs.size D (j + 1) := isListIter_kept hit₄ fun _ ho => (hs₅.2 _ x7.symm).trans ho
      have hit₇ : h₇.IsListIter s.heap.objs.size D (j + 1) := isListIter_kept hit₅ fun _ ho => k67 _ _ x2.symm x4.symm ho
      have base7 : ∀ b o, h₀.get? b = some o → h₇.get? b = some o := fun b o e => k₇ b o (fun z => by rw [z, Z.L] at e; cases e) (fun z => by rw [z, Z.pd] at e; cases e) (base6 b o e)
      have dd : ∀ {b : Addr} {o : Obj}, h₆.get? b = some o → d ≠ b := fun {b o} e z => by rw [z, e] at dn; first | exact no dn | cases dn
      have dL : d ≠ L := (ns_ex n₆).elim fun _ ho => dd ho
      have dp : d ≠ pd := (dictOf_ex (up6 hpL P5.fpd)).elim fun _ ho => dd ho
      have dE : d ≠ s.heap.objs.size + 1 := dd (ex6 he₅ x1.symm)
      have dI : d ≠ s.heap.objs.size := let ⟨o, ho, _⟩ := hit₅; dd (ex6 ho x2.symm)
      have d0 : h₀.get? d = none := by
        cases z : h₀.get? d with
        | none => rfl
        | some o => rw [base6 _ _ z] at dn; first | exact no dn | cases dn
      refine ⟨n - 1, (by omega : n - 1 < n), j + 1, .int (ns.getD j 0) tv, h₇, tk₇, m₇, (fun k => if k = j % 3 then d else t' k), (by omega : n - 1 + (j + 1) = vs.length), rfl, ?_, hit₇, base7, N7, (M7 _ nmx.2.2.2).trans mp6, pd7, fun i hi => ?_⟩
      · have : ((j + 1 : Nat) : Int) = (j : Int) + 1 := by push_cast; rfl
        rw [this]
        exact k67 _ _ x1.symm x3.symm he₅
      · by_cases hij : i = j % 3
        · subst hij
          refine ⟨l₇, ?_, ?_, ?_, ?_, ?_, ?_, ?_⟩
          · rw [tab_step]; exact T7
          all_goals simp only [if_true]
          · exact D7
          · exact d0
          · exact dp
          · exact dL
          · exact dE
          · exact dI
        · obtain ⟨l, b1, b2, b3, b4, b5, b6, b7⟩ := P5.tb i hi
          refine ⟨l, ?_, ?_, ?_, ?_, ?_, ?_, ?_⟩
          · rw [tab_other _ _ _ hi (Ne.symm hij)]; exact b1
          all_goals simp only [if_neg hij]
          · exact dictOf_kept b2 fun _ ho => k67 _ _ b5 b4 ho
          · exact b3
          · exact b4
          · exact b5
          · exact b6
          · exact b7
  · refine ⟨fun b o e => k₁ _ _ (base b o e), hns.keeps k₁, h1, dictOf_kept hpd fun _ ho => k₁ _ _ ho, fun i hi => ?_⟩
    obtain ⟨b1, b2, b3, b4⟩ := htb i hi
    have hlt : t i < s.heap.objs.size := ex_lt (dictOf_ex b1)
    refine ⟨[], ?_, (dictOf_kept b1 fun _ ho => k₁ _ _ ho), b2, b3, b4, Nat.ne_of_lt (Nat.lt_succ_of_lt hlt), Nat.ne_of_lt hlt⟩
    have : tab ns i 0 = [] := by simp [tab]
    rw [this]; trivial
end
end
end Mine
end

section
open PySem PySem.Spec PySem.Calls PyProof.Rows PySem.W
set_option Elab.async false
set_option maxRecDepth 100000
set_option maxHeartbeats 4000000
namespace Mine
noncomputable section
/-- what the names of the prefix mean -/
structure Nm (W : Wd) : Prop where
  isi : W.mg ("isinstance" : Str) = none ∧ W.mb ("isinstance" : Str) = some (.builtin "isinstance")
  tup : W.mg ("tuple" : Str) = none ∧ W.mb ("tuple" : Str) = some (.type "tuple")
  add : W.mg ("add_callers" : Str) = some (.ref 203)
  enm : W.mg ("enumerate" : Str) = none ∧ W.mb ("enumerate" : Str) = some (.type "enumerate")
  sum : W.mg ("sum" : Str) = none ∧ W.mb ("sum" : Str) = some (.builtin "sum")
  prof : W.mg ("_law_profile" : Str) = some (.ref 222)
theorem IntsAre.len : ∀ {vs : List Value} {ns : List Int}, IntsAre vs ns → vs.length = ns.length
  | _, _, .nil => rfl
  | _, _, .cons _ _ h => congrArg (· + 1) (IntsAre.len h)
section
variable {W : Wd} {A : Around} {s : Shared} {E : Value → Shared → Prop}
theorem profile_core (HK : W.K = KW W.w) (M : Nm W) (B : Bg W s.heap) (big : ∃ o, s.heap.get? sysModules = some o) (hand : A.handled = none) (hdp : A.depth + 1 < recursionLimit) {D : Addr} {vs : List Value} {ns : List Int} (hD : s.heap.IsList D vs.toArray) (hDi : IntsAre vs ns) {Q : Value → Shared → Prop}
    (h : ∀ h' tk pd t, (∀ b o, s.heap.get? b = some o → h'.get? b = some o) → s.heap.get? pd = none → h'.DictOf (strKind W.prog W.w) pd (pdl t) → (∀ i, i < 3 → ∃ l, TR (tab ns i ns.length) l ∧ h'.DictOf (strKind W.prog W.w) (t i) l ∧ s.heap.get? (t i) = none) → Q (.ref pd) { s with heap := h', toks := tk }) :
    wpAny (model W.prog W.w) A (call (.ref 222) [.ref D]) Q E s := by
  obtain ⟨a0, d, a1, tg, iE, b0, n0, e1, n1, sE, e2, n2, r0, r1, hb, hd, htg, hiE, he1, hs, he2⟩ := body222
  have hl := loc222
  simp only [Bool.and_eq_true, beq_iff_eq] at hl
  obtain ⟨⟨⟨⟨⟨l1, l2⟩, l3⟩, l4⟩, l5⟩, lk⟩ := hl
  have hp : ((fdAt 222).scope.kind == .class || ((fdAt 222).scope.kind == .module && (callEnv (fdAt 222) s.heap.objs.size 222).locals != (callEnv (fdAt 222) s.heap.objs.size 222).globals)) = false := by rw [lk]; rfl
  refine wpAny_call (enter (fi222 W HK) (by omega) B.kin B.lim (vs := [.ref D]) (by kernel_rfl) fun h₁ hns hk E' => ?_)
  show PySem.wpAt _ _ (.func (bodyAt 222) _) (execs (bodyAt 222) _) _ _ _
  rw [hb]
  refine PySem.wpAt_of_wpAny (wpAny_execs_cons ?_)
  have hcd : isComp d = false := by obtain ⟨_, _, _, _, _, _, _, _, _, _, rfl⟩ := disp3_eq hd; rfl
  refine wpAny_Assign_Name (disp_ev hd fun h₂ t0 t1 t2 pd tk hk2 hne hnn hpd ht0 ht1 ht2 => ?_) (swaps_not hcd _ _)
  have n₂ := hns.keeps hk2
  refine wpAny_storeName_local (env := callEnv (fdAt 222) s.heap.objs.size 222) (s := { s with heap := h₂, toks := tk }) l2 n₂ (fun h₃ n₃ e₃ => ?_) hp
  have hLo : ∃ o, h₁.get? s.heap.objs.size = some o := ns_ex hns
  have neL : ∀ {a : Addr}, h₁.get? a = none → a ≠ s.heap.objs.size := fun {a} ha z => by obtain ⟨o, ho⟩ := hLo; rw [z, ho] at ha; first | exact no ha | cases ha
  have none0 : ∀ {a : Addr}, h₁.get? a = none → s.heap.get? a = none := fun {a} ha => by
    cases q : s.heap.get? a with
    | none => rfl
    | some o => rw [hk _ _ q] at ha; first | exact no ha | cases ha
  have fL : s.heap.get? s.heap.objs.size = none := by
    cases q : s.heap.get? s.heap.objs.size with
    | none => rfl
    | some o => exact absurd (Heap.lt_size q) (Nat.lt_irrefl _)
  have base3 : ∀ b o, s.heap.get? b = some o → h₃.get? b = some o := fun b o e => (e₃.2 b (fun z => by rw [z] at e; exact absurd (fL.symm.trans e) (fun q => by cases q))).trans (hk2 b o (hk b o e))
  have up : ∀ {a : Addr} {l : List (Str × Value)}, a ≠ s.heap.objs.size → h₂.DictOf (strKind W.prog W.w) a l → h₃.DictOf (strKind W.prog W.w) a l := fun {a l} ha hd => hd.sameBut e₃ ha
  have nmx : ("numbers" : Str) ≠ "profile" := wk _ _ (by decide +kernel)
  have Z : Bs W s.heap s.heap.objs.size pd := ⟨B, big, fL, none0 hnn.2.2.2⟩
  refine wpAny_execs_cons ?_
  refine prof_for (A := A.deeper (callEnv (fdAt 222) s.heap.objs.size 222)) (s := { s with heap := h₃, toks := tk + 1 }) (L := s.heap.objs.size) (t := fun i => if i = 0 then t0 else if i = 1 then t1 else t2) (m := fun y => if y = ("profile" : Str) then some (Value.ref pd) else ((fiAt 222).names.zip [Value.ref D]).reverse.lookup y) HK M.isi M.tup M.add M.enm hand (by show A.depth + 1 < _; exact hdp) Z base3 hD hDi n₃ (if_pos rfl) (by rw [if_neg nmx]; kernel_rfl) (neL hnn.2.2.2) (up (neL hnn.2.2.2) hpd) (fun i hi => ?_) htg hiE he1 hs he2 fun h₄ tk₄ m₄ t' e it P => ?_
  · match i, hi with
    | 0, _ => exact ⟨up (neL hnn.1) ht0, none0 hnn.1, hne.2.2.2.1, neL hnn.1⟩
    | 1, _ => exact ⟨up (neL hnn.2.1) ht1, none0 hnn.2.1, hne.2.2.2.2.1, neL hnn.2.1⟩
    | 2, _ => exact ⟨up (neL hnn.2.2.1) ht2, none0 hnn.2.2.1, hne.2.2.2.2.2, neL hnn.2.2.1⟩
  · refine wpAny_execs_cons (wpAny_Return_some (wpAny_Name (wpAny_loadName_local (env := callEnv (fdAt 222) s.heap.objs.size 222) lk l2 P.fns (v := .ref pd) P.mp ?_) (by decide +kernel)))
    refine h h₄ tk₄ pd t' P.base Z.pd P.fpd fun i hi => ?_
    obtain ⟨l, b1, b2, b3, _⟩ := P.tb i hi
    rw [IntsAre.len hDi] at b1
    exact ⟨l, b1, b2, b3⟩
end
section
variable {W : Wd} {h₀ : Heap} {k : Nat} {c : Ctx} {A : Around} {env : Env} {ρ ρ' : Nat → Addr} {σ σ' : St} {s s' : Shared} {E : Value → Shared → Prop}
noncomputable def rowC (ns : List Int) (i : Nat) : AV := .dicS [(ltr 0, .int (.c (S9 ns i ns.length))), (ltr 1, .int (.c (S9 ns (3 + i) ns.length))), (ltr 2, .int (.c (S9 ns (6 + i) ns.length)))]
noncomputable def profC (ns : List Int) : AV := .dicS [(ltr 0, rowC ns 0), (ltr 1, rowC ns 1), (ltr 2, rowC ns 2)]
theorem VV.dicS' {a : Addr} {xs : List (Str × AV)} {kvs : List (Str × Value)} {ep : Nat} (V : DVs W s ρ σ xs kvs) (ht : s.heap.DictAt (strKind W.prog W.w) a kvs ep) (hu : Unt ρ σ a) (hs : (a == sysModules) = false) : VV W s ρ σ (.dicS xs) (.ref a) :=
  .dicS ht hu hs V.len (fun i x v e e' => (V.get i x v e e').1) fun i x v e e' => (V.get i x v e e').2
theorem Gd.sm (G : Gd W h₀ k c A env ρ σ s) {a : Addr} (ha : s.heap.get? a = none) : (a == sysModules) = false := by
  cases q : (a == sysModules) with
  | false => rfl
  | true =>
    obtain ⟨o', e'⟩ := G.big
    have := G.rel.base _ _ e'
    rw [← beq_iff_eq.mp q, ha] at this
    cases this
theorem DVs.one' {κ : Type} {k : κ} {x : AV} {xs : List (κ × AV)} : ∀ {l : List (κ × Value)}, DVs W s ρ σ ((k, x) :: xs) l → ∃ v l', l = (k, v) :: l' ∧ VV W s ρ σ x v ∧ DVs W s ρ σ xs l'
  | [], h => h.elim
  | (_, v) :: l, ⟨⟨e, V⟩, r⟩ => ⟨v, l, by rw [show k = _ from e], V, r⟩
theorem DVs.nil' {κ : Type} : ∀ {l : List (κ × Value)}, DVs W s ρ σ [] l → l = []
  | [], _ => rfl
  | _ :: _, h => h.elim
theorem DVs.cons3 {κ : Type} {k0 k1 k2 : κ} {x0 x1 x2 : AV} {l : List (κ × Value)} (h : DVs W s ρ σ [(k0, x0), (k1, x1), (k2, x2)] l) : ∃ v0 v1 v2, l = [(k0, v0), (k1, v1), (k2, v2)] ∧ VV W s ρ σ x0 v0 ∧ VV W s ρ σ x1 v1 ∧ VV W s ρ σ x2 v2 := by
  obtain ⟨v0, l0, rfl, V0, h1⟩ := h.one'
  obtain ⟨v1, l1, rfl, V1, h2⟩ := h1.one'
  obtain ⟨v2, l2, rfl, V2, h3⟩ := h2.one'
  cases h3.nil'
  exact ⟨v0, v1, v2, rfl, V0, V1, V2⟩
theorem TR.one' {k : Str} {x : Int} {T : List (Str × Int)} : ∀ {l : List (Str × Value)}, TR ((k, x) :: T) l → ∃ t l', l = (k, .int x t) :: l' ∧ TR T l'
  | [], h => h.elim
  | (_, v) :: l, ⟨⟨e, t, ev⟩, r⟩ => ⟨t, l, by rw [show k = _ from e, show v = _ from ev], r⟩
theorem TR.cons3 {k0 k1 k2 : Str} {x0 x1 x2 : Int} {l : List (Str × Value)} (h : TR [(k0, x0), (k1, x1), (k2, x2)] l) : ∃ t0 t1 t2, l = [(k0, .int x0 t0), (k1, .int x1 t1), (k2, .int x2 t2)] := by
  obtain ⟨t0, l0, rfl, h1⟩ := h.one'
  obtain ⟨t1, l1, rfl, h2⟩ := h1.one'
  obtain ⟨t2, l2, rfl, h3⟩ := h2.one'
  cases l2 with
  | nil => exact ⟨t0, t1, t2, rfl⟩
  | cons _ _ => exact h3.elim
theorem TR.dvs : ∀ {T : List (Str × Int)} {l : List (Str × Value)}, TR T l → DVs W s ρ σ (T.map fun p => (p.1, .int (.c p.2))) l
  | [], [], _ => trivial
  | p :: r, q :: l, ⟨⟨e1, t, e⟩, b⟩ => ⟨⟨e1, by rw [e]; exact .int (.c p.2) t⟩, TR.dvs b⟩
  | [], _ :: _, h => h.elim
  | _ :: _, [], h => h.elim
theorem prof_prim (HK : W.K = KW W.w) (M : Nm W) (G : Gd W h₀ k c A env ρ σ s) {ns : List Int} {u : Value} (V : VV W s ρ σ (.nlist ns) u) (h9 : 9 ≤ ns.length) {Q : Value → Shared → Prop}
    (h : ∀ v s', MV W h₀ ρ σ s ρ σ s' → VV W s' ρ σ (profC ns) v → Q v s') : wpAny (model W.prog W.w) A (call (.ref 222) [u]) Q E s := by
  cases V with
  | nlist hl hu hi _ =>
    have hdp := G.depth
    refine profile_core HK M G.bg (G.big.elim fun o e => ⟨o, G.rel.base _ _ e⟩) G.hand (by omega) hl hi fun h' tk pd t hk hn hd ht => ?_
    have m : MV W h₀ ρ σ s ρ σ { s with heap := h', toks := tk } := Mv.heap G.rel hk
    have row : ∀ i, i < 3 → VV W { s with heap := h', toks := tk } ρ σ (rowC ns i) (.ref (t i)) := fun i hi => by
      obtain ⟨l, b1, b2, b3⟩ := ht i hi
      obtain ⟨o, es, ep, ho, r⟩ := b2
      rw [tab_full _ _ _ hi h9] at b1
      exact VV.dicS' (ep := ep) b1.dvs ⟨o, es, ho, r⟩ (G.rel.unt_new b3) (G.sm b3)
    obtain ⟨o, es, ep, ho, r⟩ := hd
    refine h _ _ m (VV.dicS' (ep := ep) (kvs := pdl t) ⟨⟨rfl, row 0 (by decide)⟩, ⟨rfl, row 1 (by decide)⟩, ⟨rfl, row 2 (by decide)⟩, trivial⟩ ⟨o, es, ho, r⟩ (G.rel.unt_new hn) (G.sm hn))
end
end
end Mine
end

section
open PySem PySem.Spec PySem.Calls PyProof.Rows PySem.W
set_option Elab.async false
set_option maxRecDepth 100000
set_option maxHeartbeats 4000000
namespace Mine
noncomputable section
/-! sums of every ninth -/
theorem div9 (q : Nat) {r : Nat} (h : r < 9) : (9 * q + r) / 9 = q := by
  rw [Nat.mul_add_div (by decide), Nat.div_eq_of_lt h, Nat.add_zero]
theorem mod9 (q : Nat) {r : Nat} (h : r < 9) : (9 * q + r) % 9 = r := by
  rw [Nat.mul_add_mod, Nat.mod_eq_of_lt h]
theorem is9 (n : Nat) : ∃ q r, n = 9 * q + r ∧ r < 9 := ⟨n / 9, n % 9, (Nat.div_add_mod n 9).symm, Nat.mod_lt _ (by decide)⟩
theorem sumS9 (ns : List Int) (k d : Nat) (hd : k + d = 8) : ∀ n, ((List.range ((n + d) / 9)).map fun i => ns.getD (k + 9 * i) 0).sum = S9 ns k n
  | 0 => by
    rw [Nat.zero_add, Nat.div_eq_of_lt (Nat.lt_succ_of_le (hd ▸ Nat.le_add_left d k))]; rfl
  | n + 1 => by
    have ih := sumS9 ns k d hd n
    obtain ⟨q, r, hn, hr⟩ := is9 n
    by_cases h : r = k
    · subst h
      have e0 : n + d = 9 * q + 8 := by rw [hn, Nat.add_assoc, hd]
      have e1 : n + 1 + d = 9 * (q + 1) + 0 := by rw [Nat.add_right_comm, e0]; rfl
      have hm : n % 9 = r := by rw [hn, mod9 q hr]
      rw [e0, div9 q (by decide)] at ih
      rw [S9_eq hm, ← ih, e1, div9 (q + 1) (by decide), List.range_succ, List.map_append, List.sum_append]
      rw [show ns.getD n 0 = ns.getD (r + 9 * q) 0 by rw [hn, Nat.add_comm]]
      simp only [List.map_cons, List.map_nil, List.sum_cons, List.sum_nil, Int.add_zero]
    · have hm : n % 9 ≠ k := by rw [hn, mod9 q hr]; exact h
      have e : (n + 1 + d) / 9 = (n + d) / 9 := by
        rw [hn]
        rcases Nat.lt_or_gt_of_ne h with h | h
        · have a : r + d < 8 := hd ▸ Nat.add_lt_add_right h d
          rw [Nat.add_right_comm, Nat.add_assoc (9 * q) r d, Nat.add_assoc (9 * q) (r + d) 1, div9 q (Nat.succ_lt_succ a), div9 q (Nat.lt_succ_of_lt a)]
        · obtain ⟨t, ht⟩ := Nat.exists_eq_add_of_lt h
          have a : r + d = 9 + t := by omega
          have b : t + 1 < 9 := by omega
          rw [Nat.add_right_comm, Nat.add_assoc (9 * q) r d, a, ← Nat.add_assoc, ← Nat.mul_succ, Nat.add_assoc _ t 1, div9 _ b, div9 _ (Nat.lt_of_succ_lt b)]
      rw [S9_ne hm, ← ih, e]
theorem intsAt {vs : List Value} {ns : List Int} (hi : IntsAre vs ns) {j : Nat} (hj : j < vs.length) : ∃ t, vs[j]? = some (.int (ns.getD j 0) t) := by
  obtain ⟨t, e⟩ := ints_at hi (j := j) (List.getElem?_eq_getElem hj)
  exact ⟨t, by rw [List.getElem?_eq_getElem hj, e]⟩
theorem pickInts {vs : List Value} {ns : List Int} (hi : IntsAre vs ns) : ∀ idx : List Nat, (∀ i ∈ idx, i < vs.length) → IntsAre (idx.filterMap fun i => vs.toArray[i]?) (idx.map fun i => ns.getD i 0)
  | [], _ => .nil
  | i :: r, h => by
    obtain ⟨t, e⟩ := intsAt hi (h i List.mem_cons_self)
    have e' : vs.toArray[i]? = some (.int (ns.getD i 0) t) := by simpa using e
    rw [List.filterMap_cons, e', List.map_cons]
    exact .cons _ _ (pickInts hi r fun x hx => h x (List.mem_cons_of_mem _ hx))
theorem bounds9 (k n : Nat) : sliceBounds (some (k : Int)) none (some 9) n = (min (k : Int) n, (n : Int), 9) := by
  have h9 : (9 : Int) > 0 := by decide
  show ((if (9 : Int) > 0 then max 0 (min (if (k : Int) < 0 then (k : Int) + n else k) (n : Int)) else max (-1) (min (if (k : Int) < 0 then (k : Int) + n else k) ((n : Int) - 1))), (if (9 : Int) > 0 then (n : Int) else -1), (9 : Int)) = _
  rw [if_pos h9, if_pos h9, if_neg (Int.not_lt.mpr (Int.natCast_nonneg k)), Int.max_eq_right (Int.le_min.mpr ⟨Int.natCast_nonneg k, Int.natCast_nonneg n⟩)]
theorem range9 (k d n : Nat) (hd : k + d = 8) : sliceRange (min (k : Int) n) (n : Int) 9 = (List.range ((n + d) / 9)).map fun i => k + 9 * i := by
  have h9 : (9 : Int) > 0 := by decide
  unfold sliceRange
  rw [if_pos h9]
  rcases Nat.lt_or_ge k n with h | h
  · obtain ⟨m, rfl⟩ := Nat.exists_eq_add_of_lt h
    have hk : (k : Int) ≤ ((k + m + 1 : Nat) : Int) := Int.ofNat_le.mpr (Nat.le_of_lt h)
    rw [Int.min_eq_left hk, if_pos (Int.ofNat_lt.mpr h)]
    have e : ((k + m + 1 : Nat) : Int) - (k : Int) + 9 - 1 = ((k + m + 1 + d : Nat) : Int) := by omega
    dsimp only
    rw [e]
    refine List.map_congr_left fun i _ => ?_
    show ((k : Int) + 9 * (i : Int)).toNat = k + 9 * i
    rfl
  · rw [Int.min_eq_right (Int.ofNat_le.mpr h), if_neg (Int.lt_irrefl _), Nat.div_eq_of_lt (Nat.lt_succ_of_le (hd ▸ Nat.add_le_add_right h d))]
    rfl
theorem pick9 {vs : List Value} {ns : List Int} (hi : IntsAre vs ns) {k d : Nat} (hd : k + d = 8) : ∃ ms, IntsAre (slicePick vs.toArray (some (k : Int)) none (some 9)).toList ms ∧ ms.sum = S9 ns k ns.length := by
  have hl := IntsAre.len hi
  refine ⟨_, ?_, (sumS9 ns k d hd ns.length)⟩
  have e : slicePick vs.toArray (some (k : Int)) none (some 9) = (((List.range ((vs.length + d) / 9)).map fun i => k + 9 * i).filterMap fun i => vs.toArray[i]?).toArray := by
    unfold slicePick
    rw [bounds9]
    show ((sliceRange (min (k : Int) vs.toArray.size) (vs.toArray.size : Int) 9).filterMap fun i => vs.toArray[i]?).toArray = _
    rw [List.size_toArray, range9 k d _ hd]
  have := pickInts hi ((List.range ((vs.length + d) / 9)).map fun i => k + 9 * i) (fun i h => by
    obtain ⟨j, hj, rfl⟩ := List.mem_map.mp h
    have a := Nat.mul_le_of_le_div _ _ _ (Nat.succ_le_of_lt (List.mem_range.mp hj))
    show k + 9 * j < vs.length
    omega)
  rw [List.map_map] at this
  rw [e, ← hl]
  exact this
section
variable {W : Wd} {A : Around} {s : Shared} {E : Value → Shared → Prop}
theorem sum_ints (hand : A.handled = none) {l : Addr} {vs : List Value} {ns : List Int} (hl : s.heap.IsList l vs.toArray) (hi : IntsAre vs ns) {Q : Value → Shared → Prop}
    (h : ∀ h' tk t, (∀ b o, s.heap.get? b = some o → h'.get? b = some o) → Q (.int ns.sum t) { s with heap := h', toks := tk }) : wpAny (model W.prog W.w) A (call (.builtin "sum") [.ref l]) Q E s := by
  obtain ⟨xs, e⟩ := AllInts.items hi.allInts
  rw [e] at hl
  refine sum_intListG hand hl fun h' tk t' hk => ?_
  have := h h' tk t' hk
  rw [← hi.numsOf, show vs = vs.toArray.toList from rfl, e, nums_intItems] at this
  rw [preSum_eq, List.take_of_length_le (by simp)]; exact this
end
section
variable {W : Wd} {h₀ : Heap} {k : Nat} {c : Ctx} {A : Around} {env : Env} {ρ ρ' : Nat → Addr} {σ σ' : St} {s s' : Shared} {E : Value → Shared → Prop}
noncomputable def gv0 (_ : Str) : Option Value := none
theorem gv0_ok : GvOk W gv0 := fun _ _ e => by cases e
/-- sum(numbers[k::9]) -/
noncomputable def sum1 (e : Expr) : Option (Str × Expr) := match view e with
  | .call f as ks _ => (ok ks.isEmpty ()).bind fun _ => (nameOf f).bind fun f => (one as).map fun a => (f, a)
  | _ => .none
noncomputable def sum2 (e : Expr) : Option (Str × Expr) := match view e with
  | .sub o i => (nameOf o).map fun x => (x, i)
  | _ => .none
noncomputable def int1 (e : Expr) : Option Int := match view e with
  | .con v => match v with
    | .int n => some n
    | _ => .none
  | _ => .none
noncomputable def sum3 (e : Expr) : Option (Str × Int) := match view e with
  | .slice lo hi st => (ok hi.isNone ()).bind fun _ => lo.bind fun y => (nameOf y).bind fun y => st.bind fun z => (int1 z).map fun n => (y, n)
  | _ => .none
theorem sum1_eq {e : Expr} {f : Str} {a : Expr} (h : sum1 e = some (f, a)) : ∃ p q, e = .Call (.Name f p) [a] [] q := by
  have hv := view_ok e
  unfold sum1 at h
  generalize view e = v at h hv
  cases v with
  | call g as ks q =>
    obtain rfl := (show e = _ from hv)
    obtain ⟨h1, e⟩ := okb h
    obtain ⟨x, h2, e⟩ := bndE e
    obtain ⟨y, h3, e⟩ := mapE e
    clear h
    cases e
    obtain rfl := isEmpty_eq h1
    obtain ⟨p, rfl⟩ := nameOf_some h2
    obtain rfl := one_eq h3
    exact ⟨p, q, rfl⟩
  | _ => exact no h
theorem sum2_eq {e : Expr} {x : Str} {i : Expr} (h : sum2 e = some (x, i)) : ∃ p q, e = .Subscript (.Name x p) i q := by
  have hv := view_ok e
  unfold sum2 at h
  generalize view e = v at h hv
  cases v with
  | sub o j =>
    obtain ⟨q, rfl⟩ := hv
    obtain ⟨y, h3, e⟩ := mapE h
    clear h
    cases e
    obtain ⟨p, rfl⟩ := nameOf_some h3
    exact ⟨p, q, rfl⟩
  | _ => exact no h
theorem int1_eq {e : Expr} {n : Int} (h : int1 e = some n) : ∃ k p, e = .Constant (.int n) k p := by
  have hv := view_ok e
  unfold int1 at h
  generalize view e = v at h hv
  cases v with
  | con c => cases c with
    | int m => cases h; exact hv
    | _ => exact no h
  | _ => exact no h
theorem sum3_eq {e : Expr} {y : Str} {n : Int} (h : sum3 e = some (y, n)) : ∃ p k q r, e = .Slice (some (.Name y p)) .none (some (.Constant (.int n) k q)) r := by
  have hv := view_ok e
  unfold sum3 at h
  generalize view e = v at h hv
  cases v with
  | slice lo hi st =>
    obtain ⟨r, rfl⟩ := hv
    obtain ⟨h1, e⟩ := okb h
    obtain ⟨l, h4, e⟩ := bndE e
    obtain ⟨x, h2, e⟩ := bndE e
    obtain ⟨z, h5, e⟩ := bndE e
    obtain ⟨m, h3, e⟩ := mapE e
    clear h
    cases e
    subst h4 h5
    obtain ⟨p, rfl⟩ := nameOf_some h2
    obtain ⟨k, q, rfl⟩ := int1_eq h3
    obtain rfl := Option.isNone_iff_eq_none.mp h1
    exact ⟨p, k, q, r, rfl⟩
  | _ => exact no h
/-- the name of the function, of the list, of the index; the step -/
noncomputable def sumE (e : Expr) : Option (Str × Str × Str × Int) :=
  (sum1 e).bind fun p => (sum2 p.2).bind fun q => (sum3 q.2).map fun r => (p.1, q.1, r.1, r.2)
theorem sumE_eq {e : Expr} {f x y : Str} {n : Int} (h : sumE e = some (f, x, y, n)) : ∃ p0 p1 p2 kd p3 p4 p5 p6, e = .Call (.Name f p0) [.Subscript (.Name x p1) (.Slice (some (.Name y p2)) .none (some (.Constant (.int n) kd p3)) p4) p5] [] p6 := by
  obtain ⟨⟨f', a⟩, h1, h⟩ := Option.bind_eq_some_iff.mp h
  obtain ⟨⟨x', i⟩, h2, h⟩ := Option.bind_eq_some_iff.mp h
  obtain ⟨⟨y', m⟩, h3, h⟩ := Option.map_eq_some_iff.mp h
  cases h
  obtain ⟨p0, p6, rfl⟩ := sum1_eq h1
  obtain ⟨p1, p5, rfl⟩ := sum2_eq h2
  obtain ⟨p2, kd, p3, p4, rfl⟩ := sum3_eq h3
  exact ⟨p0, p1, p2, kd, p3, p4, p5, p6, rfl⟩
noncomputable def sumA (c : Ctx) (e : Expr) (σ : St) : Option (AV × St) := match sumE e with
  | some (f, x, y, n) => if f == ("sum" : Str) && n == 9 && c.kind f == some .globalImplicit then match loadA gv0 c x σ with
      | some (.nlist ns) => match loadA gv0 c y σ with
        | some v => match intK v with
          | some k => if 0 ≤ k ∧ k < 9 then some (.int (.c (S9 ns k.toNat ns.length)), σ) else .none
          | .none => .none
        | .none => .none
      | _ => .none
    else .none
  | .none => .none
theorem sumA_ok (M : Nm W) {e : Expr} {r : AV} (he : sumA c e σ = some (r, σ')) (G : Gd W h₀ k c A env ρ σ s) {Q : Value → Shared → Prop} (h : ∀ v s', MV W h₀ ρ σ s ρ σ' s' → VV W s' ρ σ' r v → Q v s') : wpAny (model W.prog W.w) A (eval e env) Q E s := by
  unfold sumA at he
  cases hE : sumE e with
  | none => rw [hE] at he; first | exact no he | cases he
  | some q =>
    obtain ⟨f, x, y, n⟩ := q
    rw [hE] at he
    obtain ⟨p0, p1, p2, kd, p3, p4, p5, p6, rfl⟩ := sumE_eq hE
    dsimp only at he
    split at he
    · rename_i hf
      simp only [Bool.and_eq_true, beq_iff_eq] at hf
      obtain ⟨⟨rfl, rfl⟩, hkd⟩ := hf
      split at he
      · rename_i ns e1
        split at he
        · rename_i vk e2
          cases qk : intK vk with
          | none => rw [qk] at he; first | exact no he | cases he
          | some kk =>
          rw [qk] at he
          obtain rfl := intK_eq qk
          dsimp only at he
          split at he
          · rename_i hk
            cases he
            obtain ⟨j, rfl⟩ : ∃ j : Nat, kk = (j : Int) := ⟨kk.toNat, by omega⟩
            have hj : j < 9 := by omega
            refine wpAny_Call_NameR (wpAny_Name ?_ (by decide +kernel))
            rw [loadName_read G.kind ((G.kindOf _).trans hkd)]
            refine loadGlobal_builtin (by rw [G.gl]; exact G.ns) M.sum.1 (by rw [G.bl]; exact G.nsb) M.sum.2 ?_
            refine callWith_of (P := fun _ => True) rfl (fun _ _ => ⟨.machine, .inr (.inl rfl), Looks.of_pure rfl⟩) ?_
            refine evalArgs_plain (spliced_cons ?_)
            refine wpAny_Subscript_Slice_step (T := "list") list_getitem_lookup (wpAny_Name (loadA_ok gv0_ok e1 G fun u U => ?_) (loadA_nd e1))
            cases U with
            | nlist hl hu hi hz =>
              rename_i a vs
              refine wpAny_Slice ?_
              rw [evalPart_some]
              refine wpAny_Name (loadA_ok gv0_ok e2 G fun w V => ?_) (loadA_nd e2)
              obtain ⟨tk, rfl⟩ := VV.intcI V
              rw [evalPart_none]
              refine wpAny_pure ?_
              rw [evalPart_some]
              refine wpAny_Constant_int ?_
              have hsz : vs.toArray.size ≤ sizeLine := by
                have := IntsAre.len hi
                exact Nat.le_trans (show vs.length ≤ 1000 by omega) (by decide)
              refine ⟨(hl.push _).typeIs, wpAny_getItem_list_slice (hl.push _) (Heap.IsSliceOf.new ..) (.int _ _) .none (.int _ _) (by decide) ?_ hsz⟩
              obtain ⟨ms, hms, hsum⟩ := pick9 (k := j) hi (d := 8 - j) (by omega)
              refine spliced_nil ⟨trivial, ?_⟩
              have up : ∀ (o1 o2 : Obj) b o, s.heap.get? b = some o → ((s.heap.push o1).push o2).get? b = some o := fun o1 o2 b o e => Heap.get?_push_of_some _ (Heap.get?_push_of_some _ e)
              refine sum_ints (vs := (slicePick vs.toArray (some (j : Int)) none (some 9)).toList) G.hand ⟨_, Heap.get?_push_size _ rfl, rfl, _, rfl⟩ hms fun h' tk' t' hk' => ?_
              rw [hsum]
              exact h _ _ (Mv.heap G.rel fun b o e => hk' b o (up _ _ b o e)) (.int (.c _) _)
          · first | exact no he | cases he
        · first | exact no he | cases he
      · first | exact no he | cases he
    · first | exact no he | cases he
end
end
end Mine
end

section
open PySem PySem.Spec PySem.Calls PyProof.Rows PySem.W
set_option Elab.async false
set_option maxRecDepth 100000
set_option maxHeartbeats 4000000
namespace Mine
noncomputable section
section
variable {prog : Program} {w : World} {K : Type} [DecidableEq K] {knd : PySem.KeyKind prog w K} {A : Around} {E : Value → Shared → Prop} {s : Shared}
/-- equal, as this text at this world tells it -/
noncomputable def EqHere (prog : Program) (w : World) (A : Around) (s : Shared) (v y : Value) : Prop := ∀ (E : Value → Shared → Prop) (Q : Bool → Shared → Prop), Q true s → wpAny (model prog w) A (eqBool v y) Q E s
theorem eqHere_refs {a b : Addr} (hne : a ≠ b) (h : ∀ (E : Value → Shared → Prop) (Q : Value → Shared → Prop), Q (.bool true) s → wpAny (model prog w) A (compareOp .Eq (.ref a) (.ref b)) Q E s) : EqHere prog w A s (.ref a) (.ref b) := fun E Q hq => by
  unfold eqBool
  refine wpAny_holding (wpAny_ite_split (fun e => ?_) fun _ => wpAny_bind (h E _ (wpAny_truthy_bool hq)))
  have e := eq_of_beq e
  cases e
  exact absurd rfl hne
/-- two dicts, the one's values found in the other -/
theorem same_dicts {nm : String} {a b : Addr} {ka kb : List (K × Value)} {Q : Bool → Shared → Prop} (sa : (a == sysModules) = false) (sb : (b == sysModules) = false) (da : s.heap.DictOf knd a ka) (db : s.heap.DictOf knd b kb) (hl : ka.length = kb.length)
    (hv : ∀ (i : Nat) k v, ka[i]? = some (k, v) → ∃ y, valueAt kb k = some y ∧ EqHere prog w A s v y) (h : Q true s) : wpAny (model prog w) A (Builtin.Dict.samePairs nm a b) Q E s := by
  obtain ⟨oa, es, ep, hoa, _, hda, hka, hpa, _⟩ := da
  obtain ⟨ob, es', ep', hob, _, hdb, hkb, hpb, _⟩ := db
  have la : es.size = ka.length := by rw [← hpa.length]; exact Array.length_toList.symm
  have lb : es'.size = kb.length := by rw [← hpb.length]; exact Array.length_toList.symm
  have hsz : es.size = es'.size := by rw [la, lb, hl]
  unfold Builtin.Dict.samePairs Builtin.Dict.showsAll
  rw [if_neg (by rw [sa]; decide), if_neg (by rw [sb]; decide)]
  refine wpAny_bind (wpAny_pure (wpAny_bind (wpAny_pure (wpAny_bind (wpAny_dictEntries hoa hda ?_)))))
  dsimp only
  refine wpAny_bind (wpAny_dictEntries hob hdb ?_)
  rw [if_neg (by rw [hsz]; simp)]
  refine wpAny_bind (wpAny_dictEpoch hoa hda (wpAny_bind ?_))
  rw [Std.Legacy.Range.forIn_eq_forIn_range']
  refine wpAny_forIn_list _ (fun rest q s' => s' = s ∧ q = (none, ()) ∧ ∀ i ∈ rest, i < es.size) _ (fun i rest q s' hI => ?_) (fun q s' hI => ?_) _ _ ⟨rfl, rfl, fun i hi => ?_⟩
  · obtain ⟨rfl, rfl, hr⟩ := hI
    have hi := hr i List.mem_cons_self
    refine wpAny_bind (wpAny_dictEntries hoa hda ?_)
    rw [Array.getElem?_eq_getElem hi]
    have hi' : i < ka.length := by rw [← la]; exact hi
    obtain ⟨hkey, hval⟩ := hpa.get? (i := i) (e := es[i]) (k := ka[i].1) (v := ka[i].2) (by rw [Array.getElem?_toList]; exact Array.getElem?_eq_getElem hi) (List.getElem?_eq_getElem hi')
    obtain ⟨k', hk', hh⟩ := hka es[i] (Array.getElem_mem hi)
    cases knd.inj _ _ _ hk' hkey
    obtain ⟨y, hy, he⟩ : ∃ y, valueAt kb ka[i].1 = some y ∧ EqHere prog w A _ ka[i].2 y := hv i _ _ (List.getElem?_eq_getElem hi')
    show wpAny _ _ (holding [es[i].key, es[i].val] _ >>= _) _ _ _
    rw [hh]
    refine wpAny_bind (wpAny_holding (wpAny_bind (wpAny_dictFind_of hkey hob hdb hkb ?_)))
    have hf : findBy knd.is es' ka[i].1 = some y := by
      rw [← hy, ← hpb.find]
      obtain ⟨l⟩ := es'
      simp [findBy]
    rw [findBy_of_findIdx?] at hf
    cases hj : es'.findIdx? fun e => knd.is ka[i].1 e.key with
    | none => rw [hj] at hf; first | exact no hf | cases hf
    | some j =>
      obtain ⟨hjl, _, _⟩ := Array.findIdx?_eq_some_iff_getElem.mp hj
      have ev : es'[j].val = y := by
        rw [hj] at hf
        simpa [Array.getElem?_eq_getElem hjl] using hf
      refine wpAny_bind (wpAny_dictEntries hob hdb ?_)
      rw [Array.getElem?_eq_getElem hjl]
      rw [← ev, ← hval] at he
      refine wpAny_holding (he _ _ ?_)
      show wpAny _ _ (if (!true) = true then _ else _) _ _ _
      rw [if_neg (by decide)]
      refine wpAny_bind (wpAny_dictEpoch hoa hda ?_)
      rw [if_neg (by simp)]
      exact wpAny_pure ⟨rfl, rfl, fun x hx => hr x (List.mem_cons_of_mem _ hx)⟩
  · obtain ⟨rfl, rfl, _⟩ := hI
    exact wpAny_pure h
  · have := List.mem_range'.mp hi
    simp only [Std.Legacy.Range.size] at this
    omega
/-- and so they are not unequal -/
theorem ne_dicts {a b : Addr} {ka kb : List (K × Value)} {Q : Value → Shared → Prop} (sa : (a == sysModules) = false) (sb : (b == sysModules) = false) (da : s.heap.DictOf knd a ka) (db : s.heap.DictOf knd b kb) (hu : A.units < cLine) (hl : ka.length = kb.length)
    (hv : ∀ (i : Nat) k v, ka[i]? = some (k, v) → ∃ y, valueAt kb k = some y ∧ EqHere prog w A.in1 s v y) (h : Q (.bool false) s) : wpAny (model prog w) A (compareOp .NotEq (.ref a) (.ref b)) Q E s := by
  refine wpAny_richCompare_same_room (op := .NotEq) da.typeIs db.typeIs PySem.F.slot_dict_ne (wpAny_call_entry PySem.F.slot_dict_ne da.typeIs PySem.F.entry_dict_ne ?_ (PySem.F.args_dict_ne_2 _ _)) hu
  show wpAny _ _ (Builtin.Dict.dictSlotArgs "__ne__" ⟨[.ref a, .ref b], []⟩ >>= _) _ _ s
  unfold Builtin.Dict.dictSlotArgs
  refine wpAny_bind (wpAny_bind (wpAny_notOrdered_dict da.typeIs (wpAny_pure ?_)))
  refine wpAny_bind (wpAny_isInstance (T := "dict") db.typeIs PySem.F.sub_dict_dict ?_)
  simp only [Bool.not_true, Bool.false_eq_true, if_false]
  refine wpAny_bind (wpAny_pure (wpAny_bind (wpAny_pure ?_)))
  refine wpAny_bind (same_dicts sa sb da db hl hv (wpAny_pure ⟨_, rfl, (fun x => nomatch x), ?_⟩))
  simpa using h
end
end
end Mine
end

section
open PySem PySem.Spec PySem.Calls PyProof.Rows PySem.W
set_option Elab.async false
set_option maxRecDepth 100000
set_option maxHeartbeats 4000000
namespace Mine
noncomputable section
/-- {'a': x, 'b': y, 'c': z} -/
noncomputable def rowE (x y z : Str) (e : Expr) : Prop := ∃ k0 p0 k1 p1 k2 p2 q0 q1 q2 p, e = .Dict [some (.Constant (.str "a") k0 p0), some (.Constant (.str "b") k1 p1), some (.Constant (.str "c") k2 p2)] [.Name x q0, .Name y q1, .Name z q2] p
theorem rowE_eq {x y z : Str} {e : Expr} (h : rowE x y z e) : ∃ k0 p0 k1 p1 k2 p2 q0 q1 q2 p, e = .Dict [some (.Constant (.str "a") k0 p0), some (.Constant (.str "b") k1 p1), some (.Constant (.str "c") k2 p2)] [.Name x q0, .Name y q1, .Name z q2] p := h
noncomputable def rows3 (e : Expr) : Prop := ∃ k0 p0 k1 p1 k2 p2 r0 r1 r2 p, e = .Dict [some (.Constant (.str "a") k0 p0), some (.Constant (.str "b") k1 p1), some (.Constant (.str "c") k2 p2)] [r0, r1, r2] p ∧ rowE "a" "d" "g" r0 ∧ rowE "b" "e" "h" r1 ∧ rowE "c" "f" "j" r2
theorem rows3_eq {e : Expr} (h : rows3 e) : ∃ k0 p0 k1 p1 k2 p2 r0 r1 r2 p, e = .Dict [some (.Constant (.str "a") k0 p0), some (.Constant (.str "b") k1 p1), some (.Constant (.str "c") k2 p2)] [r0, r1, r2] p ∧ rowE "a" "d" "g" r0 ∧ rowE "b" "e" "h" r1 ∧ rowE "c" "f" "j" r2 := h
section
variable {W : Wd} {h₀ : Heap} {k : Nat} {c : Ctx} {A : Around} {env : Env} {ρ ρ' : Nat → Addr} {σ σ' : St} {s s' : Shared} {E : Value → Shared → Prop}
theorem nofresh (h : Heap) : h.get? h.objs.size = none := by
  cases q : h.get? h.objs.size with
  | none => rfl
  | some o => exact absurd (Heap.lt_size q) (Nat.lt_irrefl _)
theorem row_ev {x y z : Str} {e : Expr} (he : rowE x y z e) (G : Gd W h₀ k c A env ρ σ s) {a b d : Int} (hx : loadA gv0 c x σ = some (.int (.c a))) (hy : loadA gv0 c y σ = some (.int (.c b))) (hz : loadA gv0 c z σ = some (.int (.c d))) {Q : Value → Shared → Prop}
    (h : ∀ h' tk r l, (∀ b o, s.heap.get? b = some o → h'.get? b = some o) → s.heap.get? r = none → h'.DictOf (strKind W.prog W.w) r l → TR [(ltr 0, a), (ltr 1, b), (ltr 2, d)] l → Q (.ref r) { s with heap := h', toks := tk }) :
    wpAny (model W.prog W.w) A (eval e env) Q E s := by
  obtain ⟨k0, p0, k1, p1, k2, p2, q0, q1, q2, p, rfl⟩ := rowE_eq he
  have G' : ∀ tk, Gd W h₀ k c A env ρ σ { s with heap := s.heap.push { cls := .type "dict", data := .dict #[] }, toks := tk } := fun tk => G.mv (Mv.heap G.rel fun _ _ e => Heap.get?_push_of_some _ e)
  refine wpAny_Dict_walk (knd := strKind W.prog W.w) rfl rfl (by simp) (by simp) ?_
  refine pairTrees_cons_walk (wpAny_Constant_str (wpAny_Name (loadA_ok gv0_ok hx (G' _) fun v V => ?_) (loadA_nd hx)))
  obtain ⟨t1, rfl⟩ := VV.intcI V
  refine pairTrees_cons_walk (wpAny_Constant_str (wpAny_Name (loadA_ok gv0_ok hy (G' _) fun v V => ?_) (loadA_nd hy)))
  obtain ⟨t2, rfl⟩ := VV.intcI V
  refine pairTrees_cons_walk (wpAny_Constant_str (wpAny_Name (loadA_ok gv0_ok hz (G' _) fun v V => ?_) (loadA_nd hz)))
  obtain ⟨t3, rfl⟩ := VV.intcI V
  refine pairTrees_nil_walk ?_
  dsimp only
  have hn : (([("a" : Str), "b", "c"] : List Str)).Nodup := by decide +kernel
  refine display_done_str rfl hn (Heap.DictOf.new (knd := strKind W.prog W.w) s.heap) fun h' hd hs => ?_
  refine h h' _ _ _ (fun b o eb => (hs.2 b (Nat.ne_of_lt (Heap.lt_size eb))).trans (Heap.get?_push_of_some _ eb)) (nofresh _) hd ?_
  exact ⟨⟨rfl, _, rfl⟩, ⟨rfl, _, rfl⟩, ⟨rfl, _, rfl⟩, trivial⟩
/-- equal tables -/
theorem row_eq {a b : Addr} {la lb : List (Str × Value)} (hne : a ≠ b) (sa : (a == sysModules) = false) (sb : (b == sysModules) = false) (da : s.heap.DictOf (strKind W.prog W.w) a la) (db : s.heap.DictOf (strKind W.prog W.w) b lb) (hu : A.units < cLine)
    {x y z : Int} (ta : TR [(ltr 0, x), (ltr 1, y), (ltr 2, z)] la) (tb : TR [(ltr 0, x), (ltr 1, y), (ltr 2, z)] lb) : EqHere W.prog W.w A s (.ref a) (.ref b) := by
  refine eqHere_refs hne fun E Q hq => ?_
  obtain ⟨t1, t2, t3, rfl⟩ := ta.cons3
  obtain ⟨u1, u2, u3, rfl⟩ := tb.cons3
  refine keq_eq (r := true) sa sb da db hu (fun _ => ?_) hq
  have h3 := KeqHits.hit (A := A.in1) (s := s) (kb := [(ltr 0, .int x u1), (ltr 1, .int y u2), (ltr 2, .int z u3)]) (k := ltr 2) (v := .int z t3) ((valueAt_ne (by simp [ltr_ac])).trans ((valueAt_ne (by simp [ltr_bc])).trans (valueAt_eq rfl))) (SeqAt.EqAt.int_int z t3 z u3) .nil
  have h2 := KeqHits.hit (A := A.in1) (s := s) (kb := [(ltr 0, .int x u1), (ltr 1, .int y u2), (ltr 2, .int z u3)]) (k := ltr 1) (v := .int y t2) ((valueAt_ne (by simp [ltr_ab])).trans (valueAt_eq rfl)) (SeqAt.EqAt.int_int y t2 y u2) h3
  have h1 := KeqHits.hit (A := A.in1) (s := s) (kb := [(ltr 0, .int x u1), (ltr 1, .int y u2), (ltr 2, .int z u3)]) (k := ltr 0) (v := .int x t1) (valueAt_eq rfl) (SeqAt.EqAt.int_int x t1 x u1) h2
  simpa using h1
end
end
end Mine
end

section
open PySem PySem.Spec PySem.Calls PyProof.Rows PySem.W
set_option Elab.async false
set_option maxRecDepth 100000
set_option maxHeartbeats 4000000
namespace Mine
noncomputable section
section
variable {W : Wd} {h₀ : Heap} {k : Nat} {c : Ctx} {A : Around} {env : Env} {ρ ρ' : Nat → Addr} {σ σ' : St} {s s' : Shared} {E : Value → Shared → Prop}
/-- the test of statement 3 is false -/
theorem cmp_ev {d : Expr} {p p' : Pos} (hd : rows3 d) (G : Gd W h₀ k c A env ρ σ s) {ns : List Int} (h9 : 9 ≤ ns.length) (hp : loadA gv0 c "profile" σ = some (profC ns))
    (ha : loadA gv0 c "a" σ = some (.int (.c (S9 ns 0 ns.length)))) (hb : loadA gv0 c "b" σ = some (.int (.c (S9 ns 1 ns.length)))) (hc : loadA gv0 c "c" σ = some (.int (.c (S9 ns 2 ns.length))))
    (hdd : loadA gv0 c "d" σ = some (.int (.c (S9 ns 3 ns.length)))) (he : loadA gv0 c "e" σ = some (.int (.c (S9 ns 4 ns.length)))) (hf : loadA gv0 c "f" σ = some (.int (.c (S9 ns 5 ns.length))))
    (hg : loadA gv0 c "g" σ = some (.int (.c (S9 ns 6 ns.length)))) (hh : loadA gv0 c "h" σ = some (.int (.c (S9 ns 7 ns.length)))) (hj : loadA gv0 c "j" σ = some (.int (.c (S9 ns 8 ns.length))))
    {Q : Bool → Shared → Prop} (h : ∀ s', MV W h₀ ρ σ s ρ σ s' → Q false s') : wpAny (model W.prog W.w) A (isTrue (.Compare (.Name "profile" p) [.NotEq] [d] p') env (eval (.Compare (.Name "profile" p) [.NotEq] [d] p') env)) Q E s := by
  obtain ⟨k0, p0, k1, p1, k2, p2, r0, r1, r2, pp, rfl, hr0, hr1, hr2⟩ := rows3_eq hd
  refine wpAny_isTrue_Compare1 (wpAny_Name (loadA_ok gv0_ok hp G fun v V => ?_) (loadA_nd hp))
  unfold profC at V
  obtain ⟨pa, kvs, ep, rfl, hpa, hpu, hps, hpv⟩ := VV.dicSI V
  obtain ⟨w0, w1, w2, rfl, R0, R1, R2⟩ := hpv.cons3
  unfold rowC at R0 R1 R2
  obtain ⟨t0, l0, e0, rfl, ht0, hu0, hs0, D0⟩ := VV.dicSI R0
  obtain ⟨t1, l1, e1, rfl, ht1, hu1, hs1, D1⟩ := VV.dicSI R1
  obtain ⟨t2, l2, e2, rfl, ht2, hu2, hs2, D2⟩ := VV.dicSI R2
  refine wpAny_Dict_walk (knd := strKind W.prog W.w) rfl rfl (by simp) (by simp) ?_
  have z : ∀ {h' : Heap} {tk : Nat}, (∀ b o, s.heap.get? b = some o → h'.get? b = some o) → Gd W h₀ k c A env ρ σ { s with heap := h', toks := tk } := fun hk => G.mv (Mv.heap G.rel hk)
  have up0 : ∀ b o, s.heap.get? b = some o → (s.heap.push { cls := .type "dict", data := .dict #[] }).get? b = some o := fun _ _ e => Heap.get?_push_of_some _ e
  refine pairTrees_cons_walk (wpAny_Constant_str (row_ev hr0 (z up0) ha hdd hg fun h1 tk1 a1 q0 k1 n1 d1 T0 => ?_))
  have up1 : ∀ b o, s.heap.get? b = some o → h1.get? b = some o := fun b o e => k1 b o (up0 b o e)
  refine pairTrees_cons_walk (wpAny_Constant_str (row_ev hr1 (z up1) hb he hh fun h2 tk2 a2 q1 k2 n2 d2 T1 => ?_))
  have up2 : ∀ b o, s.heap.get? b = some o → h2.get? b = some o := fun b o e => k2 b o (up1 b o e)
  refine pairTrees_cons_walk (wpAny_Constant_str (row_ev hr2 (z up2) hc hf hj fun h3 tk3 a3 q2 k3 n3 d3 T2 => ?_))
  have up3 : ∀ b o, s.heap.get? b = some o → h3.get? b = some o := fun b o e => k3 b o (up2 b o e)
  refine pairTrees_nil_walk ?_
  dsimp only
  have hn : (([("a" : Str), "b", "c"] : List Str)).Nodup := by decide +kernel
  have hb : h3.DictOf (strKind W.prog W.w) s.heap.objs.size [] := dictOf_kept (Heap.DictOf.new (knd := strKind W.prog W.w) s.heap) fun _ ho => k3 _ _ (k2 _ _ (k1 _ _ ho))
  refine display_done_str rfl hn hb fun h4 hd4 hs4 => ?_
  have keep4 : ∀ b o, b ≠ s.heap.objs.size → h3.get? b = some o → h4.get? b = some o := fun b o hb e => (hs4.2 b hb).trans e
  have ne0 : ∀ {b : Addr} {o : Obj}, s.heap.get? b = some o → b ≠ s.heap.objs.size := fun {b o} e q => by rw [q, nofresh] at e; first | exact no e | cases e
  have up4 : ∀ b o, s.heap.get? b = some o → h4.get? b = some o := fun b o e => keep4 b o (ne0 e) (up3 b o e)
  have lift : ∀ {a : Addr} {l : List (Str × Value)} {ep : Nat}, s.heap.DictAt (strKind W.prog W.w) a l ep → h4.DictOf (strKind W.prog W.w) a l := fun {a l ep} hd => by obtain ⟨o, es, ho, r⟩ := hd; exact ⟨o, es, ep, up4 _ _ ho, r⟩
  have hP : (s.heap.push { cls := .type "dict", data := .dict #[] }).get? s.heap.objs.size = some { cls := .type "dict", data := .dict #[] } := Heap.get?_push_size _ rfl
  have m1 : a1 ≠ s.heap.objs.size := fun q => by rw [q, hP] at n1; first | exact no n1 | cases n1
  have m2 : a2 ≠ s.heap.objs.size := fun q => by rw [q, k1 _ _ hP] at n2; first | exact no n2 | cases n2
  have m3 : a3 ≠ s.heap.objs.size := fun q => by rw [q, k2 _ _ (k1 _ _ hP)] at n3; first | exact no n3 | cases n3
  have f1 : s.heap.get? a1 = none := by
    cases q : s.heap.get? a1 with
    | none => rfl
    | some o => rw [up0 _ _ q] at n1; first | exact no n1 | cases n1
  have f2 : s.heap.get? a2 = none := by
    cases q : s.heap.get? a2 with
    | none => rfl
    | some o => rw [up1 _ _ q] at n2; first | exact no n2 | cases n2
  have f3 : s.heap.get? a3 = none := by
    cases q : s.heap.get? a3 with
    | none => rfl
    | some o => rw [up2 _ _ q] at n3; first | exact no n3 | cases n3
  have D4 : ∀ {a : Addr} {l : List (Str × Value)}, a ≠ s.heap.objs.size → h3.DictOf (strKind W.prog W.w) a l → h4.DictOf (strKind W.prog W.w) a l := fun {a l} ha x => dictOf_kept x fun _ ho => keep4 _ _ ha ho
  have c1 : h4.DictOf (strKind W.prog W.w) a1 q0 := D4 m1 (dictOf_kept d1 fun _ ho => k3 _ _ (k2 _ _ ho))
  have c2 : h4.DictOf (strKind W.prog W.w) a2 q1 := D4 m2 (dictOf_kept d2 fun _ ho => k3 _ _ ho)
  have c3 : h4.DictOf (strKind W.prog W.w) a3 q2 := D4 m3 d3
  have ne : ∀ {a b : Addr} {l : List (Str × Value)} {ep : Nat}, s.heap.DictAt (strKind W.prog W.w) a l ep → s.heap.get? b = none → a ≠ b := fun {a b l ep} ⟨o, es, ho, r⟩ hb q => by rw [q, hb] at ho; first | exact no ho | cases ho
  have hu := G.units
  have tr : ∀ {x y z : Int} {l : List (Str × Value)}, DVs W s ρ σ [(ltr 0, .int (.c x)), (ltr 1, .int (.c y)), (ltr 2, .int (.c z))] l → TR [(ltr 0, x), (ltr 1, y), (ltr 2, z)] l := fun {x y z l} D => by
    obtain ⟨v0, v1, v2, rfl, V0, V1, V2⟩ := D.cons3
    exact ⟨⟨rfl, VV.intcI V0⟩, ⟨rfl, VV.intcI V1⟩, ⟨rfl, VV.intcI V2⟩, trivial⟩
  refine ne_dicts (knd := strKind W.prog W.w) hps (G.sm (nofresh _)) (lift hpa) hd4 (by omega) rfl (fun i key v hi => ?_) (wpAny_truthy_bool (h _ (Mv.heap G.rel up4)))
  match i, hi with
  | 0, hi =>
    cases hi
    exact ⟨_, valueAt_eq rfl, row_eq (ne ht0 f1) hs0 (G.sm f1) (lift ht0) c1 (by show A.units + 1 < cLine; omega) (tr D0) T0⟩
  | 1, hi =>
    cases hi
    exact ⟨_, (valueAt_ne (show ¬ ltr 0 = ltr 1 by simp [ltr_ab])).trans (valueAt_eq rfl), row_eq (ne ht1 f2) hs1 (G.sm f2) (lift ht1) c2 (by show A.units + 1 < cLine; omega) (tr D1) T1⟩
  | 2, hi =>
    cases hi
    exact ⟨_, (valueAt_ne (show ¬ ltr 0 = ltr 2 by simp [ltr_ac])).trans ((valueAt_ne (show ¬ ltr 1 = ltr 2 by simp [ltr_bc])).trans (valueAt_eq rfl)), row_eq (ne ht2 f3) hs2 (G.sm f3) (lift ht2) c3 (by show A.units + 1 < cLine; omega) (tr D2) T2⟩
  | _ + 3, hi => exact absurd hi (by simp)
end
end
end Mine
end

section
open PySem PySem.Spec PySem.Calls PyProof.Rows PySem.W
set_option Elab.async false
set_option maxRecDepth 100000
set_option maxHeartbeats 4000000
namespace Mine
noncomputable section
section
variable {prog : Program} {w : World} {A : Around} {E : Value → Shared → Prop}
/-- the rest of a list, item by item -/
theorem draw_rest {it l : Addr} {items : Array Value} (hne : l ≠ it) : ∀ (n i : Nat) {s : Shared} {Q : List Value → Shared → Prop}, s.heap.IsListIter it l i → s.heap.IsList l items → i + n = items.size →
    (∀ h', h'.IsListIter it l items.size → Heap.SameBut it s.heap h' → Q (items.toList.drop i) { s with heap := h' }) → wpAny (model prog w) A (draw (.ref it) n) Q E s
  | 0, i, s, Q, hit, _, hn, hQ => by
    have hi : i = items.size := hn
    have := hQ s.heap (hi ▸ hit) (Heap.SameBut.refl ..)
    rw [List.drop_eq_nil_of_le (by simp [hi])] at this
    exact wpAny_pure this
  | n + 1, i, s, Q, hit, hl, hn, hQ => by
    have hlt : i < items.size := by omega
    refine wpAny_bind (wpAny_pyNext_list_item hit hl (Array.getElem?_eq_getElem hlt) fun h₁ hit₁ hs₁ => ?_)
    refine wpAny_bind (wpAny_holding (draw_rest hne n (i + 1) hit₁ (hl.extBut hs₁.extBut hne) (by omega) fun h₂ hit₂ hs₂ => wpAny_pure ?_))
    have := hQ h₂ hit₂ (hs₁.trans hs₂)
    rw [List.drop_eq_getElem_cons (by simpa using hlt)] at this
    simpa using this
theorem assign_lst {s : Shared} {env : Env} {elts : List Expr} {k : Nat} {pos : Pos} {l : Addr} {items : Array Value} {Q : Unit → Shared → Prop} (hh : A.handled = none) (hl : s.heap.IsList l items) (hn : (assignEach elts env).length = items.size) (hstar : (assignEach elts env).findIdx? (·.1) = none)
    (h : ∀ h', (∀ b o, s.heap.get? b = some o → h'.get? b = some o) → wpAny (model prog w) A (assignInOrder ((assignEach elts env).map (·.2)) items.toList) Q E { s with heap := h' }) : wpAny (model prog w) A (assign (.Tuple elts k pos) env (.ref l)) Q E s := by
  have hlt : l ≠ s.heap.objs.size := Nat.ne_of_lt (ex_lt (list_ex hl))
  rw [arm_assign_Tuple]
  refine wpAny_bind (wpAny_standAt ?_)
  unfold unpack
  rw [hn, hstar]
  refine wpAny_bind (wpAny_holding ?_)
  unfold unpackItems notIterableAtAll
  refine wpAny_bind (wpAny_bind (wpAny_specialOf hl.typeIs slot_list_iter.lookup ?_))
  refine wpAny_pure ?_
  simp only [Bool.false_eq_true, if_false]
  refine wpAny_bind (wpAny_holding (wpAny_pyIter_list hl ?_))
  refine wpAny_bind (wpAny_holding (draw_rest hlt items.size 0 ⟨_, Heap.get?_push_size _ rfl, rfl, rfl⟩ (hl.push _) (by omega) fun h₁ hit₁ hs₁ => ?_))
  rw [List.drop_zero, if_neg (by simp)]
  refine wpAny_bind (wpAny_holding (wpAny_pyNext_list_end hh hit₁ ((hl.push _).extBut hs₁.extBut hlt) (by simp) fun h₂ he₂ => ?_))
  simp only [Option.isSome_none, Bool.false_eq_true, if_false]
  refine wpAny_pure (h h₂ fun b o e => ?_)
  have hb : b ≠ s.heap.objs.size := Nat.ne_of_lt (Heap.lt_size e)
  exact he₂ b o hb (hs₁.extBut b o hb (Heap.get?_push_of_some _ e))
end
section
variable {W : Wd} {h₀ : Heap} {k : Nat} {c : Ctx} {A : Around} {env : Env} {ρ ρ' : Nat → Addr} {σ σ' : St} {s s' : Shared} {E : Value → Shared → Prop}
theorem asgL_ok {elts : List Expr} {kk : Nat} {p : Pos} {its : List AV} {v : Value} (e : storeEach c elts its σ = some σ') (G : Gd W h₀ k c A env ρ σ s) (V : VV W s ρ σ (.lst its) v) {Q : Unit → Shared → Prop} (h : ∀ s', MV W h₀ ρ σ s ρ σ' s' → Q () s') :
    wpAny (model W.prog W.w) A (assign (.Tuple elts kk p) env v) Q E s := by
  obtain ⟨hl, hs⟩ := storeEach_names (env := env) e
  cases V with
  | @lst a _ vs ht hu hlen hv =>
    refine assign_lst G.hand ht (by rw [assignEach_len, hl, hlen]; simp) (List.findIdx?_eq_none_iff.mpr fun p hp => hs p hp) fun h' hk => ?_
    have m₁ : MV W h₀ ρ σ s ρ σ { s with heap := h' } := Mv.heap (tk := s.toks) G.rel hk
    rw [show vs.toArray.toList = vs from rfl]
    exact storeEach_ok e (G.mv m₁) (VVs.mv G.rel m₁ (VVs.of hlen hv)) fun s₂ m₂ => h s₂ (m₁.trans G.rel m₂)
end
noncomputable def stN (i : Nat) : Stmt := (bodyL[i]?).getD (.Pass default)
theorem bodyL_eq : bodyL = stN 0 :: stN 1 :: stN 2 :: stN 3 :: stN 4 :: stN 5 :: bodyL.drop 6 := by kernel_rfl
theorem keep222 (w : World) : keepIn (KW w) (.ref 222) = true := by kernel_rfl
theorem st1 : ∃ p0 p1 p2 p3 p4, stN 1 = .Assign [.Name "profile" p0] (.Call (.Name "_law_profile" p1) [.Name "numbers" p2] [] p3) p4 := ⟨_, _, _, _, _, rfl⟩
theorem st3 : ∃ p0 d p1 b p2, stN 3 = .If (.Compare (.Name "profile" p0) [.NotEq] [d] p1) b [] p2 ∧ rows3 d :=
  ⟨_, _, _, _, _, rfl, _, _, _, _, _, _, _, _, _, _, rfl, ⟨_, _, _, _, _, _, _, _, _, _, rfl⟩, ⟨_, _, _, _, _, _, _, _, _, _, rfl⟩, ⟨_, _, _, _, _, _, _, _, _, _, rfl⟩⟩
noncomputable def tupE : Expr := match stN 4 with
  | .Assign _ (.Subscript t _ _) _ => t
  | _ => .Constant .none 0 default
theorem st4 : ∃ p0 p1 p2 p3 k4 p4 p5 p6 p7, stN 4 = .Assign [.Name "way" p0] (.Subscript tupE (.BinOp (.Call (.Name "sum" p1) [.Name "script" p2] [] p3) .Mod (.Constant (.int 4) k4 p4) p5) p6) p7 := ⟨_, _, _, _, _, _, _, _, _, rfl⟩
theorem tup_ev (σ : St) : (fns gvA ftA 199).ev ctxL tupE σ = some (.tup [.int (.c 1), .int (.c (-1)), .int (.c 2), .int (.c (-3))], σ) := by kernel_rfl
/-- the states -/
noncomputable def cs0 (way ahead : Option AV) : List (Nat × AO) := [(2, .cell way), (3, .cell ahead), (4, .cell none), (5, .cell none), (6, .cell none), (7, .cell none), (8, .cell none)]
noncomputable def sg0 (sc ns : List Int) : St := ⟨(0, .ns [("script", .nlist sc)]) :: (1, .cell (some (.nlist ns))) :: cs0 none none, 9⟩
noncomputable def sg1 (sc ns : List Int) : St := ⟨(0, .ns [("script", .nlist sc), ("profile", profC ns)]) :: (1, .cell (some (.nlist ns))) :: cs0 none none, 9⟩
noncomputable def n9 (ns : List Int) (r : Nat) : AV := .int (.c (S9 ns r ns.length))
noncomputable def loc2 (sc ns : List Int) : List (Str × AV) := [("script", .nlist sc), ("profile", profC ns), ("a", n9 ns 0), ("b", n9 ns 1), ("c", n9 ns 2), ("d", n9 ns 3), ("e", n9 ns 4), ("f", n9 ns 5), ("g", n9 ns 6), ("h", n9 ns 7), ("j", n9 ns 8)]
noncomputable def sg2 (sc ns : List Int) : St := ⟨(0, .ns (loc2 sc ns)) :: (1, .cell (some (.nlist ns))) :: cs0 none none, 11⟩
theorem r1 (sc ns : List Int) : store ctxL "profile" (profC ns) (sg0 sc ns) = some (sg1 sc ns) := by kernel_rfl
noncomputable def R1 : Fns := ⟨fun c e σ => match sumA c e σ with
  | some r => some r
  | none => (fns gvA ftA 198).ev c e σ, (fns gvA ftA 198).ex, (fns gvA ftA 198).call, (fns gvA ftA 198).ts⟩
noncomputable def R2 : Fns := mk gvA ftA R1
/-- a, .., j = [..] -/
noncomputable def tgts : List Expr := match stN 2 with
  | .Assign [.Tuple es _ _] _ _ => es
  | _ => []
noncomputable def cmp2E : Expr := match stN 2 with
  | .Assign _ e _ => e
  | _ => .Constant .none 0 default
theorem st2_eq : ∃ k p q, stN 2 = .Assign [.Tuple tgts k p] cmp2E q ∧ isDisp cmp2E = false ∧ ∃ a b d f, cmp2E = .ListComp a b d f := ⟨_, _, _, rfl, rfl, _, _, _, _, rfl⟩
noncomputable def sg2' (sc ns : List Int) : St := ⟨(0, .ns [("script", .nlist sc), ("profile", profC ns)]) :: (1, .cell (some (.nlist ns))) :: cs0 none none, 11⟩
theorem r2 (sc ns : List Int) : evF gvA R1 ctxL cmp2E (sg1 sc ns) = some (.lst [n9 ns 0, n9 ns 1, n9 ns 2, n9 ns 3, n9 ns 4, n9 ns 5, n9 ns 6, n9 ns 7, n9 ns 8], sg2' sc ns) := by kernel_rfl
theorem r2s (sc ns : List Int) : storeEach ctxL tgts [n9 ns 0, n9 ns 1, n9 ns 2, n9 ns 3, n9 ns 4, n9 ns 5, n9 ns 6, n9 ns 7, n9 ns 8] (sg2' sc ns) = some (sg2 sc ns) := by kernel_rfl
end
end Mine
end

section
open PySem PySem.Spec PySem.Calls PyProof.Rows PySem.W
set_option Elab.async false
set_option maxRecDepth 100000
set_option maxHeartbeats 1000000
namespace Mine
noncomputable section
noncomputable def sg4 (sc ns : List Int) (way : Int) : St := ⟨(2, .cell (some (.int (.c way)))) :: (0, .ns (loc2 sc ns)) :: (1, .cell (some (.nlist ns))) :: [(3, .cell none), (4, .cell none), (5, .cell none), (6, .cell none), (7, .cell none), (8, .cell none)], 11⟩
noncomputable def sg5 (sc ns : List Int) (way ahead : Int) : St := ⟨(3, .cell (some (.int (.c ahead)))) :: (2, .cell (some (.int (.c way)))) :: (0, .ns (loc2 sc ns)) :: (1, .cell (some (.nlist ns))) :: [(4, .cell none), (5, .cell none), (6, .cell none), (7, .cell none), (8, .cell none)], 11⟩
theorem r4 (sc ns : List Int) (way : Int) : store ctxL "way" (.int (.c way)) (sg2 sc ns) = some (sg4 sc ns way) := by kernel_rfl
theorem r5a (sc ns : List Int) : stF gvA (fns gvA ftA 199) ctxL (stN 5) (sg4 sc ns 1) = some (.next, sg5 sc ns 1 (-1)) := by kernel_rfl
theorem r5b (sc ns : List Int) : stF gvA (fns gvA ftA 199) ctxL (stN 5) (sg4 sc ns (-1)) = some (.next, sg5 sc ns (-1) (-1)) := by kernel_rfl
theorem r5c (sc ns : List Int) : stF gvA (fns gvA ftA 199) ctxL (stN 5) (sg4 sc ns 2) = some (.next, sg5 sc ns 2 (-2)) := by kernel_rfl
theorem r5d (sc ns : List Int) : stF gvA (fns gvA ftA 199) ctxL (stN 5) (sg4 sc ns (-3)) = some (.next, sg5 sc ns (-3) (-3)) := by kernel_rfl
theorem kSum : ctxL.kind ("sum" : Str) = some .globalImplicit := by kernel_rfl
theorem kProf : ctxL.kind ("_law_profile" : Str) = some .globalImplicit := by kernel_rfl
theorem kp : (ctxL.kind ("profile" : Str) == some .local) = true := by kernel_rfl
theorem l0n (sc ns : List Int) : loadA gv0 ctxL "numbers" (sg0 sc ns) = some (.nlist ns) := by kernel_rfl
theorem l2s (sc ns : List Int) : loadA gv0 ctxL "script" (sg2 sc ns) = some (.nlist sc) := by kernel_rfl
theorem l2p (sc ns : List Int) : loadA gv0 ctxL "profile" (sg2 sc ns) = some (profC ns) := by kernel_rfl
theorem l2l (sc ns : List Int) : loadA gv0 ctxL "a" (sg2 sc ns) = some (n9 ns 0) ∧ loadA gv0 ctxL "b" (sg2 sc ns) = some (n9 ns 1) ∧ loadA gv0 ctxL "c" (sg2 sc ns) = some (n9 ns 2) ∧ loadA gv0 ctxL "d" (sg2 sc ns) = some (n9 ns 3) ∧ loadA gv0 ctxL "e" (sg2 sc ns) = some (n9 ns 4) ∧
    loadA gv0 ctxL "f" (sg2 sc ns) = some (n9 ns 5) ∧ loadA gv0 ctxL "g" (sg2 sc ns) = some (n9 ns 6) ∧ loadA gv0 ctxL "h" (sg2 sc ns) = some (n9 ns 7) ∧ loadA gv0 ctxL "j" (sg2 sc ns) = some (n9 ns 8) := ⟨by kernel_rfl, by kernel_rfl, by kernel_rfl, by kernel_rfl, by kernel_rfl, by kernel_rfl, by kernel_rfl, by kernel_rfl, by kernel_rfl⟩
section
variable {W : Wd} {h₀ : Heap} {k : Nat} {c : Ctx} {A : Around} {env : Env} {ρ ρ' : Nat → Addr} {σ σ' : St} {s s' : Shared} {E : Value → Shared → Prop}
theorem R1_ok (H : AllOk W gvA ftA) (M : Nm W) : FnsOk W 198 R1 := by
  have F := fns_ok H 198
  refine ⟨fun h₀ c e σ r σ' eq A env ρ s G Q E h => ?_, F.ex, F.call, F.ts⟩
  simp only [R1] at eq
  split at eq
  · rename_i r' hr
    cases eq
    exact sumA_ok M hr G fun v s' m V => h v s' ρ m V
  · exact F.ev h₀ c e σ r σ' eq A env ρ s G Q E h
/-- statement 1 -/
theorem s1_ok {sc ns : List Int} (HK : W.K = KW W.w) (M : Nm W) (G : Gd W h₀ 200 ctxL A env ρ (sg0 sc ns) s) (h9 : 9 ≤ ns.length) {rest : List Stmt} {Q : Flow → Shared → Prop}
    (h : ∀ s', MV W h₀ ρ (sg0 sc ns) s ρ (sg1 sc ns) s' → wpAny (model W.prog W.w) A (execs rest env) Q E s') : wpAny (model W.prog W.w) A (execs (stN 1 :: rest) env) Q E s := by
  obtain ⟨p0, p1, p2, p3, p4, e1⟩ := st1
  rw [e1]
  refine wpAny_execs_cons (wpAny_Assign_Name (wpAny_Call_NameR (wpAny_Name ?_ (by decide +kernel))) (swaps_not rfl _ _))
  rw [loadName_read G.kind ((G.kindOf _).trans kProf)]
  refine loadGlobal_global (by rw [G.gl]; exact G.ns) M.prof ?_
  refine callWith_of (P := W.K.In) rfl (keeps_K (HK ▸ keep222 W.w)) ?_
  show wpAny _ _ (evalArgs (.ref 222) true [(false, eval (.Name "numbers" p2) env)] []) _ _ _
  refine evalArgs_plain (spliced_cons (wpAny_Name (loadA_ok gv0_ok (l0n sc ns) G fun u U => ?_) (loadA_nd (l0n sc ns))))
  refine spliced_nil ⟨G.kinH, ?_⟩
  refine prof_prim HK M G U h9 fun v s₁ m₁ V => ?_
  exact store_ok (r1 sc ns) (G.mv m₁) V fun s₂ m₂ => h s₂ (m₁.trans G.rel m₂)
/-- statement 2 -/
theorem s2_ok {sc ns : List Int} (H : AllOk W gvA ftA) (M : Nm W) (G : Gd W h₀ 200 ctxL A env ρ (sg1 sc ns) s) {rest : List Stmt} {Q : Flow → Shared → Prop}
    (h : ∀ s' ρ', MV W h₀ ρ (sg1 sc ns) s ρ' (sg2 sc ns) s' → wpAny (model W.prog W.w) A (execs rest env) Q E s') : wpAny (model W.prog W.w) A (execs (stN 2 :: rest) env) Q E s := by
  obtain ⟨k, p, q, e2, hdisp, a, b, d, f, hcomp⟩ := st2_eq
  rw [e2]
  refine wpAny_execs_cons (wpAny_Assign_stores (evF_ok H (R1_ok H M) h₀ ctxL cmp2E _ _ _ (r2 sc ns) A env ρ s G.less _ _ fun u s₁ ρ₁ m₁ V₁ => ?_) ?_ (swapped_not hdisp _ _ _))
  · show wpAny _ _ (assign (.Tuple tgts k p) env u) _ _ _
    exact asgL_ok (r2s sc ns) (G.mv m₁) V₁ fun s₂ m₂ => h s₂ ρ₁ (m₁.trans G.rel m₂)
  · show swapsWith cmp2E (some (.Tuple tgts k p)) q.line env = pure false
    rw [hcomp]; rfl
/-- statement 3 -/
theorem s3_ok {sc ns : List Int} (G : Gd W h₀ 200 ctxL A env ρ (sg2 sc ns) s) (h9 : 9 ≤ ns.length) {rest : List Stmt} {Q : Flow → Shared → Prop}
    (h : ∀ s', MV W h₀ ρ (sg2 sc ns) s ρ (sg2 sc ns) s' → wpAny (model W.prog W.w) A (execs rest env) Q E s') : wpAny (model W.prog W.w) A (execs (stN 3 :: rest) env) Q E s := by
  obtain ⟨p0, d, p1, b, p2, e3, hd⟩ := st3
  obtain ⟨a0, a1, a2, a3, a4, a5, a6, a7, a8⟩ := l2l sc ns
  rw [e3]
  refine wpAny_execs_cons (wpAny_If (cmp_ev hd G h9 (l2p sc ns) a0 a1 a2 a3 a4 a5 a6 a7 a8 fun s' m => ?_))
  rw [if_neg (by decide)]
  exact wpAny_execs_nil (h s' m)
/-- statement 4 -/
theorem s4_ok {sc ns : List Int} (H : AllOk W gvA ftA) (M : Nm W) (G : Gd W h₀ 200 ctxL A env ρ (sg2 sc ns) s) {rest : List Stmt} {Q : Flow → Shared → Prop}
    (h : ∀ way, (way = 1 ∨ way = -1 ∨ way = 2 ∨ way = -3) → ∀ s' ρ', MV W h₀ ρ (sg2 sc ns) s ρ' (sg4 sc ns way) s' → wpAny (model W.prog W.w) A (execs rest env) Q E s') : wpAny (model W.prog W.w) A (execs (stN 4 :: rest) env) Q E s := by
  obtain ⟨p0, p1, p2, p3, k4, p4, p5, p6, p7, e4⟩ := st4
  rw [e4]
  refine wpAny_execs_cons (wpAny_Assign_Name (Subscript_ ((fns_ok H 199).ev h₀ ctxL tupE _ _ _ (tup_ev (sg2 sc ns)) A env ρ s G.less _ _ fun u s₁ ρ₁ m₁ V₁ => ?_)) (swaps_not rfl _ _))
  have G₁ := G.mv m₁
  refine wpAny_BinOp (wpAny_Call_NameR (wpAny_Name ?_ (by decide +kernel)))
  rw [loadName_read G₁.kind ((G₁.kindOf _).trans kSum)]
  refine loadGlobal_builtin (by rw [G₁.gl]; exact G₁.ns) M.sum.1 (by rw [G₁.bl]; exact G₁.nsb) M.sum.2 ?_
  refine callWith_of (P := fun _ => True) rfl (fun _ _ => ⟨.machine, .inr (.inl rfl), Looks.of_pure rfl⟩) ?_
  show wpAny _ _ (evalArgs (.builtin "sum") true [(false, eval (.Name "script" p2) env)] []) _ _ _
  refine evalArgs_plain (spliced_cons (wpAny_Name (loadA_ok gv0_ok (l2s sc ns) G₁ fun w U => ?_) (loadA_nd (l2s sc ns))))
  refine spliced_nil ⟨trivial, ?_⟩
  cases U with
  | nlist hl hu hi hz =>
  refine sum_ints G₁.hand hl hi fun h' tk t' hk => ?_
  refine wpAny_Constant_int (PyProof.Rows.mod_int' (by decide) ?_)
  have m₂ : MV W h₀ ρ₁ (sg2 sc ns) s₁ ρ₁ (sg2 sc ns) { s₁ with heap := h', toks := tk + 1 + 1 } := Mv.heap G₁.rel hk
  have G₂ := G₁.mv m₂
  have fin : ∀ (i way : Int), sc.sum.fmod 4 = i → subA (.tup [.int (.c 1), .int (.c (-1)), .int (.c 2), .int (.c (-3))]) (.int (.c i)) (sg2 sc ns) = some (.int (.c way)) → (way = 1 ∨ way = -1 ∨ way = 2 ∨ way = -3) →
      wpAny (model W.prog W.w) A (subscriptTail tupE (.BinOp (.Call (.Name "sum" p1) [.Name "script" p2] [] p3) .Mod (.Constant (.int 4) k4 p4) p5) u (.int (sc.sum.fmod 4) (tk + 1))) (fun v s₁ => wpAny (model W.prog W.w) A (storeName env "way" v) (fun _ => match Flow.next with | .next => wpAny (model W.prog W.w) A (execs rest env) Q E | f => Q f) E s₁) E { s₁ with heap := h', toks := tk + 1 + 1 } := by
    intro i way hi he hw
    refine subA_ok H.get he G₂ (m₂.vr G₁.rel V₁) (by rw [hi]; exact .int (.c i) _) rfl fun x s₃ m₃ V₃ => ?_
    exact store_ok (r4 sc ns way) (G₂.mv m₃) V₃ fun s₄ m₄ => h way hw s₄ ρ₁ (((m₁.trans G.rel m₂).trans G.rel m₃).trans G.rel m₄)
  have h4 : sc.sum.fmod 4 = 0 ∨ sc.sum.fmod 4 = 1 ∨ sc.sum.fmod 4 = 2 ∨ sc.sum.fmod 4 = 3 := by
    rw [Int.fmod_eq_emod_of_nonneg _ (by decide)]; omega
  rcases h4 with h4 | h4 | h4 | h4
  · exact fin 0 1 h4 rfl (.inl rfl)
  · exact fin 1 (-1) h4 rfl (.inr (.inl rfl))
  · exact fin 2 2 h4 rfl (.inr (.inr (.inl rfl)))
  · exact fin 3 (-3) h4 rfl (.inr (.inr (.inr rfl)))
/-- statement 5 -/
theorem s5_ok {sc ns : List Int} (H : AllOk W gvA ftA) {way : Int} (hw : way = 1 ∨ way = -1 ∨ way = 2 ∨ way = -3) (G : Gd W h₀ 200 ctxL A env ρ (sg4 sc ns way) s) {rest : List Stmt} {Q : Flow → Shared → Prop}
    (h : ∀ ahead, ((way = 1 ∧ ahead = -1) ∨ (way = -1 ∧ ahead = -1) ∨ (way = 2 ∧ ahead = -2) ∨ (way = -3 ∧ ahead = -3)) → ∀ s' ρ', MV W h₀ ρ (sg4 sc ns way) s ρ' (sg5 sc ns way ahead) s' → wpAny (model W.prog W.w) A (execs rest env) Q E s') : wpAny (model W.prog W.w) A (execs (stN 5 :: rest) env) Q E s := by
  refine wpAny_execs_cons ?_
  rcases hw with rfl | rfl | rfl | rfl
  · refine stF_ok H (fns_ok H 199) (r5a sc ns) G fun f s' ρ' m F => ?_
    cases F
    exact h _ (.inl ⟨rfl, rfl⟩) s' ρ' m
  · refine stF_ok H (fns_ok H 199) (r5b sc ns) G fun f s' ρ' m F => ?_
    cases F
    exact h _ (.inr (.inl ⟨rfl, rfl⟩)) s' ρ' m
  · refine stF_ok H (fns_ok H 199) (r5c sc ns) G fun f s' ρ' m F => ?_
    cases F
    exact h _ (.inr (.inr (.inl ⟨rfl, rfl⟩))) s' ρ' m
  · refine stF_ok H (fns_ok H 199) (r5d sc ns) G fun f s' ρ' m F => ?_
    cases F
    exact h _ (.inr (.inr (.inr ⟨rfl, rfl⟩))) s' ρ' m
end
end
end Mine
end

section
open PySem PySem.Spec PySem.Calls PyProof.Rows PySem.W
set_option Elab.async false
set_option maxRecDepth 100000
set_option maxHeartbeats 1000000
namespace Mine
noncomputable section
noncomputable def stL (way ahead : Int) : St := ⟨[(0, .ns loc0), (2, .cell (some (.int (.c way)))), (3, .cell (some (.int (.c ahead)))), (4, .cell none), (5, .cell none), (6, .cell none), (7, .cell none), (8, .cell none)], 11⟩
noncomputable def runM (way ahead : Int) : Option (AFl × St) := (fns gvA ftA 200).ex ctxL (bodyL.drop 6) (stL way ahead)
end
end Mine
end

section
set_option Elab.async false
set_option maxRecDepth 100000
namespace Mine
theorem run1 : isRet (runM 1 (-1)) = true := by decide +kernel
end Mine
end

section
set_option Elab.async false
set_option maxRecDepth 100000
namespace Mine
theorem run2 : isRet (runM (-1) (-1)) = true := by decide +kernel
end Mine
end

section
set_option Elab.async false
set_option maxRecDepth 100000
namespace Mine
theorem run3 : isRet (runM 2 (-2)) = true := by decide +kernel
end Mine
end

section
set_option Elab.async false
set_option maxRecDepth 100000
namespace Mine
theorem run4 : isRet (runM (-3) (-3)) = true := by decide +kernel
end Mine
end

section
open PySem PySem.Spec PySem.Calls PyProof.Rows PySem.W
set_option Elab.async false
set_option maxRecDepth 100000
set_option maxHeartbeats 1000000
namespace Mine
noncomputable section
section
variable {prog : Program} {w : World} {θ : Nat → Int} {h₀ h : Heap} {ρ : Nat → Addr} {σ σ' : St}
theorem Mono.sub (hn : σ.n ≤ σ'.n) (hl : ∀ i o', σ'.get i = some o' → ∃ o, σ.get i = some o) : Mono h ρ σ h ρ σ' :=
  ⟨hn, fun _ _ => rfl, fun _ _ e _ _ => e, fun b o e u i o' g => by
    obtain ⟨o₁, g₁⟩ := hl i o' g
    exact u i o₁ g₁⟩
theorem Rel.weak (R : Rel prog w θ h₀ ρ σ h) (hn : σ.n = σ'.n) (hl : ∀ i o', σ'.get i = some o' → ∃ o, σ.get i = some o ∧ o'.isNs = o.isNs ∧ ∀ co, OR prog w θ h ρ σ' o co → OR prog w θ h ρ σ' o' co) : Rel prog w θ h₀ ρ σ' h := by
  have M : Mono h ρ σ h ρ σ' := Mono.sub (Nat.le_of_eq hn) fun i o' g => let ⟨o, a, _⟩ := hl i o' g; ⟨o, a⟩
  refine ⟨fun i o' g => ?_, fun i o' g z => ?_, fun i j o₁ o₂ g g' e => ?_, R.base⟩
  · obtain ⟨o, a, _, c⟩ := hl i o' g
    obtain ⟨hi, co, e, r⟩ := R.ob i o a
    exact ⟨hn ▸ hi, co, e, c co (r.mono M)⟩
  · obtain ⟨o, a, b, _⟩ := hl i o' g
    exact R.nw i o a (b ▸ z)
  · obtain ⟨o, a, _⟩ := hl i o₁ g
    obtain ⟨o', a', _⟩ := hl j o₂ g'
    exact R.inj i j o o' a a' e
end
theorem mem_of_look {α : Type} {x : Str} {v : α} : ∀ {l : List (Str × α)}, l.lookup x = some v → (x, v) ∈ l
  | [], h => by cases h
  | (a, b) :: l, h => by
    rw [List.lookup_cons] at h
    cases q : x == a with
    | true =>
      rw [q] at h
      cases h
      rw [beq_iff_eq.mp q]
      exact List.mem_cons_self
    | false =>
      rw [q] at h
      exact List.mem_cons_of_mem _ (mem_of_look h)
theorem look2 (sc ns : List Int) : (loc2 sc ns).lookup ("profile" : Str) = some (profC ns) ∧ (loc2 sc ns).lookup ("a" : Str) = some (n9 ns 0) ∧ (loc2 sc ns).lookup ("b" : Str) = some (n9 ns 1) ∧ (loc2 sc ns).lookup ("c" : Str) = some (n9 ns 2) ∧ (loc2 sc ns).lookup ("d" : Str) = some (n9 ns 3) ∧ (loc2 sc ns).lookup ("e" : Str) = some (n9 ns 4) ∧
    (loc2 sc ns).lookup ("f" : Str) = some (n9 ns 5) ∧ (loc2 sc ns).lookup ("g" : Str) = some (n9 ns 6) ∧ (loc2 sc ns).lookup ("h" : Str) = some (n9 ns 7) ∧ (loc2 sc ns).lookup ("j" : Str) = some (n9 ns 8) := ⟨by kernel_rfl, by kernel_rfl, by kernel_rfl, by kernel_rfl, by kernel_rfl, by kernel_rfl, by kernel_rfl, by kernel_rfl, by kernel_rfl, by kernel_rfl⟩
section
variable {W : Wd} {h₀ : Heap} {k : Nat} {c : Ctx} {A : Around} {env : Env} {ρ ρ' : Nat → Addr} {σ σ' : St} {s s' : Shared} {E : Value → Shared → Prop} {ns sc : List Int}
theorem vr_let {r : Nat} (hr : W.θ r = S9 ns r ns.length) {v : Value} (V : VV W s ρ σ (n9 ns r) v) : VV W s ρ σ (.int (.v r)) v := by
  obtain ⟨t, rfl⟩ := VV.intcI V
  rw [← hr]
  exact .int (.v r) t
theorem vr_row {i : Nat} (h0 : W.θ i = S9 ns i ns.length) (h1 : W.θ (3 + i) = S9 ns (3 + i) ns.length) (h2 : W.θ (6 + i) = S9 ns (6 + i) ns.length) {v : Value} (V : VV W s ρ σ (rowC ns i) v) : VV W s ρ σ (rowOf i (3 + i) (6 + i)) v := by
  unfold rowC at V
  obtain ⟨a, kvs, ep, rfl, ha, hu, hs, D⟩ := VV.dicSI V
  obtain ⟨b0, b1, b2, rfl, y0, y1, y2⟩ := D.cons3
  exact VV.dicS' (kvs := [(ltr 0, b0), (ltr 1, b1), (ltr 2, b2)]) (xs := [("a", .int (.v i)), ("b", .int (.v (3 + i))), ("c", .int (.v (6 + i)))]) ⟨⟨rfl, vr_let h0 y0⟩, ⟨rfl, vr_let h1 y1⟩, ⟨rfl, vr_let h2 y2⟩, trivial⟩ ha hu hs
theorem vr_prof (hθ : ∀ r, r < 9 → W.θ r = S9 ns r ns.length) {v : Value} (V : VV W s ρ σ (profC ns) v) : VV W s ρ σ prof v := by
  unfold profC at V
  obtain ⟨a, kvs, ep, rfl, ha, hu, hs, D⟩ := VV.dicSI V
  obtain ⟨b0, b1, b2, rfl, y0, y1, y2⟩ := D.cons3
  exact VV.dicS' (kvs := [(ltr 0, b0), (ltr 1, b1), (ltr 2, b2)]) (xs := [("a", rowOf 0 3 6), ("b", rowOf 1 4 7), ("c", rowOf 2 5 8)]) ⟨⟨rfl, vr_row (hθ _ (by decide)) (hθ _ (by decide)) (hθ _ (by decide)) y0⟩, ⟨rfl, vr_row (hθ _ (by decide)) (hθ _ (by decide)) (hθ _ (by decide)) y1⟩, ⟨rfl, vr_row (hθ _ (by decide)) (hθ _ (by decide)) (hθ _ (by decide)) y2⟩, trivial⟩ ha hu hs
theorem weak5 (hθ : ∀ r, r < 9 → W.θ r = S9 ns r ns.length) {way ahead : Int} (G : Gd W h₀ k ctxL A env ρ (sg5 sc ns way ahead) s) : Gd W h₀ k ctxL A env ρ (stL way ahead) s := by
  refine { G with rel := G.rel.weak rfl fun i o' g => ?_, lidlt := by show 0 < 11; decide, cells := fun x i e => ?_ }
  · have hi : i < 9 := by
      by_cases hi : i < 9
      · exact hi
      · exfalso
        have : (stL way ahead).get i = none := by
          unfold St.get stL
          simp only [oGet_cons]
          rw [if_neg (by omega), if_neg (by omega), if_neg (by omega), if_neg (by omega), if_neg (by omega), if_neg (by omega), if_neg (by omega), if_neg (by omega)]
          rfl
        rw [this] at g; first | exact no g | cases g
    match i, hi with
    | 0, _ =>
      cases g
      refine ⟨.ns (loc2 sc ns), rfl, rfl, fun co r => ?_⟩
      cases r with
      | ns hd hk hl =>
        refine .ns hd hk fun x y e => ?_
        obtain ⟨lp, la, lb, lc, ld, le, lf, lg, lh, lj⟩ := look2 sc ns
        have hm := mem_of_look e
        simp only [loc0, List.mem_cons, Prod.mk.injEq, List.not_mem_nil, or_false] at hm
        rcases hm with ⟨rfl, rfl⟩ | ⟨rfl, rfl⟩ | ⟨rfl, rfl⟩ | ⟨rfl, rfl⟩ | ⟨rfl, rfl⟩ | ⟨rfl, rfl⟩ | ⟨rfl, rfl⟩ | ⟨rfl, rfl⟩ | ⟨rfl, rfl⟩ | ⟨rfl, rfl⟩
        · obtain ⟨v, hv, V⟩ := hl _ _ lp
          exact ⟨v, hv, vr_prof hθ V⟩
        · obtain ⟨v, hv, V⟩ := hl _ _ la
          exact ⟨v, hv, vr_let (hθ _ (by decide)) V⟩
        · obtain ⟨v, hv, V⟩ := hl _ _ lb
          exact ⟨v, hv, vr_let (hθ _ (by decide)) V⟩
        · obtain ⟨v, hv, V⟩ := hl _ _ lc
          exact ⟨v, hv, vr_let (hθ _ (by decide)) V⟩
        · obtain ⟨v, hv, V⟩ := hl _ _ ld
          exact ⟨v, hv, vr_let (hθ _ (by decide)) V⟩
        · obtain ⟨v, hv, V⟩ := hl _ _ le
          exact ⟨v, hv, vr_let (hθ _ (by decide)) V⟩
        · obtain ⟨v, hv, V⟩ := hl _ _ lf
          exact ⟨v, hv, vr_let (hθ _ (by decide)) V⟩
        · obtain ⟨v, hv, V⟩ := hl _ _ lg
          exact ⟨v, hv, vr_let (hθ _ (by decide)) V⟩
        · obtain ⟨v, hv, V⟩ := hl _ _ lh
          exact ⟨v, hv, vr_let (hθ _ (by decide)) V⟩
        · obtain ⟨v, hv, V⟩ := hl _ _ lj
          exact ⟨v, hv, vr_let (hθ _ (by decide)) V⟩
    | 1, _ =>
      cases g
    | 2, _ => cases g; exact ⟨_, rfl, rfl, fun co r => r⟩
    | 3, _ => cases g; exact ⟨_, rfl, rfl, fun co r => r⟩
    | 4, _ => cases g; exact ⟨_, rfl, rfl, fun co r => r⟩
    | 5, _ => cases g; exact ⟨_, rfl, rfl, fun co r => r⟩
    | 6, _ => cases g; exact ⟨_, rfl, rfl, fun co r => r⟩
    | 7, _ => cases g; exact ⟨_, rfl, rfl, fun co r => r⟩
    | 8, _ => cases g; exact ⟨_, rfl, rfl, fun co r => r⟩
  · exact G.cells x i e
end
end
end Mine
end

section
open PySem PySem.Spec PySem.Calls PyProof.Rows PySem.W
set_option Elab.async false
set_option maxRecDepth 100000
set_option maxHeartbeats 1000000
namespace Mine
noncomputable section
/-- heap and tokens alone differ -/
noncomputable def Same (s s' : Shared) : Prop := ∃ h tk, s' = { s with heap := h, toks := tk }
theorem Same.trans {s s' s'' : Shared} (a : Same s s') (b : Same s' s'') : Same s s'' := by
  obtain ⟨h, t, rfl⟩ := a
  obtain ⟨h', t', rfl⟩ := b
  exact ⟨h', t', rfl⟩
section
variable {W : Wd} {h₀ : Heap} {A : Around} {env : Env} {ρ ρ' : Nat → Addr} {s s' : Shared} {E : Value → Shared → Prop} {ns sc : List Int}
theorem isRet_eq {r : Option (AFl × St)} (h : isRet r = true) : ∃ σ, r = some (.ret (.bool true), σ) := by
  unfold isRet at h
  split at h
  · exact ⟨_, rfl⟩
  · first | exact no h | cases h
theorem run_all {way ahead : Int} (h : (way = 1 ∧ ahead = -1) ∨ (way = -1 ∧ ahead = -1) ∨ (way = 2 ∧ ahead = -2) ∨ (way = -3 ∧ ahead = -3)) : isRet (runM way ahead) = true := by
  rcases h with ⟨rfl, rfl⟩ | ⟨rfl, rfl⟩ | ⟨rfl, rfl⟩ | ⟨rfl, rfl⟩
  · exact run1
  · exact run2
  · exact run3
  · exact run4
theorem rest_ok (HW : WOk W) (M : Nm W) (hTh : ThOk W) (hθ : ∀ r, r < 9 → W.θ r = S9 ns r ns.length) (G : Gd W h₀ 200 ctxL A env ρ (sg0 sc ns) s) (h9 : 9 ≤ ns.length) {Q : Flow → Shared → Prop}
    (hQ : ∀ s', Same s s' → (∀ b o, h₀.get? b = some o → s'.heap.get? b = some o) → Q (.ret (.bool true)) s') : wpAny (model W.prog W.w) A (execs (stN 1 :: stN 2 :: stN 3 :: stN 4 :: stN 5 :: bodyL.drop 6) env) Q E s := by
  have H : AllOk W gvA ftA := all_ok HW hTh (p203 HW.K M.isi M.tup) G.kin G.top
  refine s1_ok HW.K M G h9 fun s₁ m₁ => ?_
  have G₁ := G.mv m₁
  refine s2_ok H M G₁ fun s₂ ρ₂ m₂ => ?_
  have G₂ := G₁.mv m₂
  refine s3_ok G₂ h9 fun s₃ m₃ => ?_
  have G₃ := G₂.mv m₃
  refine s4_ok H M G₃ fun way hw s₄ ρ₄ m₄ => ?_
  have G₄ := G₃.mv m₄
  refine s5_ok H hw G₄ fun ahead ha s₅ ρ₅ m₅ => ?_
  have G₅ := weak5 hθ (G₄.mv m₅)
  obtain ⟨σ', hr⟩ := isRet_eq (run_all ha)
  refine (fns_ok H 200).ex h₀ ctxL (bodyL.drop 6) (stL way ahead) _ _ hr A env ρ₅ s₅ G₅ Q E fun f s₆ ρ₆ m₆ F => ?_
  cases F with
  | ret V =>
    rw [VV.boolI V]
    exact hQ s₆ (((((Same.trans m₁.rest m₂.rest).trans m₃.rest).trans m₄.rest).trans m₅.rest).trans m₆.rest) m₆.rel.base
end
end
end Mine
end

section
open PySem PySem.Spec PySem.Calls PyProof.Rows PySem.W
set_option Elab.async false
set_option maxRecDepth 100000
set_option maxHeartbeats 1000000
namespace Mine
noncomputable section
/-! names of the prefix -/
theorem nmK (w : World) : (nsIn (KW w) mainGlobals ("add_callers" : Str) == some (some (.ref 203)) && nsIn (KW w) mainGlobals ("_law_profile" : Str) == some (some (.ref 222))) = true := by kernel_rfl
theorem nmN (w : World) : ((["isinstance", "tuple", "enumerate", "sum", "super"] : List Str).all fun x => nsIn (KW w) mainGlobals x == some none) = true := by kernel_rfl
theorem nmB : (bootBuiltins ("isinstance" : Str) == some (.builtin "isinstance") && bootBuiltins ("tuple" : Str) == some (.type "tuple") && bootBuiltins ("enumerate" : Str) == some (.type "enumerate") && bootBuiltins ("sum" : Str) == some (.builtin "sum") && bootBuiltins ("super" : Str) == some (.type "super")) = true := by kernel_rfl
theorem nm_ok (W : Wd) (hK : W.K = KW W.w) {h₀ : Heap} (X : W.K.In h₀) (T : Top W.p W.loose W.mean W.mg W.mb h₀) : Nm W ∧ (W.mg ("super" : Str) = none ∧ W.mb ("super" : Str) = some (.type "super")) := by
  have X' : (KW W.w).In h₀ := hK ▸ X
  have hk := nmK W.w
  rw [Bool.and_eq_true, beq_iff_eq, beq_iff_eq] at hk
  have hn := List.all_eq_true.mp (nmN W.w)
  have hb := nmB
  simp only [Bool.and_eq_true, beq_iff_eq] at hb
  obtain ⟨⟨⟨⟨b1, b2⟩, b3⟩, b4⟩, b5⟩ := hb
  have no : ∀ x : Str, x ∈ (["isinstance", "tuple", "enumerate", "sum", "super"] : List Str) → W.mg x = none := fun x hx => mg_none_of X' T.g (beq_iff_eq.mp (hn x hx))
  have d : ("isinstance" : Str) ≠ "__name__" ∧ ("tuple" : Str) ≠ "__name__" ∧ ("enumerate" : Str) ≠ "__name__" ∧ ("sum" : Str) ≠ "__name__" ∧ ("super" : Str) ≠ "__name__" := ⟨wk _ _ (by decide +kernel), wk _ _ (by decide +kernel), wk _ _ (by decide +kernel), wk _ _ (by decide +kernel), wk _ _ (by decide +kernel)⟩
  refine ⟨⟨⟨no _ (by simp), (T.builtins _ d.1).trans b1⟩, ⟨no _ (by simp), (T.builtins _ d.2.1).trans b2⟩, mg_of X' T.g hk.1, ⟨no _ (by simp), (T.builtins _ d.2.2.1).trans b3⟩, ⟨no _ (by simp), (T.builtins _ d.2.2.2.1).trans b4⟩, mg_of X' T.g hk.2⟩, no _ (by simp), (T.builtins _ d.2.2.2.2).trans b5⟩
/-! the letters -/
noncomputable def nums (sc : List Int) : List Int := [1, 2, 0, 0, -1, 1, 1, 0, 3] ++ List.map (fun k' => k'.fmod 19 - 9) (List.take 27 sc)
theorem nums_le (sc : List Int) : 9 ≤ (nums sc).length ∧ (nums sc).length ≤ 36 := by
  unfold nums
  rw [List.length_append, List.length_map, List.length_take]
  simp
  omega
theorem nums_abs (sc : List Int) : ∀ x ∈ nums sc, x.natAbs ≤ 9 := by
  intro x hx
  unfold nums at hx
  rcases List.mem_append.mp hx with h | h
  · simp at h
    omega
  · obtain ⟨y, _, rfl⟩ := List.mem_map.mp h
    rw [Int.fmod_eq_emod_of_nonneg _ (by decide)]
    omega
theorem getD_abs {ns : List Int} (h : ∀ x ∈ ns, x.natAbs ≤ 9) (j : Nat) : (ns.getD j 0).natAbs ≤ 9 := by
  rw [List.getD_eq_getElem?_getD]
  cases q : ns[j]? with
  | none => simp
  | some x => exact h x (List.mem_of_getElem? q)
theorem S9_abs {ns : List Int} (h : ∀ x ∈ ns, x.natAbs ≤ 9) (r : Nat) : ∀ j, (S9 ns r j).natAbs ≤ 9 * j
  | 0 => by simp [S9]
  | j + 1 => by
    have := S9_abs h r j
    have := getD_abs h j
    by_cases q : j % 9 = r
    · rw [S9_eq q]; omega
    · rw [S9_ne q]; omega
noncomputable def ctx9 (f : Nat → Int) : Lean.RArray Int := .branch 1 (.leaf (f 0)) (.branch 2 (.leaf (f 1)) (.branch 3 (.leaf (f 2)) (.branch 4 (.leaf (f 3)) (.branch 5 (.leaf (f 4)) (.branch 6 (.leaf (f 5)) (.branch 7 (.leaf (f 6)) (.branch 8 (.leaf (f 7)) (.leaf (f 8)))))))))
theorem ctx9_at (f : Nat → Int) : ∀ r, r < 9 → (ctx9 f).get r = f r
  | 0, _ => rfl | 1, _ => rfl | 2, _ => rfl | 3, _ => rfl | 4, _ => rfl | 5, _ => rfl | 6, _ => rfl | 7, _ => rfl | 8, _ => rfl
  | r + 9, h => by omega
noncomputable def leavesOk (P : Int → Prop) : Lean.RArray Int → Prop
  | .leaf x => P x
  | .branch _ l r => leavesOk P l ∧ leavesOk P r
theorem leaves_get {P : Int → Prop} : ∀ {a : Lean.RArray Int}, leavesOk P a → ∀ i, P (a.get i)
  | .leaf _, h, _ => h
  | .branch p l r, h, i => by
    show P (Bool.rec (l.get i) (r.get i) (p.ble i))
    cases p.ble i with
    | false => exact leaves_get h.1 i
    | true => exact leaves_get h.2 i
theorem ctx9_all {P : Int → Prop} {f : Nat → Int} (h : ∀ r, P (f r)) (i : Nat) : P ((ctx9 f).get i) := leaves_get (a := ctx9 f) ⟨h _, h _, h _, h _, h _, h _, h _, h _, h _⟩ i
noncomputable def WL (w : World) (sc : List Int) (p : Program) (loose : List Str) (mean : ExcName → Option Value) (mg mb : Str → Option Value) : Wd := ⟨PR, w, (ctx9 fun r => S9 (nums sc) r (nums sc).length).get, KW w, p, loose, mean, mg, mb⟩
theorem th_ok (w : World) (sc : List Int) (p : Program) (loose : List Str) (mean : ExcName → Option Value) (mg mb : Str → Option Value) : ThOk (WL w sc p loose mean mg mb) := by
  refine ⟨ctx9 fun r => S9 (nums sc) r (nums sc).length, rfl, fun i => ctx9_all (P := fun x => x.natAbs ≤ lettersB) (fun r => ?_) i⟩
  have h1 := S9_abs (nums_abs sc) r (nums sc).length
  have h2 := (nums_le sc).2
  show _ ≤ 400
  omega
/-! statement 0's end -/
noncomputable def lstO (vs : List Value) : Obj := { cls := .type "list", data := .seq vs.toArray 0 }
noncomputable def PS0 (s₁ : Shared) (sc : List Int) (lst : Addr) (s' : Shared) : Prop :=
  Same s₁ s' ∧ (∀ b o, s₁.heap.get? b = some o → s'.heap.get? b = some o) ∧ (∃ m, s'.heap.Ns s₁.heap.objs.size m ∧ m ("script" : Str) = some (.ref lst)) ∧
  (∃ D ws, s'.heap.IsList D ws.toArray ∧ IntsAre ws (nums sc) ∧ s₁.heap.objs.size + 8 < D ∧ ∃ o, s'.heap.get? (s₁.heap.objs.size + 1) = some o ∧ o.data = .cell (some (.ref D))) ∧
  (∀ i, 2 ≤ i → i < 9 → ∃ o, s'.heap.get? (s₁.heap.objs.size + i) = some o ∧ o.data = .cell none)
theorem cellsL (L : Nat) : (cellsFrom (L + 1) fdL.scope.names []).lookup ("numbers" : Str) = some (L + 1) ∧ (cellsFrom (L + 1) fdL.scope.names []).lookup ("way" : Str) = some (L + 2) ∧ (cellsFrom (L + 1) fdL.scope.names []).lookup ("ahead" : Str) = some (L + 3) ∧ (cellsFrom (L + 1) fdL.scope.names []).lookup ("size" : Str) = some (L + 4) ∧
    (cellsFrom (L + 1) fdL.scope.names []).lookup ("order" : Str) = some (L + 5) ∧ (cellsFrom (L + 1) fdL.scope.names []).lookup ("line" : Str) = some (L + 6) ∧ (cellsFrom (L + 1) fdL.scope.names []).lookup ("rows" : Str) = some (L + 7) ∧ (cellsFrom (L + 1) fdL.scope.names []).lookup ("worth" : Str) = some (L + 8) := ⟨by kernel_rfl, by kernel_rfl, by kernel_rfl, by kernel_rfl, by kernel_rfl, by kernel_rfl, by kernel_rfl, by kernel_rfl⟩
theorem get_ge {h : Heap} {n : Nat} (hn : h.objs.size ≤ n) : h.get? n = none := by
  cases q : h.get? n with
  | none => rfl
  | some o => exact absurd (Heap.lt_size q) (Nat.not_lt.mpr hn)
theorem kindL : fdL.scope.kind = .function := by kernel_rfl
section
variable {w : World} {sc : List Int} {p : Program} {loose : List Str} {mean : ExcName → Option Value} {mg mb : Str → Option Value} {s₁ s' : Shared} {lst : Addr} {vs : List Value} {nm : Str} {fa : Addr} {cd : Value}
theorem gd0 (X : (KW w).In s₁.heap) (T : Top p loose mean mg mb s₁.heap) (big : ∃ o, s₁.heap.get? sysModules = some o) (hl : s₁.heap.IsList lst vs.toArray) (hi : IntsAre vs sc) (hz : sc.length ≤ 63) {A : Around} (hA : A.handled = none ∧ A.depth + 210 < recursionLimit ∧ A.units + 1700 < cLine) (P : PS0 s₁ sc lst s') :
    Gd (WL w sc p loose mean mg mb) s₁.heap 200 ctxL A (envOfC nm fdL.scope s₁.heap.objs.size fa cd) (fun i => s₁.heap.objs.size + i) (sg0 sc (nums sc)) s' := by
  obtain ⟨_, hk, ⟨m, hns, hm⟩, ⟨D, ws, hD, hDi, hDlt, o1, ho1, hd1⟩, hc⟩ := P
  have big' := big
  have un : ∀ a, (a < s₁.heap.objs.size ∨ s₁.heap.objs.size + 8 < a) → Unt (fun i => s₁.heap.objs.size + i) (sg0 sc (nums sc)) a := fun a ha i o g e => by
    have hi : i < 9 := by
      by_cases hi : i < 9
      · exact hi
      · exfalso
        have : (sg0 sc (nums sc)).get i = none := by
          unfold St.get sg0 cs0
          simp only [oGet_cons]
          rw [if_neg (by omega), if_neg (by omega), if_neg (by omega), if_neg (by omega), if_neg (by omega), if_neg (by omega), if_neg (by omega), if_neg (by omega), if_neg (by omega)]
          rfl
        rw [this] at g; first | exact no g | cases g
    have e' : s₁.heap.objs.size + i = a := e
    omega
  have R : Rel PR w (WL w sc p loose mean mg mb).θ s₁.heap (fun i => s₁.heap.objs.size + i) (sg0 sc (nums sc)) s'.heap := by
    refine ⟨fun i o g => ?_, fun i o g z => get_ge (Nat.le_add_right _ _), fun i j o o' g g' e => ?_, hk⟩
    · have cn : ∀ i, 2 ≤ i → i < 9 → ∃ co, s'.heap.get? (s₁.heap.objs.size + i) = some co ∧ OR PR w (WL w sc p loose mean mg mb).θ s'.heap (fun i => s₁.heap.objs.size + i) (sg0 sc (nums sc)) (.cell none) co := fun i h2 h9 => let ⟨o, a, b⟩ := hc i h2 h9; ⟨o, a, .cell0 b⟩
      have hi9 : i < 9 := by
        by_cases hi : i < 9
        · exact hi
        · exfalso
          have : (sg0 sc (nums sc)).get i = none := by
            unfold St.get sg0 cs0
            simp only [oGet_cons]
            rw [if_neg (by omega), if_neg (by omega), if_neg (by omega), if_neg (by omega), if_neg (by omega), if_neg (by omega), if_neg (by omega), if_neg (by omega), if_neg (by omega)]
            rfl
          rw [this] at g; first | exact no g | cases g
      refine ⟨hi9, ?_⟩
      match i, hi9 with
      | 0, _ =>
        cases g
        obtain ⟨o, es, ep, ho, hda, hsk, hf⟩ := hns
        refine ⟨o, ho, .ns hda hsk fun x y e => ?_⟩
        have hmm := mem_of_look e
        simp only [List.mem_cons, Prod.mk.injEq, List.not_mem_nil, or_false] at hmm
        obtain ⟨rfl, rfl⟩ := hmm
        refine ⟨.ref lst, (hf _).trans hm, .nlist (let ⟨ol, a, b⟩ := hl; ⟨ol, hk _ _ a, b⟩) (un _ (.inl (let ⟨ol, a, _⟩ := hl; Heap.lt_size a))) hi (by omega)⟩
      | 1, _ =>
        cases g
        exact ⟨o1, ho1, .cell1 hd1 (.nlist hD (un _ (.inr hDlt)) hDi (by have := (nums_le sc).2; omega))⟩
      | 2, _ => cases g; exact cn 2 (by decide) (by decide)
      | 3, _ => cases g; exact cn 3 (by decide) (by decide)
      | 4, _ => cases g; exact cn 4 (by decide) (by decide)
      | 5, _ => cases g; exact cn 5 (by decide) (by decide)
      | 6, _ => cases g; exact cn 6 (by decide) (by decide)
      | 7, _ => cases g; exact cn 7 (by decide) (by decide)
      | 8, _ => cases g; exact cn 8 (by decide) (by decide)
    · exact Nat.add_left_cancel e
  obtain ⟨h1, h2, h3⟩ := hA
  obtain ⟨c1, c2, c3, c4, c5, c6, c7, c8⟩ := cellsL s₁.heap.objs.size
  refine { rel := R, kin := X, top := T, sc := rfl, kd := kindL, gl := rfl, bl := rfl, loc := rfl, locn := get_ge (Nat.le_add_right _ _), lidlt := by show 0 < 9; decide, cells := fun x i e => ?_, big := big', hand := h1, depth := by omega, units := by omega }
  have hmm := mem_of_look (show cells0.lookup x = some i from e)
  simp only [cells0, List.mem_cons, Prod.mk.injEq, List.not_mem_nil, or_false] at hmm
  rcases hmm with ⟨rfl, rfl⟩ | ⟨rfl, rfl⟩ | ⟨rfl, rfl⟩ | ⟨rfl, rfl⟩ | ⟨rfl, rfl⟩ | ⟨rfl, rfl⟩ | ⟨rfl, rfl⟩ | ⟨rfl, rfl⟩
  · exact ⟨by show 1 < 9; decide, c1⟩
  · exact ⟨by show 2 < 9; decide, c2⟩
  · exact ⟨by show 3 < 9; decide, c3⟩
  · exact ⟨by show 4 < 9; decide, c4⟩
  · exact ⟨by show 5 < 9; decide, c5⟩
  · exact ⟨by show 6 < 9; decide, c6⟩
  · exact ⟨by show 7 < 9; decide, c7⟩
  · exact ⟨by show 8 < 9; decide, c8⟩
end
end
end Mine
end

section
open PySem PySem.Spec PySem.Calls PyProof.Rows PySem.W
set_option Elab.async false
set_option maxRecDepth 100000
set_option maxHeartbeats 1000000
namespace Mine
noncomputable section
theorem bigK (w : World) : ((KW w).lookup sysModules).isSome = true := by kernel_rfl
theorem good_true {c : ClaimW} {cl : Str → Option Addr} {mean : ExcName → Option Value} {args : List WData} {s₁ s' : Shared} (hs : Same s₁ s') (hk : ∀ b o, s₁.heap.get? b = some o → s'.heap.get? b = some o) (hg : s₁.gens = #[]) (hn : ∀ cls, c.raises args cls = false) (hp : c.post args (.bool true) args = true) :
    GoodW c cl mean args s₁ (.ok (.ret (.bool true))) s' := by
  obtain ⟨h, tk, rfl⟩ := hs
  exact ⟨.inl ⟨_, _, _, rfl, hn, .bool true, hp, unshared_nil⟩, hk, rfl, hg⟩
theorem mkPS0 {s₁ : Shared} {sc : List Int} {lst : Addr} {h' : Heap} {tk : Nat} {m : Str → Option Value} {D : Addr} {ws : List Value} {q2 q3 q4 : Addr × Obj} {c1 c2 c3 c4 c5 c6 c7 c8 : Obj} {y1 y2 y3 y4 : Prop}
    (F : Fr s₁.heap s₁.heap.objs.size h' m) (N : News s₁.heap s₁.heap.objs.size h' [(D, PySem.W.listOf ws.toArray 0), q2, q3, q4, (s₁.heap.objs.size + 1 + 1 + 1 + 1 + 1 + 1 + 1 + 1, c8), (s₁.heap.objs.size + 1 + 1 + 1 + 1 + 1 + 1 + 1, c7), (s₁.heap.objs.size + 1 + 1 + 1 + 1 + 1 + 1, c6), (s₁.heap.objs.size + 1 + 1 + 1 + 1 + 1, c5), (s₁.heap.objs.size + 1 + 1 + 1 + 1, c4), (s₁.heap.objs.size + 1 + 1 + 1, c3), (s₁.heap.objs.size + 1 + 1, c2), (s₁.heap.objs.size + 1, c1)])
    (hI : IntsAre ws (nums sc)) (hm : m ("script" : Str) = some (.ref lst)) (l1 : y1 ∧ y2 ∧ y3 ∧ s₁.heap.objs.size + 1 + 1 + 1 + 1 + 1 + 1 + 1 + 1 < D ∧ y4) (d1 : c1.data = .cell (some (.ref D)))
    (d2 : ∃ v, c2.data = .cell v ∧ v = none) (d3 : ∃ v, c3.data = .cell v ∧ v = none) (d4 : ∃ v, c4.data = .cell v ∧ v = none) (d5 : ∃ v, c5.data = .cell v ∧ v = none) (d6 : ∃ v, c6.data = .cell v ∧ v = none) (d7 : ∃ v, c7.data = .cell v ∧ v = none) (d8 : ∃ v, c8.data = .cell v ∧ v = none) :
    PS0 s₁ sc lst { s₁ with heap := h', toks := tk } := by
  refine ⟨⟨_, _, rfl⟩, F.keep, ⟨m, F.ns, hm⟩, ⟨D, ws, ⟨_, (N _ (.head _)).1, rfl, _, rfl⟩, hI, l1.2.2.2.1, c1, (N (s₁.heap.objs.size + 1, c1) (by simp)).1, d1⟩, fun i h2 h9 => ?_⟩
  have k : ∀ {a : Addr} {c : Obj}, h'.get? a = some c → (∃ v, c.data = .cell v ∧ v = none) → ∃ o, h'.get? a = some o ∧ o.data = .cell none := fun {a c} e ⟨v, d, hv⟩ => ⟨c, e, by rw [d, hv]⟩
  match i, h2, h9 with
  | 2, _, _ => exact k (N (s₁.heap.objs.size + 1 + 1, c2) (by simp)).1 d2
  | 3, _, _ => exact k (N (s₁.heap.objs.size + 1 + 1 + 1, c3) (by simp)).1 d3
  | 4, _, _ => exact k (N (s₁.heap.objs.size + 1 + 1 + 1 + 1, c4) (by simp)).1 d4
  | 5, _, _ => exact k (N (s₁.heap.objs.size + 1 + 1 + 1 + 1 + 1, c5) (by simp)).1 d5
  | 6, _, _ => exact k (N (s₁.heap.objs.size + 1 + 1 + 1 + 1 + 1 + 1, c6) (by simp)).1 d6
  | 7, _, _ => exact k (N (s₁.heap.objs.size + 1 + 1 + 1 + 1 + 1 + 1 + 1, c7) (by simp)).1 d7
  | 8, _, _ => exact k (N (s₁.heap.objs.size + 1 + 1 + 1 + 1 + 1 + 1 + 1 + 1, c8) (by simp)).1 d8
  | 0, h2, _ => exact absurd h2 (by decide)
  | 1, h2, _ => exact absurd h2 (by decide)
  | n + 9, _, h9 => exact absurd h9 (Nat.not_lt.mpr (Nat.le_add_left _ _))
theorem law_rest {w : World} {sc : List Int} {p : Program} {loose : List Str} {mean : ExcName → Option Value} {mg mb : Str → Option Value} {s₁ s : Shared} {lst : Addr} {vs : List Value} {nm : Str} {fa : Addr} {cd : Value} {scp : Scope} {st : Stmt} {rest : List Stmt} {Q : Flow → Shared → Prop} {E : Value → Shared → Prop}
    (X : (K39 w.params).In s₁.heap) (T : Top p loose mean mg mb s₁.heap) (hl : s₁.heap.IsList lst vs.toArray) (hi : IntsAre vs sc) (hz : ¬ ((63 : Nat) : Int) < (sc.length : Int)) (hsc : scp = fdL.scope) (hr : rest = stN 1 :: stN 2 :: stN 3 :: stN 4 :: stN 5 :: bodyL.drop 6)
    (hQ : ∀ s', Same s₁ s' → (∀ b o, s₁.heap.get? b = some o → s'.heap.get? b = some o) → Q (.ret (.bool true)) s')
    (h0 : wpAny (model PR w) (callerA.deeper (envOfC nm scp s₁.heap.objs.size fa cd)) (exec st (envOfC nm scp s₁.heap.objs.size fa cd)) (fun f s' => f = .next ∧ PS0 s₁ sc lst s') E s) :
    wpAny (model PR w) (callerA.deeper (envOfC nm scp s₁.heap.objs.size fa cd)) (execs (st :: rest) (envOfC nm scp s₁.heap.objs.size fa cd)) Q E s := by
  subst hsc hr
  refine wpAny_execs_cons (wpAny_mono h0 (fun f s' h => ?_) fun _ _ x => x)
  obtain ⟨rfl, P⟩ := h
  have big : ∃ o, s₁.heap.get? sysModules = some o := by
    obtain ⟨o, ho⟩ := Option.isSome_iff_exists.mp (bigK w)
    exact ⟨o, X _ _ ho⟩
  have G := gd0 (nm := nm) (fa := fa) (cd := cd) (A := callerA.deeper (envOfC nm fdL.scope s₁.heap.objs.size fa cd)) X T big hl hi (by omega) ⟨rfl, by show 1 + claimMargin + 1 + 210 < recursionLimit; decide, by show 4 + 3 + 1700 < cLine; decide⟩ P
  obtain ⟨M, hsup⟩ := nm_ok (WL w sc p loose mean mg mb) rfl X T
  have HW : WOk (WL w sc p loose mean mg mb) := ⟨rfl, rfl, hsup⟩
  refine rest_ok (W := WL w sc p loose mean mg mb) (ns := nums sc) HW M (th_ok w sc p loose mean mg mb) (fun r hr => ctx9_at (fun r => S9 (nums sc) r (nums sc).length) r hr) G (nums_le sc).1 fun s'' hs hk => hQ s'' (P.1.trans hs) hk
end
end Mine
end

section
open PySem PySem.W PyProof.Rows
set_option Elab.async false
set_option maxRecDepth 100000
set_option maxHeartbeats 8000000
namespace Mine
theorem law_holds : PySem.Challenge.rw_xg0040_01.Holds := by
  refine holds_law said fun said => ?_
  refine holds_open (q := viewP) (loose := [PySem.Str.ofString "_Accumulator"]) (Xt := fun s => xlAt viewP [] s && recOk (RowW.records (OpenRow.toRowW _)) s) (XP := XL viewP []) (Yf := Hook.obs KH) (Ya := Hook.val KH) (YP := Hook.says KH) (N := 3118) hl (Hook.of KH) (Hook.keeps KH) (fun s e => xl_of s (Bool.and_eq_true_iff.mp e).1) XL.keeps (by rfl) (by rfl) (by rfl) (fun s e => recFacts_of (Bool.and_eq_true_iff.mp e).2) (by rfl) (by first | assumption | decide +kernel) (by decide +kernel) ⟨rfl, rfl, rfl, rfl, rfl, by decide +kernel⟩ ?hw ?hc
  case hw => w_witness2
  case hc =>
    clear said
    delta KH
    k_fill
    intro w s₀ s₁ mg mb G Y fa o pm cd doc dV kV ho hd hcd hD hmg hg args vals as hpre hlay hrd hwl hlo
    have KX := kIn_of Y
    have X := (Ground.X G).1
    have V := (Ground.X G).2
    refine Ground.open G ?_
    intro T B D TE TW
    try (refine guard_noD D (by decide +kernel) ?_; clear D)
    obtain ⟨_, _, M⟩ := bmod_of_top T
    have TA := at_of_top T
    try (obtain ⟨_, _, he, B0⟩ := based_of_top T rfl hmg ho hd; have he' : cd = _ := he; subst he'; clear he)
    clear hmg
    wrow_args hpre hlay hrd hwl hlo
    all_goals (
      first | refine callC_kw (enter_call ?_) | refine enter_call ?_ | refine callC_kw (enter_callW ?_) | refine enter_callW ?_ | w_how
      w_top on
      try refine codeAny_mono ?_ (fun _ _ g => GoodW.toG g)
      have K0 := below_caller (Top.heap T)
      w_call any ho hd hcd hD T F
      clear hd TA
      k_drop
      skip)
    rename Frag.In _ _ => lX
    rename Top _ _ _ _ _ _ => lT
    rename Heap.IsList _ _ _ => lL
    rename IntsAre _ _ => lI
    rename ¬ (_ < _) => lC
    rename Shared.gens _ = #[] => lG
    refine law_rest lX lT lL lI lC (by kernel_rfl) (by kernel_rfl) ?_ ?_
    · intro s' hs hk
      exact good_true hs hk lG (fun _ => rfl) (by with_unfolding_all rfl)
    · clear lC
      (all_goals try k_fold)
      k_steps
      rename Fr _ _ _ _ => lF
      rename News _ _ _ _ => lN
      rename IntsAre _ _ => lJ
      rename (Obj.data _ = Data.cell (some (Value.ref _))) => lD
      rename (_ < _ ∧ _ < _ ∧ _) => lO
      exact mkPS0 lF lN lJ (by with_unfolding_all rfl) lO lD ⟨_, by assumption, by kernel_rfl⟩ ⟨_, by assumption, by kernel_rfl⟩ ⟨_, by assumption, by kernel_rfl⟩ ⟨_, by assumption, by kernel_rfl⟩ ⟨_, by assumption, by kernel_rfl⟩ ⟨_, by assumption, by kernel_rfl⟩ ⟨_, by assumption, by kernel_rfl⟩
end Mine
end

set_option maxRecDepth 100000 in
theorem PySem.Challenge.cw_xg0040_01_holds : PySem.Challenge.rw_xg0040_01.Holds :=
  Mine.law_holds
