import PyProof.Rows.All
import Wide.All
import OpenK.AllK
import Wide.FinOn
import PySem.Challenge.RW_op0200_01
set_option Elab.async false
set_option compiler.extract_closed false
namespace Mine
section -- K0
open PySem PySem.W PyProof.Rows
set_option Elab.async false
set_option maxRecDepth 100000
noncomputable section

/-! the head by hand: the written part of the heap that the text's top leaves (printed by KPrint.lean), the view, the run -/
def fbody : Stmt → List Stmt
  | .FunctionDef _ _ b _ _ _ _ _ _ _ => b
  | .ClassDef _ _ _ b _ _ _ _ _ _ _ => b
  | _ => []
def fparams : Stmt → Arguments
  | .FunctionDef _ a _ _ _ _ _ _ _ _ => a
  | _ => ⟨[], [], none, [], [], none, []⟩
def fscope : Stmt → Scope
  | .FunctionDef _ _ _ _ _ _ s _ _ _ => s
  | _ => default
def fpos : Stmt → Pos
  | .FunctionDef _ _ _ _ _ _ _ _ _ p => p
  | _ => ⟨0, 0, 0, 0⟩
def tS (i : Nat) : Stmt := PySem.Challenge.pw_op0200_01.main.body.getD i (.Pass ⟨0, 0, 0, 0⟩)
def tM (i j : Nat) : Stmt := (fbody (tS i)).getD j (.Pass ⟨0, 0, 0, 0⟩)
noncomputable def KH : Params → Frag :=
fun P =>
  ((nat_lit 2, { cls := Value.none, data := Data.dict #[] }) ::
    (nat_lit 3,
      { cls := Value.type "dict",
        data :=
          Data.dict
            #[{ hash := PyData.keyHash P (Str.ofString "__name__"), key := Value.str (Str.ofString "__name__") 165,
                val := Value.str (Str.ofString "law_op0200_01") 453 },
              { hash := PyData.keyHash P (Str.ofString "__doc__"), key := Value.str (Str.ofString "__doc__") 166,
                val := Value.none },
              { hash := PyData.keyHash P (Str.ofString "__package__"),
                key := Value.str (Str.ofString "__package__") 167, val := Value.none },
              { hash := PyData.keyHash P (Str.ofString "__loader__"), key := Value.str (Str.ofString "__loader__") 168,
                val := Value.builtin "__main__.__loader__#opaque" },
              { hash := PyData.keyHash P (Str.ofString "__spec__"), key := Value.str (Str.ofString "__spec__") 169,
                val := Value.none },
              { hash := PyData.keyHash P (Str.ofString "__annotations__"),
                key := Value.str (Str.ofString "__annotations__") 170, val := Value.ref 6 },
              { hash := PyData.keyHash P (Str.ofString "__builtins__"),
                key := Value.str (Str.ofString "__builtins__") 171, val := Value.ref 4 },
              { hash := PyData.keyHash P (Str.ofString "__file__"), key := Value.str (Str.ofString "__file__") 173,
                val := Value.str (Str.ofString "/claim/cut.py") 172 },
              { hash := PyData.keyHash P (Str.ofString "__cached__"), key := Value.str (Str.ofString "__cached__") 174,
                val := Value.none },
              { hash := PyData.keyHash P (Str.ofString "_wall"), key := Value.str (Str.ofString "_wall") 193,
                val := Value.ref 21 },
              { hash := PyData.keyHash P (Str.ofString "_int2digits"),
                key := Value.str (Str.ofString "_int2digits") 206, val := Value.ref 28 },
              { hash := PyData.keyHash P (Str.ofString "_digits2int"),
                key := Value.str (Str.ofString "_digits2int") 217, val := Value.ref 35 },
              { hash := PyData.keyHash P (Str.ofString "_NODE_OUT"), key := Value.str (Str.ofString "_NODE_OUT") 222,
                val := Value.int (-1) 221 },
              { hash := PyData.keyHash P (Str.ofString "_NODE_DONE"), key := Value.str (Str.ofString "_NODE_DONE") 225,
                val := Value.int (-2) 224 },
              { hash := PyData.keyHash P (Str.ofString "_NodeInfo"), key := Value.str (Str.ofString "_NodeInfo") 262,
                val := Value.ref 54 },
              { hash := PyData.keyHash P (Str.ofString "CycleError"), key := Value.str (Str.ofString "CycleError") 280,
                val := Value.ref 69 },
              { hash := PyData.keyHash P (Str.ofString "TopologicalSorter"),
                key := Value.str (Str.ofString "TopologicalSorter") 399, val := Value.ref 151 },
              { hash := PyData.keyHash P (Str.ofString "heappush"), key := Value.str (Str.ofString "heappush") 409,
                val := Value.ref 162 },
              { hash := PyData.keyHash P (Str.ofString "heappop"), key := Value.str (Str.ofString "heappop") 418,
                val := Value.ref 169 },
              { hash := PyData.keyHash P (Str.ofString "heapify"), key := Value.str (Str.ofString "heapify") 427,
                val := Value.ref 176 },
              { hash := PyData.keyHash P (Str.ofString "_siftdown"), key := Value.str (Str.ofString "_siftdown") 439,
                val := Value.ref 183 },
              { hash := PyData.keyHash P (Str.ofString "_siftup"), key := Value.str (Str.ofString "_siftup") 452,
                val := Value.ref 190 },
              { hash := PyData.keyHash P (Str.ofString "_law_drawn"), key := Value.str (Str.ofString "_law_drawn") 468,
                val := Value.ref 197 },
              { hash := PyData.keyHash P (Str.ofString "_law_bag"), key := Value.str (Str.ofString "_law_bag") 478,
                val := Value.ref 204 },
              { hash := PyData.keyHash P (Str.ofString "_law_due"), key := Value.str (Str.ofString "_law_due") 489,
                val := Value.ref 211 },
              { hash := PyData.keyHash P (Str.ofString "_law_digits"),
                key := Value.str (Str.ofString "_law_digits") 501, val := Value.ref 218 },
              { hash := PyData.keyHash P (Str.ofString "law"), key := Value.str (Str.ofString "law") 507,
                val := Value.ref 223 }]
            27 }) ::
    (nat_lit 15, { cls := Value.type "tuple", data := Data.seq #[] }) ::
    (nat_lit 17, { cls := Value.type "tuple", data := Data.seq #[Value.str (Str.ofString "k") 190] }) ::
    (nat_lit 18, { cls := Value.type "tuple", data := Data.seq #[] }) ::
    (nat_lit 20,
      { cls := Value.type "code",
        data :=
          Data.fields
            #[Value.str (Str.ofString "_wall") 187, Value.str (Str.ofString "_wall") 188,
              Value.str (Str.ofString "/claim/cut.py") 189, Value.int 1 0, Value.int 1 0, Value.int 0 0, Value.int 0 0,
              Value.int 3 0, Value.ref 15, Value.bool true, Value.int 181 0, Value.ref 16, Value.none, Value.ref 17,
              Value.ref 18, Value.ref 19, Value.int 191 0, Value.int 1 0,
              Value.str (Str.ofString "/claim/cut.py") 192] }) ::
    (nat_lit 21,
      { cls := Value.type "function",
        data :=
          Data.func
            { name := Str.ofString "_wall", qualname := Str.ofString "_wall", params := fparams (tS 0),
              body := FuncBody.stmts (fbody (tS 0)), scope := fscope (tS 0), globals := 3, closure := [],
              defaults := Value.none, kwdefaults := Value.none, pyModule := Value.str (Str.ofString "__main__") 164,
              code := Value.ref 20 } }) ::
    (nat_lit 22, { cls := Value.type "tuple", data := Data.seq #[] }) ::
    (nat_lit 24,
      { cls := Value.type "tuple",
        data := Data.seq #[Value.str (Str.ofString "a") 199, Value.str (Str.ofString "n") 200] }) ::
    (nat_lit 25,
      { cls := Value.type "tuple",
        data :=
          Data.seq
            #[Value.str (Str.ofString "n") 201, Value.str (Str.ofString "a_digits") 202,
              Value.str (Str.ofString "inner") 203] }) ::
    (nat_lit 27,
      { cls := Value.type "code",
        data :=
          Data.fields
            #[Value.str (Str.ofString "_int2digits") 196, Value.str (Str.ofString "_int2digits") 197,
              Value.str (Str.ofString "/claim/cut.py") 198, Value.int 5 0, Value.int 2 0, Value.int 0 0, Value.int 0 0,
              Value.int 3 0, Value.ref 22, Value.bool true, Value.int 181 0, Value.ref 23, Value.none, Value.ref 24,
              Value.ref 25, Value.ref 26, Value.int 204 0, Value.int 5 0,
              Value.str (Str.ofString "/claim/cut.py") 205] }) ::
    (nat_lit 28,
      { cls := Value.type "function",
        data :=
          Data.func
            { name := Str.ofString "_int2digits", qualname := Str.ofString "_int2digits",
              params := fparams (tS 2), body := FuncBody.stmts (fbody (tS 2)), scope := fscope (tS 2),
              globals := 3, closure := [], defaults := Value.none, kwdefaults := Value.none,
              pyModule := Value.str (Str.ofString "cpy313._pylong") 194, code := Value.ref 27 } }) ::
    (nat_lit 29, { cls := Value.type "tuple", data := Data.seq #[] }) ::
    (nat_lit 31,
      { cls := Value.type "tuple",
        data := Data.seq #[Value.str (Str.ofString "digits") 210, Value.str (Str.ofString "n") 211] }) ::
    (nat_lit 32,
      { cls := Value.type "tuple",
        data :=
          Data.seq
            #[Value.str (Str.ofString "digits") 212, Value.str (Str.ofString "n") 213,
              Value.str (Str.ofString "inner") 214] }) ::
    (nat_lit 34,
      { cls := Value.type "code",
        data :=
          Data.fields
            #[Value.str (Str.ofString "_digits2int") 207, Value.str (Str.ofString "_digits2int") 208,
              Value.str (Str.ofString "/claim/cut.py") 209, Value.int 21 0, Value.int 2 0, Value.int 0 0, Value.int 0 0,
              Value.int 3 0, Value.ref 29, Value.bool true, Value.int 181 0, Value.ref 30, Value.none, Value.ref 31,
              Value.ref 32, Value.ref 33, Value.int 215 0, Value.int 21 0,
              Value.str (Str.ofString "/claim/cut.py") 216] }) ::
    (nat_lit 35,
      { cls := Value.type "function",
        data :=
          Data.func
            { name := Str.ofString "_digits2int", qualname := Str.ofString "_digits2int",
              params := fparams (tS 3), body := FuncBody.stmts (fbody (tS 3)), scope := fscope (tS 3),
              globals := 3, closure := [], defaults := Value.none, kwdefaults := Value.none,
              pyModule := Value.str (Str.ofString "cpy313._pylong") 194, code := Value.ref 34 } }) ::
    (nat_lit 43,
      { cls := Value.type "tuple",
        data :=
          Data.seq
            #[Value.str (Str.ofString "node") 238, Value.str (Str.ofString "npredecessors") 239,
              Value.str (Str.ofString "successors") 240] }) ::
    (nat_lit 44, { cls := Value.type "tuple", data := Data.seq #[] }) ::
    (nat_lit 46,
      { cls := Value.type "tuple",
        data := Data.seq #[Value.str (Str.ofString "self") 245, Value.str (Str.ofString "node") 246] }) ::
    (nat_lit 47, { cls := Value.type "tuple", data := Data.seq #[] }) ::
    (nat_lit 49,
      { cls := Value.type "code",
        data :=
          Data.fields
            #[Value.str (Str.ofString "__init__") 242, Value.str (Str.ofString "_NodeInfo.__init__") 243,
              Value.str (Str.ofString "/claim/cut.py") 244, Value.int 36 0, Value.int 2 0, Value.int 0 0, Value.int 0 0,
              Value.int 3 0, Value.ref 44, Value.bool true, Value.int 181 0, Value.ref 45, Value.none, Value.ref 46,
              Value.ref 47, Value.ref 48, Value.int 247 0, Value.int 36 0,
              Value.str (Str.ofString "/claim/cut.py") 248] }) ::
    (nat_lit 50,
      { cls := Value.type "function",
        data :=
          Data.func
            { name := Str.ofString "__init__", qualname := Str.ofString "_NodeInfo.__init__",
              params := fparams (tM 7 1), body := FuncBody.stmts (fbody (tM 7 1)),
              scope := fscope (tM 7 1), globals := 3, closure := [], defaults := Value.none,
              kwdefaults := Value.none, pyModule := Value.str (Str.ofString "cpy313.graphlib") 218,
              code := Value.ref 49 } }) ::
    (nat_lit 51,
      { cls := Value.type "tuple",
        data :=
          Data.seq
            #[Value.str (Str.ofString "node") 250, Value.str (Str.ofString "npredecessors") 251,
              Value.str (Str.ofString "successors") 252] }) ::
    (nat_lit 53,
      { cls := Value.type "dict",
        data :=
          Data.dict
            #[{ hash := PyData.keyHash P (Str.ofString "__module__"), key := Value.str (Str.ofString "__module__") 233,
                val := Value.str (Str.ofString "cpy313.graphlib") 218 },
              { hash := PyData.keyHash P (Str.ofString "__firstlineno__"),
                key := Value.str (Str.ofString "__firstlineno__") 237, val := Value.int 33 236 },
              { hash := PyData.keyHash P (Str.ofString "__slots__"), key := Value.str (Str.ofString "__slots__") 241,
                val := Value.ref 43 },
              { hash := PyData.keyHash P (Str.ofString "__init__"), key := Value.str (Str.ofString "__init__") 249,
                val := Value.ref 50 },
              { hash := PyData.keyHash P (Str.ofString "__static_attributes__"),
                key := Value.str (Str.ofString "__static_attributes__") 253, val := Value.ref 51 },
              { hash := PyData.keyHash P (Str.ofString "node"), key := Value.str (Str.ofString "node") 255,
                val := Value.ref 55 },
              { hash := PyData.keyHash P (Str.ofString "npredecessors"),
                key := Value.str (Str.ofString "npredecessors") 257, val := Value.ref 56 },
              { hash := PyData.keyHash P (Str.ofString "successors"), key := Value.str (Str.ofString "successors") 259,
                val := Value.ref 57 },
              { hash := PyData.keyHash P (Str.ofString "__doc__"), key := Value.str (Str.ofString "__doc__") 260,
                val := Value.none }]
            5 }) ::
    (nat_lit 54,
      { cls := Value.type "type",
        data :=
          Data.cls
            { name := Str.ofString "_NodeInfo", bases := [Value.type "object"],
              mro := [Value.ref 54, Value.type "object"], ns := 53, qualname := Str.ofString "_NodeInfo",
              hasDict := false,
              slotNames := [Str.ofString "node", Str.ofString "npredecessors", Str.ofString "successors"] },
        slots :=
          #[none, none, some (Value.str (Str.ofString "_NodeInfo") 226),
            some (Value.str (Str.ofString "_NodeInfo") 234), some (Value.builtin "object.__new__"),
            some (Value.bool false)] }) ::
    (nat_lit 55,
      { cls := Value.type "member_descriptor",
        data :=
          Data.fields
            #[Value.str (Str.ofString "node") 254, Value.ref 54, Value.builtin "proto.slot",
              Value.builtin "proto.slot#set", Value.int 2 0] }) ::
    (nat_lit 56,
      { cls := Value.type "member_descriptor",
        data :=
          Data.fields
            #[Value.str (Str.ofString "npredecessors") 256, Value.ref 54, Value.builtin "proto.slot",
              Value.builtin "proto.slot#set", Value.int 1 0] }) ::
    (nat_lit 57,
      { cls := Value.type "member_descriptor",
        data :=
          Data.fields
            #[Value.str (Str.ofString "successors") 258, Value.ref 54, Value.builtin "proto.slot",
              Value.builtin "proto.slot#set", Value.int 0 0] }) ::
    (nat_lit 60, { cls := Value.type "tuple", data := Data.seq #[Value.type "ValueError"] }) ::
    (nat_lit 67, { cls := Value.type "tuple", data := Data.seq #[] }) ::
    (nat_lit 68,
      { cls := Value.type "dict",
        data :=
          Data.dict
            #[{ hash := PyData.keyHash P (Str.ofString "__module__"), key := Value.str (Str.ofString "__module__") 270,
                val := Value.str (Str.ofString "cpy313.graphlib") 218 },
              { hash := PyData.keyHash P (Str.ofString "__firstlineno__"),
                key := Value.str (Str.ofString "__firstlineno__") 274, val := Value.int 40 273 },
              { hash := PyData.keyHash P (Str.ofString "__static_attributes__"),
                key := Value.str (Str.ofString "__static_attributes__") 275, val := Value.ref 67 },
              { hash := PyData.keyHash P (Str.ofString "__weakref__"),
                key := Value.str (Str.ofString "__weakref__") 277, val := Value.ref 70 },
              { hash := PyData.keyHash P (Str.ofString "__doc__"), key := Value.str (Str.ofString "__doc__") 278,
                val := Value.none }]
            3 }) ::
    (nat_lit 69,
      { cls := Value.type "type",
        data :=
          Data.cls
            { name := Str.ofString "CycleError", bases := [Value.type "ValueError"],
              mro :=
                [Value.ref 69, Value.type "ValueError", Value.type "Exception", Value.type "BaseException",
                  Value.type "object"],
              ns := 68, qualname := Str.ofString "CycleError" },
        slots :=
          #[some (Value.ref 60), none, some (Value.str (Str.ofString "CycleError") 263),
            some (Value.str (Str.ofString "CycleError") 271), some (Value.builtin "ValueError.__new__"),
            some (Value.bool true)] }) ::
    (nat_lit 70,
      { cls := Value.type "getset_descriptor",
        data :=
          Data.fields
            #[Value.str (Str.ofString "__weakref__") 276, Value.ref 69, Value.builtin "ExceptionGroup.__weakref__",
              Value.none] }) ::
    (nat_lit 80, { cls := Value.type "tuple", data := Data.seq #[Value.none] }) ::
    (nat_lit 81, { cls := Value.type "tuple", data := Data.seq #[] }) ::
    (nat_lit 83,
      { cls := Value.type "tuple",
        data :=
          Data.seq
            #[Value.str (Str.ofString "self") 296, Value.str (Str.ofString "graph") 297,
              Value.str (Str.ofString "node") 298, Value.str (Str.ofString "predecessors") 299] }) ::
    (nat_lit 84, { cls := Value.type "tuple", data := Data.seq #[] }) ::
    (nat_lit 86,
      { cls := Value.type "code",
        data :=
          Data.fields
            #[Value.str (Str.ofString "__init__") 293, Value.str (Str.ofString "TopologicalSorter.__init__") 294,
              Value.str (Str.ofString "/claim/cut.py") 295, Value.int 44 0, Value.int 2 0, Value.int 0 0, Value.int 0 0,
              Value.int 3 0, Value.ref 81, Value.bool true, Value.int 181 0, Value.ref 82, Value.none, Value.ref 83,
              Value.ref 84, Value.ref 85, Value.int 300 0, Value.int 44 0,
              Value.str (Str.ofString "/claim/cut.py") 301] }) ::
    (nat_lit 87,
      { cls := Value.type "function",
        data :=
          Data.func
            { name := Str.ofString "__init__", qualname := Str.ofString "TopologicalSorter.__init__",
              params := fparams (tM 9 0), body := FuncBody.stmts (fbody (tM 9 0)),
              scope := fscope (tM 9 0), globals := 3, closure := [], defaults := Value.ref 80,
              kwdefaults := Value.none, pyModule := Value.str (Str.ofString "cpy313.graphlib") 218,
              code := Value.ref 86 } }) ::
    (nat_lit 88, { cls := Value.type "tuple", data := Data.seq #[] }) ::
    (nat_lit 90,
      { cls := Value.type "tuple",
        data :=
          Data.seq
            #[Value.str (Str.ofString "self") 306, Value.str (Str.ofString "node") 307,
              Value.str (Str.ofString "result") 308] }) ::
    (nat_lit 91, { cls := Value.type "tuple", data := Data.seq #[] }) ::
    (nat_lit 93,
      { cls := Value.type "code",
        data :=
          Data.fields
            #[Value.str (Str.ofString "_get_nodeinfo") 303,
              Value.str (Str.ofString "TopologicalSorter._get_nodeinfo") 304,
              Value.str (Str.ofString "/claim/cut.py") 305, Value.int 53 0, Value.int 2 0, Value.int 0 0, Value.int 0 0,
              Value.int 3 0, Value.ref 88, Value.bool true, Value.int 181 0, Value.ref 89, Value.none, Value.ref 90,
              Value.ref 91, Value.ref 92, Value.int 309 0, Value.int 53 0,
              Value.str (Str.ofString "/claim/cut.py") 310] }) ::
    (nat_lit 94,
      { cls := Value.type "function",
        data :=
          Data.func
            { name := Str.ofString "_get_nodeinfo", qualname := Str.ofString "TopologicalSorter._get_nodeinfo",
              params := fparams (tM 9 1),
              body := FuncBody.stmts (fbody (tM 9 1)),
              scope := fscope (tM 9 1), globals := 3, closure := [],
              defaults := Value.none, kwdefaults := Value.none,
              pyModule := Value.str (Str.ofString "cpy313.graphlib") 218, code := Value.ref 93 } }) ::
    (nat_lit 95, { cls := Value.type "tuple", data := Data.seq #[] }) ::
    (nat_lit 97,
      { cls := Value.type "tuple",
        data :=
          Data.seq
            #[Value.str (Str.ofString "self") 315, Value.str (Str.ofString "node") 316,
              Value.str (Str.ofString "predecessors") 317, Value.str (Str.ofString "nodeinfo") 318,
              Value.str (Str.ofString "pred") 319, Value.str (Str.ofString "pred_info") 320] }) ::
    (nat_lit 98, { cls := Value.type "tuple", data := Data.seq #[] }) ::
    (nat_lit 100,
      { cls := Value.type "code",
        data :=
          Data.fields
            #[Value.str (Str.ofString "add") 312, Value.str (Str.ofString "TopologicalSorter.add") 313,
              Value.str (Str.ofString "/claim/cut.py") 314, Value.int 58 0, Value.int 2 0, Value.int 0 0, Value.int 0 0,
              Value.int 7 0, Value.ref 95, Value.bool true, Value.int 181 0, Value.ref 96, Value.none, Value.ref 97,
              Value.ref 98, Value.ref 99, Value.int 321 0, Value.int 58 0,
              Value.str (Str.ofString "/claim/cut.py") 322] }) ::
    (nat_lit 101,
      { cls := Value.type "function",
        data :=
          Data.func
            { name := Str.ofString "add", qualname := Str.ofString "TopologicalSorter.add",
              params := fparams (tM 9 2), body := FuncBody.stmts (fbody (tM 9 2)),
              scope := fscope (tM 9 2), globals := 3, closure := [], defaults := Value.none,
              kwdefaults := Value.none, pyModule := Value.str (Str.ofString "cpy313.graphlib") 218,
              code := Value.ref 100 } }) ::
    (nat_lit 102, { cls := Value.type "tuple", data := Data.seq #[] }) ::
    (nat_lit 105,
      { cls := Value.type "code",
        data :=
          Data.fields
            #[Value.str (Str.ofString "prepare") 324, Value.str (Str.ofString "TopologicalSorter.prepare") 325,
              Value.str (Str.ofString "/claim/cut.py") 326, Value.int 67 0, Value.int 1 0, Value.int 0 0, Value.int 0 0,
              Value.int 3 0, Value.ref 102, Value.bool true, Value.int 181 0, Value.ref 103, Value.none, Value.none,
              Value.none, Value.ref 104, Value.int 327 0, Value.int 67 0,
              Value.str (Str.ofString "/claim/cut.py") 328] }) ::
    (nat_lit 106,
      { cls := Value.type "function",
        data :=
          Data.func
            { name := Str.ofString "prepare", qualname := Str.ofString "TopologicalSorter.prepare",
              params := fparams (tM 9 3), body := FuncBody.stmts (fbody (tM 9 3)),
              scope := fscope (tM 9 3), globals := 3, closure := [], defaults := Value.none,
              kwdefaults := Value.none, pyModule := Value.str (Str.ofString "cpy313.graphlib") 218,
              code := Value.ref 105 } }) ::
    (nat_lit 107, { cls := Value.type "tuple", data := Data.seq #[] }) ::
    (nat_lit 109,
      { cls := Value.type "tuple",
        data :=
          Data.seq
            #[Value.str (Str.ofString "self") 333, Value.str (Str.ofString "result") 334,
              Value.str (Str.ofString "n2i") 335, Value.str (Str.ofString "node") 336] }) ::
    (nat_lit 110, { cls := Value.type "tuple", data := Data.seq #[] }) ::
    (nat_lit 112,
      { cls := Value.type "code",
        data :=
          Data.fields
            #[Value.str (Str.ofString "get_ready") 330, Value.str (Str.ofString "TopologicalSorter.get_ready") 331,
              Value.str (Str.ofString "/claim/cut.py") 332, Value.int 75 0, Value.int 1 0, Value.int 0 0, Value.int 0 0,
              Value.int 3 0, Value.ref 107, Value.bool true, Value.int 181 0, Value.ref 108, Value.none, Value.ref 109,
              Value.ref 110, Value.ref 111, Value.int 337 0, Value.int 75 0,
              Value.str (Str.ofString "/claim/cut.py") 338] }) ::
    (nat_lit 113,
      { cls := Value.type "function",
        data :=
          Data.func
            { name := Str.ofString "get_ready", qualname := Str.ofString "TopologicalSorter.get_ready",
              params := fparams (tM 9 4), body := FuncBody.stmts (fbody (tM 9 4)),
              scope := fscope (tM 9 4), globals := 3, closure := [], defaults := Value.none,
              kwdefaults := Value.none, pyModule := Value.str (Str.ofString "cpy313.graphlib") 218,
              code := Value.ref 112 } }) ::
    (nat_lit 114, { cls := Value.type "tuple", data := Data.seq #[] }) ::
    (nat_lit 116, { cls := Value.type "tuple", data := Data.seq #[Value.str (Str.ofString "self") 343] }) ::
    (nat_lit 117, { cls := Value.type "tuple", data := Data.seq #[] }) ::
    (nat_lit 119,
      { cls := Value.type "code",
        data :=
          Data.fields
            #[Value.str (Str.ofString "is_active") 340, Value.str (Str.ofString "TopologicalSorter.is_active") 341,
              Value.str (Str.ofString "/claim/cut.py") 342, Value.int 86 0, Value.int 1 0, Value.int 0 0, Value.int 0 0,
              Value.int 3 0, Value.ref 114, Value.bool true, Value.int 181 0, Value.ref 115, Value.none, Value.ref 116,
              Value.ref 117, Value.ref 118, Value.int 344 0, Value.int 86 0,
              Value.str (Str.ofString "/claim/cut.py") 345] }) ::
    (nat_lit 120,
      { cls := Value.type "function",
        data :=
          Data.func
            { name := Str.ofString "is_active", qualname := Str.ofString "TopologicalSorter.is_active",
              params := fparams (tM 9 5), body := FuncBody.stmts (fbody (tM 9 5)),
              scope := fscope (tM 9 5), globals := 3, closure := [], defaults := Value.none,
              kwdefaults := Value.none, pyModule := Value.str (Str.ofString "cpy313.graphlib") 218,
              code := Value.ref 119 } }) ::
    (nat_lit 121, { cls := Value.type "tuple", data := Data.seq #[] }) ::
    (nat_lit 123, { cls := Value.type "tuple", data := Data.seq #[Value.str (Str.ofString "self") 350] }) ::
    (nat_lit 124, { cls := Value.type "tuple", data := Data.seq #[] }) ::
    (nat_lit 126,
      { cls := Value.type "code",
        data :=
          Data.fields
            #[Value.str (Str.ofString "__bool__") 347, Value.str (Str.ofString "TopologicalSorter.__bool__") 348,
              Value.str (Str.ofString "/claim/cut.py") 349, Value.int 91 0, Value.int 1 0, Value.int 0 0, Value.int 0 0,
              Value.int 3 0, Value.ref 121, Value.bool true, Value.int 181 0, Value.ref 122, Value.none, Value.ref 123,
              Value.ref 124, Value.ref 125, Value.int 351 0, Value.int 91 0,
              Value.str (Str.ofString "/claim/cut.py") 352] }) ::
    (nat_lit 127,
      { cls := Value.type "function",
        data :=
          Data.func
            { name := Str.ofString "__bool__", qualname := Str.ofString "TopologicalSorter.__bool__",
              params := fparams (tM 9 6), body := FuncBody.stmts (fbody (tM 9 6)),
              scope := fscope (tM 9 6), globals := 3, closure := [], defaults := Value.none,
              kwdefaults := Value.none, pyModule := Value.str (Str.ofString "cpy313.graphlib") 218,
              code := Value.ref 126 } }) ::
    (nat_lit 128, { cls := Value.type "tuple", data := Data.seq #[] }) ::
    (nat_lit 130,
      { cls := Value.type "tuple",
        data :=
          Data.seq
            #[Value.str (Str.ofString "self") 357, Value.str (Str.ofString "nodes") 358,
              Value.str (Str.ofString "n2i") 359, Value.str (Str.ofString "node") 360,
              Value.str (Str.ofString "nodeinfo") 361, Value.str (Str.ofString "stat") 362,
              Value.str (Str.ofString "successor") 363, Value.str (Str.ofString "successor_info") 364] }) ::
    (nat_lit 131, { cls := Value.type "tuple", data := Data.seq #[] }) ::
    (nat_lit 133,
      { cls := Value.type "code",
        data :=
          Data.fields
            #[Value.str (Str.ofString "done") 354, Value.str (Str.ofString "TopologicalSorter.done") 355,
              Value.str (Str.ofString "/claim/cut.py") 356, Value.int 94 0, Value.int 1 0, Value.int 0 0, Value.int 0 0,
              Value.int 7 0, Value.ref 128, Value.bool true, Value.int 181 0, Value.ref 129, Value.none, Value.ref 130,
              Value.ref 131, Value.ref 132, Value.int 365 0, Value.int 94 0,
              Value.str (Str.ofString "/claim/cut.py") 366] }) ::
    (nat_lit 134,
      { cls := Value.type "function",
        data :=
          Data.func
            { name := Str.ofString "done", qualname := Str.ofString "TopologicalSorter.done",
              params := fparams (tM 9 7), body := FuncBody.stmts (fbody (tM 9 7)),
              scope := fscope (tM 9 7), globals := 3, closure := [], defaults := Value.none,
              kwdefaults := Value.none, pyModule := Value.str (Str.ofString "cpy313.graphlib") 218,
              code := Value.ref 133 } }) ::
    (nat_lit 135, { cls := Value.type "tuple", data := Data.seq #[] }) ::
    (nat_lit 137,
      { cls := Value.type "tuple",
        data :=
          Data.seq
            #[Value.str (Str.ofString "self") 371, Value.str (Str.ofString "n2i") 372,
              Value.str (Str.ofString "stack") 373, Value.str (Str.ofString "itstack") 374,
              Value.str (Str.ofString "seen") 375, Value.str (Str.ofString "node2stacki") 376,
              Value.str (Str.ofString "node") 377] }) ::
    (nat_lit 138, { cls := Value.type "tuple", data := Data.seq #[] }) ::
    (nat_lit 140,
      { cls := Value.type "code",
        data :=
          Data.fields
            #[Value.str (Str.ofString "_find_cycle") 368, Value.str (Str.ofString "TopologicalSorter._find_cycle") 369,
              Value.str (Str.ofString "/claim/cut.py") 370, Value.int 117 0, Value.int 1 0, Value.int 0 0,
              Value.int 0 0, Value.int 3 0, Value.ref 135, Value.bool true, Value.int 181 0, Value.ref 136, Value.none,
              Value.ref 137, Value.ref 138, Value.ref 139, Value.int 378 0, Value.int 117 0,
              Value.str (Str.ofString "/claim/cut.py") 379] }) ::
    (nat_lit 141,
      { cls := Value.type "function",
        data :=
          Data.func
            { name := Str.ofString "_find_cycle", qualname := Str.ofString "TopologicalSorter._find_cycle",
              params := fparams (tM 9 8), body := FuncBody.stmts (fbody (tM 9 8)),
              scope := fscope (tM 9 8), globals := 3, closure := [], defaults := Value.none,
              kwdefaults := Value.none, pyModule := Value.str (Str.ofString "cpy313.graphlib") 218,
              code := Value.ref 140 } }) ::
    (nat_lit 142, { cls := Value.type "tuple", data := Data.seq #[] }) ::
    (nat_lit 144, { cls := Value.type "tuple", data := Data.seq #[Value.str (Str.ofString "self") 384] }) ::
    (nat_lit 145, { cls := Value.type "tuple", data := Data.seq #[] }) ::
    (nat_lit 147,
      { cls := Value.type "code",
        data :=
          Data.fields
            #[Value.str (Str.ofString "static_order") 381,
              Value.str (Str.ofString "TopologicalSorter.static_order") 382,
              Value.str (Str.ofString "/claim/cut.py") 383, Value.int 146 0, Value.int 1 0, Value.int 0 0,
              Value.int 0 0, Value.int 3 0, Value.ref 142, Value.bool true, Value.int 181 0, Value.ref 143, Value.none,
              Value.ref 144, Value.ref 145, Value.ref 146, Value.int 385 0, Value.int 146 0,
              Value.str (Str.ofString "/claim/cut.py") 386] }) ::
    (nat_lit 148,
      { cls := Value.type "function",
        data :=
          Data.func
            { name := Str.ofString "static_order", qualname := Str.ofString "TopologicalSorter.static_order",
              params := fparams (tM 9 9),
              body := FuncBody.stmts (fbody (tM 9 9)), scope := fscope (tM 9 9),
              globals := 3, closure := [], defaults := Value.none, kwdefaults := Value.none,
              pyModule := Value.str (Str.ofString "cpy313.graphlib") 218, code := Value.ref 147 } }) ::
    (nat_lit 149,
      { cls := Value.type "tuple",
        data :=
          Data.seq
            #[Value.str (Str.ofString "_nfinished") 388, Value.str (Str.ofString "_node2info") 389,
              Value.str (Str.ofString "_npassedout") 390, Value.str (Str.ofString "_ready_nodes") 391] }) ::
    (nat_lit 150,
      { cls := Value.type "dict",
        data :=
          Data.dict
            #[{ hash := PyData.keyHash P (Str.ofString "__module__"), key := Value.str (Str.ofString "__module__") 288,
                val := Value.str (Str.ofString "cpy313.graphlib") 218 },
              { hash := PyData.keyHash P (Str.ofString "__firstlineno__"),
                key := Value.str (Str.ofString "__firstlineno__") 292, val := Value.int 42 291 },
              { hash := PyData.keyHash P (Str.ofString "__init__"), key := Value.str (Str.ofString "__init__") 302,
                val := Value.ref 87 },
              { hash := PyData.keyHash P (Str.ofString "_get_nodeinfo"),
                key := Value.str (Str.ofString "_get_nodeinfo") 311, val := Value.ref 94 },
              { hash := PyData.keyHash P (Str.ofString "add"), key := Value.str (Str.ofString "add") 323,
                val := Value.ref 101 },
              { hash := PyData.keyHash P (Str.ofString "prepare"), key := Value.str (Str.ofString "prepare") 329,
                val := Value.ref 106 },
              { hash := PyData.keyHash P (Str.ofString "get_ready"), key := Value.str (Str.ofString "get_ready") 339,
                val := Value.ref 113 },
              { hash := PyData.keyHash P (Str.ofString "is_active"), key := Value.str (Str.ofString "is_active") 346,
                val := Value.ref 120 },
              { hash := PyData.keyHash P (Str.ofString "__bool__"), key := Value.str (Str.ofString "__bool__") 353,
                val := Value.ref 127 },
              { hash := PyData.keyHash P (Str.ofString "done"), key := Value.str (Str.ofString "done") 367,
                val := Value.ref 134 },
              { hash := PyData.keyHash P (Str.ofString "_find_cycle"),
                key := Value.str (Str.ofString "_find_cycle") 380, val := Value.ref 141 },
              { hash := PyData.keyHash P (Str.ofString "static_order"),
                key := Value.str (Str.ofString "static_order") 387, val := Value.ref 148 },
              { hash := PyData.keyHash P (Str.ofString "__static_attributes__"),
                key := Value.str (Str.ofString "__static_attributes__") 392, val := Value.ref 149 },
              { hash := PyData.keyHash P (Str.ofString "__dict__"), key := Value.str (Str.ofString "__dict__") 394,
                val := Value.ref 152 },
              { hash := PyData.keyHash P (Str.ofString "__weakref__"),
                key := Value.str (Str.ofString "__weakref__") 396, val := Value.ref 153 },
              { hash := PyData.keyHash P (Str.ofString "__doc__"), key := Value.str (Str.ofString "__doc__") 397,
                val := Value.none }]
            4 }) ::
    (nat_lit 151,
      { cls := Value.type "type",
        data :=
          Data.cls
            { name := Str.ofString "TopologicalSorter", bases := [Value.type "object"],
              mro := [Value.ref 151, Value.type "object"], ns := 150, qualname := Str.ofString "TopologicalSorter" },
        slots :=
          #[none, none, some (Value.str (Str.ofString "TopologicalSorter") 281),
            some (Value.str (Str.ofString "TopologicalSorter") 289), some (Value.builtin "object.__new__"),
            some (Value.bool true)] }) ::
    (nat_lit 152,
      { cls := Value.type "getset_descriptor",
        data :=
          Data.fields
            #[Value.str (Str.ofString "__dict__") 393, Value.ref 151, Value.builtin "function.__dict__",
              Value.builtin "function.__dict__#set"] }) ::
    (nat_lit 153,
      { cls := Value.type "getset_descriptor",
        data :=
          Data.fields
            #[Value.str (Str.ofString "__weakref__") 395, Value.ref 151, Value.builtin "ExceptionGroup.__weakref__",
              Value.none] }) ::
    (nat_lit 156, { cls := Value.type "tuple", data := Data.seq #[] }) ::
    (nat_lit 158,
      { cls := Value.type "tuple",
        data := Data.seq #[Value.str (Str.ofString "heap") 405, Value.str (Str.ofString "item") 406] }) ::
    (nat_lit 159, { cls := Value.type "tuple", data := Data.seq #[] }) ::
    (nat_lit 161,
      { cls := Value.type "code",
        data :=
          Data.fields
            #[Value.str (Str.ofString "heappush") 402, Value.str (Str.ofString "heappush") 403,
              Value.str (Str.ofString "/claim/cut.py") 404, Value.int 149 0, Value.int 2 0, Value.int 0 0,
              Value.int 0 0, Value.int 3 0, Value.ref 156, Value.bool true, Value.int 181 0, Value.ref 157, Value.none,
              Value.ref 158, Value.ref 159, Value.ref 160, Value.int 407 0, Value.int 149 0,
              Value.str (Str.ofString "/claim/cut.py") 408] }) ::
    (nat_lit 162,
      { cls := Value.type "function",
        data :=
          Data.func
            { name := Str.ofString "heappush", qualname := Str.ofString "heappush", params := fparams (tS 11),
              body := FuncBody.stmts (fbody (tS 11)), scope := fscope (tS 11), globals := 3, closure := [],
              defaults := Value.none, kwdefaults := Value.none, pyModule := Value.str (Str.ofString "cpy313.heapq") 400,
              code := Value.ref 161 } }) ::
    (nat_lit 163, { cls := Value.type "tuple", data := Data.seq #[] }) ::
    (nat_lit 165,
      { cls := Value.type "tuple",
        data :=
          Data.seq
            #[Value.str (Str.ofString "heap") 413, Value.str (Str.ofString "lastelt") 414,
              Value.str (Str.ofString "returnitem") 415] }) ::
    (nat_lit 166, { cls := Value.type "tuple", data := Data.seq #[] }) ::
    (nat_lit 168,
      { cls := Value.type "code",
        data :=
          Data.fields
            #[Value.str (Str.ofString "heappop") 410, Value.str (Str.ofString "heappop") 411,
              Value.str (Str.ofString "/claim/cut.py") 412, Value.int 152 0, Value.int 1 0, Value.int 0 0,
              Value.int 0 0, Value.int 3 0, Value.ref 163, Value.bool true, Value.int 181 0, Value.ref 164, Value.none,
              Value.ref 165, Value.ref 166, Value.ref 167, Value.int 416 0, Value.int 152 0,
              Value.str (Str.ofString "/claim/cut.py") 417] }) ::
    (nat_lit 169,
      { cls := Value.type "function",
        data :=
          Data.func
            { name := Str.ofString "heappop", qualname := Str.ofString "heappop", params := fparams (tS 12),
              body := FuncBody.stmts (fbody (tS 12)), scope := fscope (tS 12), globals := 3, closure := [],
              defaults := Value.none, kwdefaults := Value.none, pyModule := Value.str (Str.ofString "cpy313.heapq") 400,
              code := Value.ref 168 } }) ::
    (nat_lit 170, { cls := Value.type "tuple", data := Data.seq #[] }) ::
    (nat_lit 172,
      { cls := Value.type "tuple",
        data :=
          Data.seq
            #[Value.str (Str.ofString "x") 422, Value.str (Str.ofString "n") 423, Value.str (Str.ofString "i") 424] }) ::
    (nat_lit 173, { cls := Value.type "tuple", data := Data.seq #[] }) ::
    (nat_lit 175,
      { cls := Value.type "code",
        data :=
          Data.fields
            #[Value.str (Str.ofString "heapify") 419, Value.str (Str.ofString "heapify") 420,
              Value.str (Str.ofString "/claim/cut.py") 421, Value.int 160 0, Value.int 1 0, Value.int 0 0,
              Value.int 0 0, Value.int 3 0, Value.ref 170, Value.bool true, Value.int 181 0, Value.ref 171, Value.none,
              Value.ref 172, Value.ref 173, Value.ref 174, Value.int 425 0, Value.int 160 0,
              Value.str (Str.ofString "/claim/cut.py") 426] }) ::
    (nat_lit 176,
      { cls := Value.type "function",
        data :=
          Data.func
            { name := Str.ofString "heapify", qualname := Str.ofString "heapify", params := fparams (tS 13),
              body := FuncBody.stmts (fbody (tS 13)), scope := fscope (tS 13), globals := 3, closure := [],
              defaults := Value.none, kwdefaults := Value.none, pyModule := Value.str (Str.ofString "cpy313.heapq") 400,
              code := Value.ref 175 } }) ::
    (nat_lit 177, { cls := Value.type "tuple", data := Data.seq #[] }) ::
    (nat_lit 179,
      { cls := Value.type "tuple",
        data :=
          Data.seq
            #[Value.str (Str.ofString "heap") 431, Value.str (Str.ofString "startpos") 432,
              Value.str (Str.ofString "pos") 433, Value.str (Str.ofString "newitem") 434,
              Value.str (Str.ofString "parentpos") 435, Value.str (Str.ofString "parent") 436] }) ::
    (nat_lit 180, { cls := Value.type "tuple", data := Data.seq #[] }) ::
    (nat_lit 182,
      { cls := Value.type "code",
        data :=
          Data.fields
            #[Value.str (Str.ofString "_siftdown") 428, Value.str (Str.ofString "_siftdown") 429,
              Value.str (Str.ofString "/claim/cut.py") 430, Value.int 164 0, Value.int 3 0, Value.int 0 0,
              Value.int 0 0, Value.int 3 0, Value.ref 177, Value.bool true, Value.int 181 0, Value.ref 178, Value.none,
              Value.ref 179, Value.ref 180, Value.ref 181, Value.int 437 0, Value.int 164 0,
              Value.str (Str.ofString "/claim/cut.py") 438] }) ::
    (nat_lit 183,
      { cls := Value.type "function",
        data :=
          Data.func
            { name := Str.ofString "_siftdown", qualname := Str.ofString "_siftdown", params := fparams (tS 14),
              body := FuncBody.stmts (fbody (tS 14)), scope := fscope (tS 14), globals := 3, closure := [],
              defaults := Value.none, kwdefaults := Value.none, pyModule := Value.str (Str.ofString "cpy313.heapq") 400,
              code := Value.ref 182 } }) ::
    (nat_lit 184, { cls := Value.type "tuple", data := Data.seq #[] }) ::
    (nat_lit 186,
      { cls := Value.type "tuple",
        data :=
          Data.seq
            #[Value.str (Str.ofString "heap") 443, Value.str (Str.ofString "pos") 444,
              Value.str (Str.ofString "endpos") 445, Value.str (Str.ofString "startpos") 446,
              Value.str (Str.ofString "newitem") 447, Value.str (Str.ofString "childpos") 448,
              Value.str (Str.ofString "rightpos") 449] }) ::
    (nat_lit 187, { cls := Value.type "tuple", data := Data.seq #[] }) ::
    (nat_lit 189,
      { cls := Value.type "code",
        data :=
          Data.fields
            #[Value.str (Str.ofString "_siftup") 440, Value.str (Str.ofString "_siftup") 441,
              Value.str (Str.ofString "/claim/cut.py") 442, Value.int 175 0, Value.int 2 0, Value.int 0 0,
              Value.int 0 0, Value.int 3 0, Value.ref 184, Value.bool true, Value.int 181 0, Value.ref 185, Value.none,
              Value.ref 186, Value.ref 187, Value.ref 188, Value.int 450 0, Value.int 175 0,
              Value.str (Str.ofString "/claim/cut.py") 451] }) ::
    (nat_lit 190,
      { cls := Value.type "function",
        data :=
          Data.func
            { name := Str.ofString "_siftup", qualname := Str.ofString "_siftup", params := fparams (tS 15),
              body := FuncBody.stmts (fbody (tS 15)), scope := fscope (tS 15), globals := 3, closure := [],
              defaults := Value.none, kwdefaults := Value.none, pyModule := Value.str (Str.ofString "cpy313.heapq") 400,
              code := Value.ref 189 } }) ::
    (nat_lit 191, { cls := Value.type "tuple", data := Data.seq #[] }) ::
    (nat_lit 193,
      { cls := Value.type "tuple",
        data :=
          Data.seq
            #[Value.str (Str.ofString "script") 458, Value.str (Str.ofString "cells") 459,
              Value.str (Str.ofString "width") 460, Value.str (Str.ofString "sizes") 461,
              Value.str (Str.ofString "cell") 462, Value.str (Str.ofString "rest") 463,
              Value.str (Str.ofString "size") 464, Value.str (Str.ofString "turn") 465] }) ::
    (nat_lit 194, { cls := Value.type "tuple", data := Data.seq #[] }) ::
    (nat_lit 196,
      { cls := Value.type "code",
        data :=
          Data.fields
            #[Value.str (Str.ofString "_law_drawn") 455, Value.str (Str.ofString "_law_drawn") 456,
              Value.str (Str.ofString "/claim/cut.py") 457, Value.int 190 0, Value.int 1 0, Value.int 0 0,
              Value.int 0 0, Value.int 3 0, Value.ref 191, Value.bool true, Value.int 181 0, Value.ref 192, Value.none,
              Value.ref 193, Value.ref 194, Value.ref 195, Value.int 466 0, Value.int 190 0,
              Value.str (Str.ofString "/claim/cut.py") 467] }) ::
    (nat_lit 197,
      { cls := Value.type "function",
        data :=
          Data.func
            { name := Str.ofString "_law_drawn", qualname := Str.ofString "_law_drawn",
              params := fparams (tS 17), body := FuncBody.stmts (fbody (tS 17)), scope := fscope (tS 17),
              globals := 3, closure := [], defaults := Value.none, kwdefaults := Value.none,
              pyModule := Value.str (Str.ofString "law_op0200_01") 453, code := Value.ref 196 } }) ::
    (nat_lit 198, { cls := Value.type "tuple", data := Data.seq #[] }) ::
    (nat_lit 200,
      { cls := Value.type "tuple",
        data :=
          Data.seq
            #[Value.str (Str.ofString "size") 472, Value.str (Str.ofString "width") 473,
              Value.str (Str.ofString "bag") 474, Value.str (Str.ofString "place") 475] }) ::
    (nat_lit 201, { cls := Value.type "tuple", data := Data.seq #[] }) ::
    (nat_lit 203,
      { cls := Value.type "code",
        data :=
          Data.fields
            #[Value.str (Str.ofString "_law_bag") 469, Value.str (Str.ofString "_law_bag") 470,
              Value.str (Str.ofString "/claim/cut.py") 471, Value.int 202 0, Value.int 2 0, Value.int 0 0,
              Value.int 0 0, Value.int 3 0, Value.ref 198, Value.bool true, Value.int 181 0, Value.ref 199, Value.none,
              Value.ref 200, Value.ref 201, Value.ref 202, Value.int 476 0, Value.int 202 0,
              Value.str (Str.ofString "/claim/cut.py") 477] }) ::
    (nat_lit 204,
      { cls := Value.type "function",
        data :=
          Data.func
            { name := Str.ofString "_law_bag", qualname := Str.ofString "_law_bag", params := fparams (tS 18),
              body := FuncBody.stmts (fbody (tS 18)), scope := fscope (tS 18), globals := 3, closure := [],
              defaults := Value.none, kwdefaults := Value.none,
              pyModule := Value.str (Str.ofString "law_op0200_01") 453, code := Value.ref 203 } }) ::
    (nat_lit 205, { cls := Value.type "tuple", data := Data.seq #[] }) ::
    (nat_lit 207,
      { cls := Value.type "tuple",
        data :=
          Data.seq
            #[Value.str (Str.ofString "sizes") 482, Value.str (Str.ofString "width") 483,
              Value.str (Str.ofString "found") 484, Value.str (Str.ofString "waiting") 485,
              Value.str (Str.ofString "size") 486] }) ::
    (nat_lit 208, { cls := Value.type "tuple", data := Data.seq #[] }) ::
    (nat_lit 210,
      { cls := Value.type "code",
        data :=
          Data.fields
            #[Value.str (Str.ofString "_law_due") 479, Value.str (Str.ofString "_law_due") 480,
              Value.str (Str.ofString "/claim/cut.py") 481, Value.int 210 0, Value.int 2 0, Value.int 0 0,
              Value.int 0 0, Value.int 3 0, Value.ref 205, Value.bool true, Value.int 181 0, Value.ref 206, Value.none,
              Value.ref 207, Value.ref 208, Value.ref 209, Value.int 487 0, Value.int 210 0,
              Value.str (Str.ofString "/claim/cut.py") 488] }) ::
    (nat_lit 211,
      { cls := Value.type "function",
        data :=
          Data.func
            { name := Str.ofString "_law_due", qualname := Str.ofString "_law_due", params := fparams (tS 19),
              body := FuncBody.stmts (fbody (tS 19)), scope := fscope (tS 19), globals := 3, closure := [],
              defaults := Value.none, kwdefaults := Value.none,
              pyModule := Value.str (Str.ofString "law_op0200_01") 453, code := Value.ref 210 } }) ::
    (nat_lit 212, { cls := Value.type "tuple", data := Data.seq #[] }) ::
    (nat_lit 214,
      { cls := Value.type "tuple",
        data :=
          Data.seq
            #[Value.str (Str.ofString "word") 493, Value.str (Str.ofString "worths") 494,
              Value.str (Str.ofString "digits") 495, Value.str (Str.ofString "depth") 496,
              Value.str (Str.ofString "piece") 497, Value.str (Str.ofString "sign") 498] }) ::
    (nat_lit 215, { cls := Value.type "tuple", data := Data.seq #[] }) ::
    (nat_lit 217,
      { cls := Value.type "code",
        data :=
          Data.fields
            #[Value.str (Str.ofString "_law_digits") 490, Value.str (Str.ofString "_law_digits") 491,
              Value.str (Str.ofString "/claim/cut.py") 492, Value.int 219 0, Value.int 2 0, Value.int 0 0,
              Value.int 0 0, Value.int 3 0, Value.ref 212, Value.bool true, Value.int 181 0, Value.ref 213, Value.none,
              Value.ref 214, Value.ref 215, Value.ref 216, Value.int 499 0, Value.int 219 0,
              Value.str (Str.ofString "/claim/cut.py") 500] }) ::
    (nat_lit 218,
      { cls := Value.type "function",
        data :=
          Data.func
            { name := Str.ofString "_law_digits", qualname := Str.ofString "_law_digits",
              params := fparams (tS 20), body := FuncBody.stmts (fbody (tS 20)), scope := fscope (tS 20),
              globals := 3, closure := [], defaults := Value.none, kwdefaults := Value.none,
              pyModule := Value.str (Str.ofString "law_op0200_01") 453, code := Value.ref 217 } }) ::
    (nat_lit 219, { cls := Value.type "tuple", data := Data.seq #[] }) ::
    (nat_lit 222,
      { cls := Value.type "code",
        data :=
          Data.fields
            #[Value.str (Str.ofString "law") 502, Value.str (Str.ofString "law") 503,
              Value.str (Str.ofString "/claim/cut.py") 504, Value.int 232 0, Value.int 1 0, Value.int 0 0,
              Value.int 0 0, Value.int 3 0, Value.ref 219, Value.bool true, Value.int 181 0, Value.ref 220, Value.none,
              Value.none, Value.none, Value.ref 221, Value.int 505 0, Value.int 232 0,
              Value.str (Str.ofString "/claim/cut.py") 506] }) ::
    (nat_lit 223,
      { cls := Value.type "function",
        data :=
          Data.func
            { name := Str.ofString "law", qualname := Str.ofString "law", params := fparams (tS 21),
              body := FuncBody.stmts (fbody (tS 21)), scope := fscope (tS 21), globals := 3, closure := [], defaults := Value.none,
              kwdefaults := Value.none, pyModule := Value.str (Str.ofString "law_op0200_01") 453,
              code := Value.ref 222 } }) :: [])

abbrev prg : Program := PySem.Challenge.pw_op0200_01
noncomputable def vw : Program := view prg [0, 2, 3, 5, 6, 7, 8, 9, 11, 12, 13, 14, 15, 17, 18, 19, 20, 21]
noncomputable def adrs : List Addr := (KH { strHash := fun _ => 5, shareClass := fun _ => 0, mergeTok := id, idOf := fun _ => 0, idOfShared := fun _ _ => 0, followText := fun _ => false, idOfImm := fun _ => 0 }).map (·.1)
theorem adrs_ok (P : Params) : adrs = (KH P).map (·.1) := by kernel_rfl
noncomputable abbrev hk : Hook := kmHook KH adrs adrs_ok [30, 23]
noncomputable def seeX (s : Shared) : Bool := xlAt vw [] s && recOk (RowW.records PySem.Challenge.rw_op0200_01.row.toRowW) s
theorem left : LeftO prg vw ["_NodeInfo"] seeX hk.obs hk.val 3040 := by
  intro w
  kernel_rfl
def lawD : DefRec := ⟨"law", fparams (tS 21), fbody (tS 21), fscope (tS 21), fpos (tS 21)⟩
set_option maxHeartbeats 8000000
theorem hd (walk : WalkO vw ["_NodeInfo"] (XL vw []) hk.says PySem.Challenge.rw_op0200_01.row.toRowW lawD [] fun f vs => PySem.call f vs) : PySem.Challenge.rw_op0200_01.Holds := by
  refine holds_law (by kernel_rfl) fun said => ?_
  refine holds_open (q := vw) (loose := ["_NodeInfo"]) (Xt := seeX) (XP := XL vw []) (Yf := Hook.obs hk) (Ya := Hook.val hk) (YP := Hook.says hk) (N := 3040) left (Hook.of hk) (Hook.keeps hk) (fun s e => xl_of s (Bool.and_eq_true_iff.mp e).1) XL.keeps (by kernel_rfl) (by kernel_rfl) (by kernel_rfl) (fun s e => recFacts_of (Bool.and_eq_true_iff.mp e).2) (by kernel_rfl) said (by kernel_rfl) ⟨rfl, rfl, rfl, rfl, rfl, by kernel_rfl⟩ ?hw walk
  case hw => w_witness2
end
end

section -- B1
open PySem
set_option Elab.async false

/-! the logic layer: footprints, regions, the frame bundle -/

noncomputable abbrev Kp (h h' : Heap) : Prop := ∀ b o, h.get? b = some o → h'.get? b = some o

structure Md (X : Addr → Prop) (s s' : Shared) : Prop where
  keep : ∀ b o, ¬ X b → s.heap.get? b = some o → s'.heap.get? b = some o
  dom : ∀ b o, s.heap.get? b = some o → ∃ o', s'.heap.get? b = some o'
  gens : s'.gens = s.gens
  os : s'.os = s.os

noncomputable abbrev NoX : Addr → Prop := fun _ => False

theorem Md.refl {X : Addr → Prop} (s : Shared) : Md X s s := ⟨fun _ _ _ e => e, fun _ o e => ⟨o, e⟩, rfl, rfl⟩
theorem Md.toks {X : Addr → Prop} {s s' : Shared} (m : Md X s s') (t : Nat) : Md X s { s' with toks := t } := ⟨m.keep, m.dom, m.gens, m.os⟩
theorem Md.trans {X Y : Addr → Prop} {s s' s'' : Shared} (m : Md X s s') (n : Md Y s' s'') (h : ∀ b, Y b → X b ∨ s.heap.get? b = none) : Md X s s'' :=
  ⟨fun b o hb e => n.keep b o (fun y => (h b y).elim hb fun z => by rw [e] at z; cases z) (m.keep b o hb e),
   fun b o e => let ⟨_, e'⟩ := m.dom b o e; n.dom b _ e', n.gens.trans m.gens, n.os.trans m.os⟩
theorem Md.wide {X Y : Addr → Prop} {s s' : Shared} (m : Md X s s') (h : ∀ b, X b → Y b ∨ s.heap.get? b = none) : Md Y s s' :=
  (Md.refl s).trans m h
theorem Md.kp {s s' : Shared} (m : Md NoX s s') : Kp s.heap s'.heap := fun b o e => m.keep b o (fun x => x) e
theorem Md.base {X : Addr → Prop} {h₀ : Heap} {s s' : Shared} (m : Md X s s') (k : Kp h₀ s.heap) (hx : ∀ a, X a → h₀.get? a = none) : Kp h₀ s'.heap :=
  fun b o e => m.keep b o (fun x => by rw [hx b x] at e; cases e) (k b o e)
theorem Md.none_of {X : Addr → Prop} {s s' : Shared} (m : Md X s s') {a : Addr} (h : s'.heap.get? a = none) : s.heap.get? a = none := by
  cases e : s.heap.get? a with
  | none => rfl
  | some o => obtain ⟨o', e'⟩ := m.dom a o e; rw [h] at e'; cases e'
theorem Md.same {a : Addr} {s : Shared} {h' : Heap} {t : Nat} (hs : Heap.SameBut a s.heap h') {o : Obj} (ho : h'.get? a = some o) : Md (· = a) s { s with heap := h', toks := t } :=
  ⟨fun b _ hb e => (hs.2 b hb).trans e, fun b o' e => if hb : b = a then ⟨o, hb ▸ ho⟩ else ⟨o', (hs.2 b hb).trans e⟩, rfl, rfl⟩
theorem Md.ext {a : Addr} {s : Shared} {h' : Heap} {t : Nat} (hs : Heap.ExtBut a s.heap h') {o : Obj} (ho : h'.get? a = some o) : Md (· = a) s { s with heap := h', toks := t } :=
  ⟨fun b o hb e => hs b o hb e, fun b o' e => if hb : b = a then ⟨o, hb ▸ ho⟩ else ⟨o', hs b o' hb e⟩, rfl, rfl⟩
theorem Md.of_kp {s : Shared} {h' : Heap} {t : Nat} (k : Kp s.heap h') : Md NoX s { s with heap := h', toks := t } :=
  ⟨fun b o _ e => k b o e, fun b o e => ⟨o, k b o e⟩, rfl, rfl⟩
theorem Md.push {s : Shared} {t : Nat} (o : Obj) : Md NoX s { s with heap := s.heap.push o, toks := t } :=
  .of_kp fun _ _ e => Heap.get?_push_of_some o e

structure Rg where
  foot : Addr → Prop
  holds : Heap → Prop
  stable : ∀ h h', (∀ a o, foot a → h.get? a = some o → h'.get? a = some o) → holds h → holds h'

noncomputable def objR (a : Addr) (P : Obj → Prop) : Rg :=
  ⟨(· = a), fun h => ∃ o, h.get? a = some o ∧ P o, fun _ _ k ⟨o, e, p⟩ => ⟨o, k a o rfl e, p⟩⟩
noncomputable def listR (a : Addr) (xs : List Value) : Rg :=
  ⟨(· = a), fun h => ∃ n, IsL h a xs.toArray n, fun _ _ k ⟨n, e⟩ => ⟨n, k a _ rfl e⟩⟩

noncomputable abbrev Wr (X : Addr → Prop) (s₀ : Shared) (a : Addr) : Prop := X a ∨ s₀.heap.get? a = none

/-- a name of the frame's holds v -/
inductive VarAt (env : Env) (h : Heap) (m : Str → Option Value) (x : Str) (v : Value) : Prop
  | loc (hk : env.kindOf x = some .local) (hd : (x == ("__debug__" : Str)) = false) (hm : m x = some v)
  | cel (c : Addr) (hk : env.kindOf x = some .cell ∨ (env.kindOf x = some .free ∧ (x == ("__classdict__" : Str)) = false)) (hd : (x == ("__debug__" : Str)) = false)
      (hc : env.cells.lookup x = some c) (ho : h.IsCell c (some v))

noncomputable abbrev vf (env : Env) (a : Addr) : Prop := a ∈ env.locals :: env.cells.map (·.2)

structure Fm (h₀ : Heap) (X : Addr → Prop) (s₀ : Shared) (env : Env) (loc : List (Str × Value)) (rs : List Rg) (s : Shared) : Prop where
  mod : Md X s₀ s
  base : Kp h₀ s.heap
  fk : env.scope.kind = .function
  cnd : (env.locals :: env.cells.map (·.2)).Nodup
  lnd : (loc.map (·.1)).Nodup
  ns : ∃ m, s.heap.Ns env.locals m ∧ ∀ p ∈ loc, VarAt env s.heap m p.1 p.2
  lw : s₀.heap.get? env.locals = none
  vd : ∀ a, vf env a → h₀.get? a = none ∧ ∃ o, s.heap.get? a = some o
  rg : ∀ r ∈ rs, r.holds s.heap
  rd : ∀ r ∈ rs, ∀ a, r.foot a → h₀.get? a = none ∧ (∃ o, s.heap.get? a = some o) ∧ ¬ vf env a
  rp : rs.Pairwise fun r q => ∀ a, r.foot a → ¬ q.foot a
  cc : ∀ p ∈ env.cells, ∃ v, s.heap.IsCell p.2 v

theorem cell_keeps {h h' : Heap} {c : Addr} {v : Option Value} (x : h.IsCell c v) (k : ∀ o, h.get? c = some o → h'.get? c = some o) : h'.IsCell c v :=
  let ⟨o, e, p⟩ := x; ⟨o, k o e, p⟩

inductive UpdR (r r' : Rg) : List Rg → List Rg → Prop
  | hit {l : List Rg} : UpdR r r' (r :: l) (r' :: l)
  | skip {q : Rg} {l l' : List Rg} : UpdR r r' l l' → UpdR r r' (q :: l) (q :: l')

theorem UpdR.mem {r r' : Rg} {l l' : List Rg} (u : UpdR r r' l l') : r ∈ l := by
  induction u with
  | hit => exact .head _
  | skip _ ih => exact .tail _ ih
theorem UpdR.mem' {r r' : Rg} {l l' : List Rg} (u : UpdR r r' l l') : ∀ q ∈ l', q = r' ∨ q ∈ l := by
  induction u with
  | hit => intro q hq; rcases List.mem_cons.mp hq with rfl | hq; exact .inl rfl; exact .inr (.tail _ hq)
  | skip _ ih =>
    intro q hq
    rcases List.mem_cons.mp hq with rfl | hq
    · exact .inr (.head _)
    · exact (ih q hq).imp id (.tail _)

inductive UpdL (x : Str) (v : Value) : List (Str × Value) → List (Str × Value) → Prop
  | nil : UpdL x v [] [(x, v)]
  | hit {u : Value} {l : List (Str × Value)} : UpdL x v ((x, u) :: l) ((x, v) :: l)
  | skip {y : Str} {z : Value} {l l' : List (Str × Value)} : y ≠ x → UpdL x v l l' → UpdL x v ((y, z) :: l) ((y, z) :: l')

theorem UpdL.mem {x : Str} {v : Value} {l l' : List (Str × Value)} (u : UpdL x v l l') (nd : (l.map (·.1)).Nodup) :
    (l'.map (·.1)).Nodup ∧ ∀ p ∈ l', p = (x, v) ∨ (p ∈ l ∧ p.1 ≠ x) := by
  induction u with
  | nil => exact ⟨by simp, fun p hp => .inl (List.mem_singleton.mp hp)⟩
  | hit =>
    refine ⟨nd, fun p hp => ?_⟩
    rcases List.mem_cons.mp hp with rfl | hp
    · exact .inl rfl
    · refine .inr ⟨.tail _ hp, fun e => ?_⟩
      rw [List.map_cons, List.nodup_cons] at nd
      exact nd.1 (List.mem_map.mpr ⟨p, hp, e⟩)
  | @skip y z l l' hne u ih =>
    rw [List.map_cons, List.nodup_cons] at nd
    obtain ⟨n2, ih⟩ := ih nd.2
    refine ⟨?_, fun p hp => ?_⟩
    · rw [List.map_cons, List.nodup_cons]
      refine ⟨fun hm => ?_, n2⟩
      obtain ⟨p, hp, e⟩ := List.mem_map.mp hm
      rcases ih p hp with rfl | ⟨hp, _⟩
      · exact hne e.symm
      · exact nd.1 (List.mem_map.mpr ⟨p, hp, e⟩)
    · rcases List.mem_cons.mp hp with rfl | hp
      · exact .inr ⟨.head _, hne⟩
      · exact (ih p hp).imp id fun ⟨a, b⟩ => ⟨.tail _ a, b⟩

section
variable {h₀ : Heap} {X : Addr → Prop} {s₀ s s' : Shared} {env : Env} {loc loc' : List (Str × Value)} {rs rs' : List Rg}

theorem Fm.toks (F : Fm h₀ X s₀ env loc rs s) (t : Nat) : Fm h₀ X s₀ env loc rs { s with toks := t } :=
  ⟨F.mod.toks t, F.base, F.fk, F.cnd, F.lnd, F.ns, F.lw, F.vd, F.rg, F.rd, F.rp, F.cc⟩

theorem VarAt.keeps {h h' : Heap} {m : Str → Option Value} {x : Str} {v : Value} (V : VarAt env h m x v)
    (k : ∀ a o, vf env a → h.get? a = some o → h'.get? a = some o) : VarAt env h' m x v := by
  cases V with
  | loc hk hd hm => exact .loc hk hd hm
  | cel c hk hd hc ho =>
    obtain ⟨o, e, p⟩ := ho
    exact .cel c hk hd hc ⟨o, k c o (.tail _ (List.mem_map.mpr ⟨(x, c), mem_of_lookup hc, rfl⟩)) e, p⟩

theorem ns_keeps {h h' : Heap} {a : Addr} {m : Str → Option Value} (n : h.Ns a m) (k : ∀ o, h.get? a = some o → h'.get? a = some o) : h'.Ns a m := by
  obtain ⟨o, es, ep, e, r⟩ := n
  exact ⟨o, es, ep, k o e, r⟩

/-- the one change rule: region r becomes r' (a call, a write) -/
theorem Fm.change {r r' : Rg} (F : Fm h₀ X s₀ env loc rs s) (u : UpdR r r' rs rs') (m : Md r.foot s s') (hw : ∀ a, r.foot a → Wr X s₀ a)
    (hf : ∀ a, r'.foot a → (r.foot a ∨ s.heap.get? a = none) ∧ ∃ o, s'.heap.get? a = some o) (hh : r'.holds s'.heap) : Fm h₀ X s₀ env loc rs' s' := by
  have hr := u.mem
  have out : ∀ a, vf env a → ¬ r.foot a := fun a v f => (F.rd r hr a f).2.2 v
  have b0 : ∀ a, s.heap.get? a = none → h₀.get? a = none := fun a e => by
    cases q : h₀.get? a with
    | none => rfl
    | some o => rw [F.base a o q] at e; cases e
  refine ⟨F.mod.trans m hw, m.base F.base fun a ha => (F.rd r hr a ha).1, F.fk, F.cnd, F.lnd, ?_, F.lw, ?_, ?_, ?_, ?_, fun p hp => let ⟨v, x⟩ := F.cc p hp; ⟨v, cell_keeps x fun o e => m.keep _ o (out _ (.tail _ (List.mem_map.mpr ⟨p, hp, rfl⟩))) e⟩⟩
  · obtain ⟨mm, n, hv⟩ := F.ns
    exact ⟨mm, ns_keeps n fun o e => m.keep _ o (out _ (.head _)) e, fun p hp => (hv p hp).keeps fun a o v e => m.keep a o (out a v) e⟩
  · intro a v
    obtain ⟨h1, o, e⟩ := F.vd a v
    exact ⟨h1, o, m.keep a o (out a v) e⟩
  · have key : ∀ {l l' : List Rg}, UpdR r r' l l' → (l.Pairwise fun r q => ∀ a, r.foot a → ¬ q.foot a) → (∀ q ∈ l, q.holds s.heap) → ∀ q ∈ l', q.holds s'.heap := by
      intro l l' u
      induction u with
      | hit =>
        intro hp hq q hm
        rcases List.mem_cons.mp hm with rfl | hm
        · exact hh
        · exact q.stable _ _ (fun a o f e => m.keep a o (fun g => (List.pairwise_cons.mp hp).1 q hm a g f) e) (hq q (.tail _ hm))
      | @skip q0 l l' u ih =>
        intro hp hq q hm
        rcases List.mem_cons.mp hm with rfl | hm
        · exact q.stable _ _ (fun a o f e => m.keep a o (fun g => (List.pairwise_cons.mp hp).1 r u.mem a f g) e) (hq q (.head _))
        · exact ih (List.pairwise_cons.mp hp).2 (fun q hm => hq q (.tail _ hm)) q hm
    exact key u F.rp F.rg
  · intro q hq a f
    rcases u.mem' q hq with rfl | hq
    · obtain ⟨h1, o, e⟩ := hf a f
      rcases h1 with h1 | h1
      · exact ⟨(F.rd r hr a h1).1, ⟨o, e⟩, (F.rd r hr a h1).2.2⟩
      · refine ⟨b0 a h1, ⟨o, e⟩, fun v => ?_⟩
        obtain ⟨_, o', e'⟩ := F.vd a v
        rw [h1] at e'; cases e'
    · obtain ⟨h1, ⟨o, e⟩, h3⟩ := F.rd q hq a f
      exact ⟨h1, m.dom a o e, h3⟩
  · have key : ∀ {l l' : List Rg}, UpdR r r' l l' → (∀ q ∈ l, ∀ a, q.foot a → ∃ o, s.heap.get? a = some o) → (l.Pairwise fun r q => ∀ a, r.foot a → ¬ q.foot a) → l'.Pairwise fun r q => ∀ a, r.foot a → ¬ q.foot a := by
      intro l l' u
      induction u with
      | hit =>
        intro hd hp
        refine List.pairwise_cons.mpr ⟨fun q hq a f g => ?_, (List.pairwise_cons.mp hp).2⟩
        rcases (hf a f).1 with h1 | h1
        · exact (List.pairwise_cons.mp hp).1 q hq a h1 g
        · obtain ⟨o, e⟩ := hd q (.tail _ hq) a g
          rw [h1] at e; cases e
      | @skip q0 l l' u ih =>
        intro hd hp
        refine List.pairwise_cons.mpr ⟨fun q hq a f g => ?_, ih (fun q hq => hd q (.tail _ hq)) (List.pairwise_cons.mp hp).2⟩
        rcases u.mem' q hq with rfl | hq
        · rcases (hf a g).1 with h1 | h1
          · exact (List.pairwise_cons.mp hp).1 r u.mem a f h1
          · obtain ⟨o, e⟩ := hd q0 (.head _) a f
            rw [h1] at e; cases e
        · exact (List.pairwise_cons.mp hp).1 q hq a f g
    exact key u (fun q hq a f => (F.rd q hq a f).2.1) F.rp

/-- nothing known changes -/
theorem Fm.keep (F : Fm h₀ X s₀ env loc rs s) (m : Md NoX s s') : Fm h₀ X s₀ env loc rs s' := by
  refine ⟨F.mod.trans m fun _ x => x.elim, fun b o e => m.kp b o (F.base b o e), F.fk, F.cnd, F.lnd, ?_, F.lw, ?_, ?_, ?_, F.rp, fun p hp => let ⟨v, x⟩ := F.cc p hp; ⟨v, cell_keeps x fun o e => m.kp _ o e⟩⟩
  · obtain ⟨mm, n, hv⟩ := F.ns
    exact ⟨mm, ns_keeps n fun o e => m.kp _ o e, fun p hp => (hv p hp).keeps fun a o v e => m.kp a o e⟩
  · intro a v; obtain ⟨h1, o, e⟩ := F.vd a v; exact ⟨h1, o, m.kp a o e⟩
  · intro r hr; exact r.stable _ _ (fun a o _ e => m.kp a o e) (F.rg r hr)
  · intro r hr a f; obtain ⟨h1, ⟨o, e⟩, h3⟩ := F.rd r hr a f; exact ⟨h1, ⟨o, m.kp a o e⟩, h3⟩

/-- a new region out of fresh addresses -/
theorem Fm.add {r : Rg} (F : Fm h₀ X s₀ env loc rs s) (m : Md NoX s s') (hf : ∀ a, r.foot a → s.heap.get? a = none ∧ ∃ o, s'.heap.get? a = some o) (hh : r.holds s'.heap) :
    Fm h₀ X s₀ env loc (r :: rs) s' := by
  have G := F.keep m
  have b0 : ∀ a, s.heap.get? a = none → h₀.get? a = none := fun a e => by
    cases q : h₀.get? a with
    | none => rfl
    | some o => rw [F.base a o q] at e; cases e
  refine ⟨G.mod, G.base, G.fk, G.cnd, G.lnd, G.ns, G.lw, G.vd, ?_, ?_, ?_, G.cc⟩
  · intro q hq; rcases List.mem_cons.mp hq with rfl | hq; exact hh; exact G.rg q hq
  · intro q hq a f
    rcases List.mem_cons.mp hq with rfl | hq
    · refine ⟨b0 a (hf a f).1, (hf a f).2, fun v => ?_⟩
      obtain ⟨_, o', e'⟩ := F.vd a v
      rw [(hf a f).1] at e'; cases e'
    · exact G.rd q hq a f
  · refine List.pairwise_cons.mpr ⟨fun q hq a f g => ?_, G.rp⟩
    obtain ⟨_, ⟨o, e⟩, _⟩ := F.rd q hq a g
    rw [(hf a f).1] at e; cases e

theorem Fm.wr_new (F : Fm h₀ X s₀ env loc rs s) {a : Addr} (e : s.heap.get? a = none) : Wr X s₀ a := .inr (F.mod.none_of e)
theorem get?_size (h : Heap) : h.get? h.objs.size = none := by
  cases e : h.get? h.objs.size with
  | none => rfl
  | some o => exact absurd (Heap.lt_size e) (Nat.lt_irrefl _)

/-- one new object -/
theorem Fm.alloc {o : Obj} {r : Rg} (F : Fm h₀ X s₀ env loc rs s) (t : Nat) (hfree : o.isFreed = false) (hf : ∀ a, r.foot a → a = s.heap.objs.size) (hh : r.holds (s.heap.push o)) :
    Fm h₀ X s₀ env loc (r :: rs) { s with heap := s.heap.push o, toks := t } :=
  F.add (.push o) (fun a f => by rw [hf a f]; exact ⟨get?_size _, o, Heap.get?_push_size _ hfree⟩) hh

theorem Fm.sub (F : Fm h₀ X s₀ env loc rs s) (hs : rs'.Sublist rs) : Fm h₀ X s₀ env loc rs' s :=
  ⟨F.mod, F.base, F.fk, F.cnd, F.lnd, F.ns, F.lw, F.vd, fun r hr => F.rg r (hs.subset hr), fun r hr => F.rd r (hs.subset hr), F.rp.sublist hs, F.cc⟩
theorem Fm.locs (F : Fm h₀ X s₀ env loc rs s) (hl : ∀ p ∈ loc', p ∈ loc) (nd : (loc'.map (·.1)).Nodup) : Fm h₀ X s₀ env loc' rs s :=
  ⟨F.mod, F.base, F.fk, F.cnd, nd, let ⟨m, n, hv⟩ := F.ns; ⟨m, n, fun p hp => hv p (hl p hp)⟩, F.lw, F.vd, F.rg, F.rd, F.rp, F.cc⟩
theorem Fm.locsub (F : Fm h₀ X s₀ env loc rs s) (hl : loc'.Sublist loc) : Fm h₀ X s₀ env loc' rs s :=
  F.locs (fun _ hp => hl.subset hp) (F.lnd.sublist (hl.map _))

theorem Fm.ch1 {a : Addr} {r r' : Rg} (F : Fm h₀ X s₀ env loc rs s) (u : UpdR r r' rs rs') (m : Md (· = a) s s') (hw : Wr X s₀ a) (hh : r'.holds s'.heap)
    (hr : r.foot = (· = a) := by rfl) (hr' : r'.foot = (· = a) := by rfl) : Fm h₀ X s₀ env loc rs' s' := by
  refine F.change u (hr ▸ m) (fun b e => ?_) (fun b e => ?_) hh
  · rw [hr] at e; subst e; exact hw
  · rw [hr'] at e; subst e
    obtain ⟨_, ⟨o, e⟩, _⟩ := F.rd r u.mem b (by rw [hr])
    exact ⟨.inl (by rw [hr]), m.dom b o e⟩
theorem Fm.listE {a : Addr} {xs : List Value} (F : Fm h₀ X s₀ env loc rs s) (hm : listR a xs ∈ rs) : ∃ n, IsL s.heap a xs.toArray n := F.rg _ hm
theorem Fm.list {a : Addr} {xs : List Value} (F : Fm h₀ X s₀ env loc rs s) (hm : listR a xs ∈ rs) : s.heap.IsList a xs.toArray := let ⟨_, e⟩ := F.listE hm; e.isList
theorem Fm.updL {l : Addr} {xs ys : List Value} {n t : Nat} {f : Array Value → Array Value} (F : Fm h₀ X s₀ env loc rs s) (u : UpdR (listR l xs) (listR l ys) rs rs') (hw : Wr X s₀ l) (hl : IsL s.heap l xs.toArray n) (e : f xs.toArray = ys.toArray) :
    Fm h₀ X s₀ env loc rs' { s with heap := s.heap.update l (Obj.mapSeq f), toks := t } := by
  have h1 := hl.update f
  rw [e] at h1
  exact F.ch1 u (.same (Heap.SameBut.update ..) h1) hw ⟨_, h1⟩
theorem Fm.obj {a : Addr} {P : Obj → Prop} (F : Fm h₀ X s₀ env loc rs s) (hm : objR a P ∈ rs) : ∃ o, s.heap.get? a = some o ∧ P o := F.rg _ hm

/-- storing a name -/
theorem Fm.store {x : Str} {v : Value} {h' : Heap} {t : Nat} (F : Fm h₀ X s₀ env loc rs s) (u : UpdL x v loc loc') (hk : env.kindOf x = some .local) (hd : (x == ("__debug__" : Str)) = false)
    (m : Str → Option Value) (hm : s.heap.Ns env.locals m ∧ ∀ p ∈ loc, VarAt env s.heap m p.1 p.2)
    (hn : h'.Ns env.locals (fun y => if y = x then some v else m y)) (hs : Heap.SameBut env.locals s.heap h') : Fm h₀ X s₀ env loc' rs { s with heap := h', toks := t } := by
  have hn' := hn
  obtain ⟨oL, _, _, eL, _⟩ := hn'
  have md : Md (· = env.locals) s { s with heap := h', toks := t } := .same hs eL
  have nL : ∀ c, c ∈ env.cells.map (·.2) → c ≠ env.locals := fun c hc e => (List.nodup_cons.mp F.cnd).1 (e ▸ hc)
  obtain ⟨nd, hl⟩ := u.mem F.lnd
  refine ⟨F.mod.trans md fun b e => .inr (e ▸ F.lw), md.base F.base fun a e => e ▸ (F.vd _ (.head _)).1, F.fk, F.cnd, nd, ?_, F.lw, ?_, ?_, ?_, F.rp, fun p hp => let ⟨v, x⟩ := F.cc p hp; ⟨v, x.sameBut hs (nL _ (List.mem_map.mpr ⟨p, hp, rfl⟩))⟩⟩
  · refine ⟨_, hn, fun p hp => ?_⟩
    rcases hl p hp with rfl | ⟨hp, hne⟩
    · exact .loc hk hd (if_pos rfl)
    · cases hm.2 p hp with
      | loc hk hd hm => exact .loc hk hd ((if_neg hne).trans hm)
      | cel c hk hd hc ho => exact .cel c hk hd hc (ho.sameBut hs (nL c (List.mem_map.mpr ⟨(p.1, c), mem_of_lookup hc, rfl⟩)))
  · intro a v; obtain ⟨h1, o, e⟩ := F.vd a v; exact ⟨h1, md.dom a o e⟩
  · intro r hr
    refine r.stable _ _ (fun a o f e => md.keep a o (fun q => (F.rd r hr a f).2.2 (by rw [q]; exact .head _)) e) (F.rg r hr)
  · intro r hr a f; obtain ⟨h1, ⟨o, e⟩, h3⟩ := F.rd r hr a f; exact ⟨h1, md.dom a o e, h3⟩

/-- storing a cell's name -/
theorem Fm.storeC {x : Str} {v : Value} {h' : Heap} {t : Nat} {c : Addr} (F : Fm h₀ X s₀ env loc rs s) (u : UpdL x v loc loc') (hk : env.kindOf x = some .cell) (hd : (x == ("__debug__" : Str)) = false)
    (hc : env.cells.lookup x = some c) (hw : Wr X s₀ c) (hn : h'.IsCell c (some v)) (hs : Heap.SameBut c s.heap h') : Fm h₀ X s₀ env loc' rs { s with heap := h', toks := t } := by
  have hn' := hn
  obtain ⟨oc, ec, _⟩ := hn'
  have md : Md (· = c) s { s with heap := h', toks := t } := .same hs ec
  have hm := mem_of_lookup hc
  have vc : vf env c := .tail _ (List.mem_map.mpr ⟨(x, c), hm, rfl⟩)
  have nL : env.locals ≠ c := fun e => (List.nodup_cons.mp F.cnd).1 (e ▸ List.mem_map.mpr ⟨(x, c), hm, rfl⟩)
  have inj : ∀ y d, (y, d) ∈ env.cells → y ≠ x → d ≠ c := fun y d hyd hne e => by
    subst e
    refine hne (name_of_addr ?_ hyd hm)
    have := (List.nodup_cons.mp F.cnd).2
    exact (List.pairwise_map.mp this)
  obtain ⟨nd, hl⟩ := u.mem F.lnd
  refine ⟨F.mod.trans md fun b e => e ▸ hw, md.base F.base fun a e => e ▸ (F.vd _ vc).1, F.fk, F.cnd, nd, ?_, F.lw, ?_, ?_, ?_, F.rp, ?_⟩
  · obtain ⟨m, n, hv⟩ := F.ns
    refine ⟨m, n.sameBut hs nL, fun p hp => ?_⟩
    rcases hl p hp with rfl | ⟨hp, hne⟩
    · exact .cel c (.inl hk) hd hc hn
    · cases hv p hp with
      | loc hk hd hm => exact .loc hk hd hm
      | cel d hk hd hc ho => exact .cel d hk hd hc (ho.sameBut hs (inj _ _ (mem_of_lookup hc) hne))
  · intro a v; obtain ⟨h1, o, e⟩ := F.vd a v; exact ⟨h1, md.dom a o e⟩
  · intro r hr
    refine r.stable _ _ (fun a o f e => md.keep a o (fun q => (F.rd r hr a f).2.2 (by rw [q]; exact vc)) e) (F.rg r hr)
  · intro r hr a f; obtain ⟨h1, ⟨o, e⟩, h3⟩ := F.rd r hr a f; exact ⟨h1, md.dom a o e, h3⟩
  · intro p hp
    by_cases e : p.2 = c
    · exact ⟨some v, e ▸ hn⟩
    · obtain ⟨v, y⟩ := F.cc p hp
      exact ⟨v, y.sameBut hs e⟩
end
end

section -- B2
open PySem PyProof
set_option Elab.async false

noncomputable abbrev LocOk (env : Env) (x : Str) : Prop := env.kindOf x = some .local ∧ (x == ("__debug__" : Str)) = false
noncomputable abbrev GlbOk (env : Env) (h₀ : Heap) (x : Str) (v : Value) : Prop :=
  env.kindOf x = some .globalImplicit ∧ (x == ("__debug__" : Str)) = false ∧ ∃ mg, h₀.Ns env.globals mg ∧ (mg x = some v ∨ (mg x = none ∧ ∃ mb, h₀.Ns env.builtins mb ∧ mb x = some v))
/-- what a frame's names are -/
structure Sc (h₀ : Heap) (env : Env) (ls : List Str) (gs : List (Str × Value)) : Prop where
  l : ∀ x ∈ ls, LocOk env x
  g : ∀ p ∈ gs, GlbOk env h₀ p.1 p.2

noncomputable abbrev NoE : Value → Shared → Prop := fun _ _ => False

section
variable {M : Model} {prog : Program} {w : World} {A : Around} {E : Value → Shared → Prop} {h₀ : Heap} {X : Addr → Prop} {s₀ s s' : Shared} {env : Env} {loc loc' : List (Str × Value)} {rs rs' : List Rg}
  {ls : List Str} {gs : List (Str × Value)}

theorem noE {α : Type} {t : Sem α} {Q : α → Shared → Prop} (h : wpAny M A t Q NoE s) : wpAny M A t Q E s := wpAny_mono h (fun _ _ x => x) fun _ _ x => x.elim

theorem ld_var {x : Str} {v : Value} {Q : Value → Shared → Prop} (F : Fm h₀ X s₀ env loc rs s) (hm : (x, v) ∈ loc) (h : Q v s) : wpAny M A (loadName env x) Q E s := by
  obtain ⟨m, n, hv⟩ := F.ns
  cases hv _ hm with
  | loc hk hd hm => exact wpAny_loadName_local F.fk hk n hm h
  | cel c hk hd hc ho =>
    rcases hk with hk | ⟨hk, hcd⟩
    · exact wpAny_loadName_cell F.fk hk hc ho h
    · exact wpAny_loadName_free F.fk hk hc ho h hcd
theorem var_dbg {x : Str} {v : Value} (F : Fm h₀ X s₀ env loc rs s) (hm : (x, v) ∈ loc) : (x == ("__debug__" : Str)) = false := by
  obtain ⟨m, n, hv⟩ := F.ns
  cases hv _ hm with
  | loc hk hd hm => exact hd
  | cel c hk hd hc ho => exact hd
theorem ev_var {x : Str} {v : Value} {pos : Pos} {Q : Value → Shared → Prop} (F : Fm h₀ X s₀ env loc rs s) (hm : (x, v) ∈ loc) (h : Q v s) : wpAny M A (eval (.Name x pos) env) Q E s :=
  wpAny_Name (ld_var F hm h) (var_dbg F hm)
theorem ev_glb {x : Str} {v : Value} {pos : Pos} {Q : Value → Shared → Prop} (F : Fm h₀ X s₀ env loc rs s) (S : Sc h₀ env ls gs) (hm : (x, v) ∈ gs) (h : Q v s) : wpAny M A (eval (.Name x pos) env) Q E s := by
  obtain ⟨hk, hd, mg, ng, hg⟩ := S.g _ hm
  refine Calls.Name_function_global F.fk hk ?_ hd
  rcases hg with hg | ⟨hg, mb, nb, hb⟩
  · exact Calls.loadGlobal_global (ns_keeps ng fun o e => F.base _ o e) hg h
  · exact Calls.loadGlobal_builtin (ns_keeps ng fun o e => F.base _ o e) hg (ns_keeps nb fun o e => F.base _ o e) hb h

theorem st_loc {x : Str} {v : Value} {Q : Unit → Shared → Prop} (F : Fm h₀ X s₀ env loc rs s) (S : Sc h₀ env ls gs) (hx : x ∈ ls) (u : UpdL x v loc loc')
    (h : ∀ s', Fm h₀ X s₀ env loc' rs s' → Q () s') : wpAny M A (storeName env x v) Q E s := by
  obtain ⟨hk, hd⟩ := S.l x hx
  obtain ⟨m, n, hv⟩ := F.ns
  refine wpAny_storeName_local hk n (fun h' hn hs => h _ (F.store u hk hd m ⟨n, hv⟩ hn hs)) ?_
  rw [F.fk]; rfl

/-! tokens -/
theorem tk {i : Int} {Q : Value → Shared → Prop} (F : Fm h₀ X s₀ env loc rs s) (h : ∀ t s', Fm h₀ X s₀ env loc rs s' → Q (.int i t) s') : Q (.int i s.toks) { s with toks := s.toks + 1 } := h _ _ (F.toks _)
theorem tk2 {i : Int} {Q : Value → Shared → Prop} (F : Fm h₀ X s₀ env loc rs s) (h : ∀ t s', Fm h₀ X s₀ env loc rs s' → Q (.int i t) s') : Q (.int i (s.toks + 1)) { s with toks := s.toks + 1 + 1 } := h _ _ (F.toks _)

/-! statements -/
section
variable {rest : List Stmt} {Q : Flow → Shared → Prop}
theorem x_nil (h : Q .next s) : wpAny M A (execs [] env) Q E s := wpAny_execs_nil h
theorem x_assign {x : Str} {pos' : Pos} {value : Expr} {pos : Pos}
    (h : wpAny M A (eval value env) (fun v s₁ => wpAny M A (storeName env x v) (fun _ s₂ => wpAny M A (execs rest env) Q E s₂) E s₁) E s)
    (hs : swapsWith value (some (.Name x pos')) pos.line env = pure false := by with_unfolding_all rfl) :
    wpAny M A (execs (.Assign [.Name x pos'] value pos :: rest) env) Q E s := wpAny_execs_cons (wpAny_Assign_Name h hs)
theorem x_assignSub {o i : Expr} {pos' : Pos} {value : Expr} {pos : Pos}
    (h : wpAny M A (eval value env) (fun v s₁ => wpAny M A (eval o env) (fun ov s₂ => wpAny M A (eval i env) (fun iv s₃ => wpAny M A (setItem ov iv v) (fun _ s₄ => wpAny M A (execs rest env) Q E s₄) E s₃) E s₂) E s₁) E s)
    (hs : swapsWith value (some (.Subscript o i pos')) pos.line env = pure false := by with_unfolding_all rfl) :
    wpAny M A (execs (.Assign [.Subscript o i pos'] value pos :: rest) env) Q E s := wpAny_execs_cons (wpAny_Assign_Subscript h hs)
theorem x_aug {x : Str} {pos' : Pos} {op : Operator} {value : Expr} {pos : Pos}
    (h : wpAny M A (loadName env x) (fun old s₁ => wpAny M A (eval value env) (fun v s₂ => wpAny M A (inplaceOp op old v)
      (fun r s₃ => wpAny M A (storeName env x r) (fun _ s₄ => wpAny M A (execs rest env) Q E s₄) E s₃) E s₂) E s₁) E s) :
    wpAny M A (execs (.AugAssign (.Name x pos') op value pos :: rest) env) Q E s := wpAny_execs_cons (wpAny_AugAssign_Name h)
theorem x_expr {e : Expr} {pos : Pos} (h : wpAny (model prog w) A (eval e env) (fun _ s₁ => wpAny (model prog w) A (execs rest env) Q E s₁) E s)
    (hi : interactive env = false := by with_unfolding_all rfl) (hs : swapsWith e none pos.line env = pure false := by with_unfolding_all rfl) :
    wpAny (model prog w) A (execs (.Expr e pos :: rest) env) Q E s := wpAny_execs_cons (wpAny_Expr_any h hi hs)
/-! several things at once: one predicate in the proof term, where a chain of ∃ would hold one a name -/
inductive E2 {α₁ α₂ : Type} (P : α₁ → α₂ → Prop) : Prop
  | mk (x1 : α₁) (x2 : α₂) (h : P x1 x2) : E2 P
inductive E3 {α₁ α₂ α₃ : Type} (P : α₁ → α₂ → α₃ → Prop) : Prop
  | mk (x1 : α₁) (x2 : α₂) (x3 : α₃) (h : P x1 x2 x3) : E3 P
inductive E4 {α₁ α₂ α₃ α₄ : Type} (P : α₁ → α₂ → α₃ → α₄ → Prop) : Prop
  | mk (x1 : α₁) (x2 : α₂) (x3 : α₃) (x4 : α₄) (h : P x1 x2 x3 x4) : E4 P
inductive E5 {α₁ α₂ α₃ α₄ α₅ : Type} (P : α₁ → α₂ → α₃ → α₄ → α₅ → Prop) : Prop
  | mk (x1 : α₁) (x2 : α₂) (x3 : α₃) (x4 : α₄) (x5 : α₅) (h : P x1 x2 x3 x4 x5) : E5 P
inductive E6 {α₁ α₂ α₃ α₄ α₅ α₆ : Type} (P : α₁ → α₂ → α₃ → α₄ → α₅ → α₆ → Prop) : Prop
  | mk (x1 : α₁) (x2 : α₂) (x3 : α₃) (x4 : α₄) (x5 : α₅) (x6 : α₆) (h : P x1 x2 x3 x4 x5 x6) : E6 P
inductive E7 {α₁ α₂ α₃ α₄ α₅ α₆ α₇ : Type} (P : α₁ → α₂ → α₃ → α₄ → α₅ → α₆ → α₇ → Prop) : Prop
  | mk (x1 : α₁) (x2 : α₂) (x3 : α₃) (x4 : α₄) (x5 : α₅) (x6 : α₆) (x7 : α₇) (h : P x1 x2 x3 x4 x5 x6 x7) : E7 P
inductive E9 {α₁ α₂ α₃ α₄ α₅ α₆ α₇ α₈ α₉ : Type} (P : α₁ → α₂ → α₃ → α₄ → α₅ → α₆ → α₇ → α₈ → α₉ → Prop) : Prop
  | mk (x1 : α₁) (x2 : α₂) (x3 : α₃) (x4 : α₄) (x5 : α₅) (x6 : α₆) (x7 : α₇) (x8 : α₈) (x9 : α₉) (h : P x1 x2 x3 x4 x5 x6 x7 x8 x9) : E9 P
/-! abstract postconditions B, D for the bodies, in place of the written ones: those would be copied at each step -/
inductive Nx : Flow → Prop
  | n : Nx .next
  | c : Nx .cont
inductive Nn : Flow → Prop
  | b : Nn .brk
  | c : Nn .cont
  | r (v : Value) : Nn (.ret v)
abbrev ToN (B : Flow → Shared → Prop) (N : Shared → Prop) : Prop := ∀ f s, Nx f → N s → B f s
abbrev ToF (B : Flow → Shared → Prop) (f : Flow) (K : Shared → Prop) : Prop := ∀ s, K s → B f s
abbrev ToR (B : Flow → Shared → Prop) (R : Value → Shared → Prop) : Prop := ∀ v s, R v s → B (.ret v) s
abbrev ToQ (B Q : Flow → Shared → Prop) : Prop := ∀ f s, Nn f → Q f s → B f s
def WithL (N K : Shared → Prop) (R : Value → Shared → Prop) (G : (Flow → Shared → Prop) → Prop) : Prop := ∀ B, ToN B N → ToF B .brk K → ToR B R → G B
def WithE (K : Shared → Prop) (Q : Flow → Shared → Prop) (G : (Flow → Shared → Prop) → Prop) : Prop := ∀ B, ToF B .next K → ToQ B Q → G B
theorem WithL.in {N K : Shared → Prop} {R : Value → Shared → Prop} {G : (Flow → Shared → Prop) → Prop} (h : ∀ B, ToN B N → ToF B .brk K → ToR B R → G B) : WithL N K R G := h
theorem WithE.in {K : Shared → Prop} {Q : Flow → Shared → Prop} {G : (Flow → Shared → Prop) → Prop} (h : ∀ B, ToF B .next K → ToQ B Q → G B) : WithE K Q G := h
theorem WithL.use {N K : Shared → Prop} {R : Value → Shared → Prop} {G : (Flow → Shared → Prop) → Prop} (h : WithL N K R G) :
    G (fun f s => match f with | .next | .cont => N s | .brk => K s | .ret v => R v s) := h _ (fun f s hf x => by cases hf <;> exact x) (fun _ x => x) fun _ _ x => x
theorem WithE.use {K : Shared → Prop} {Q : Flow → Shared → Prop} {G : (Flow → Shared → Prop) → Prop} (h : WithE K Q G) :
    G (fun f s => match f with | .next => K s | f => Q f s) := h _ (fun _ x => x) fun f s hf x => by cases hf <;> exact x
theorem x_if {test : Expr} {body orelse : List Stmt} {pos : Pos}
    (h : WithE (fun s' => wpAny M A (execs rest env) Q E s') Q fun B => wpAny M A (isTrue test env (eval test env)) (fun b s₂ => if b then wpAny M A (execs body env) B E s₂ else wpAny M A (execs orelse env) B E s₂) E s) :
    wpAny M A (execs (.If test body orelse pos :: rest) env) Q E s := wpAny_execs_cons (wpAny_If h.use)
/-- an if whose ways meet -/
theorem x_ifJ {test : Expr} {body orelse : List Stmt} {pos : Pos} (J : Shared → Prop)
    (h : WithE J Q fun B => wpAny M A (isTrue test env (eval test env)) (fun b s₂ => if b then wpAny M A (execs body env) B E s₂ else wpAny M A (execs orelse env) B E s₂) E s) (hJ : ∀ s', J s' → wpAny M A (execs rest env) Q E s') :
    wpAny M A (execs (.If test body orelse pos :: rest) env) Q E s := x_if fun B hB hQ => h B (fun s' h' => hB s' (hJ s' h')) hQ
theorem x_ret {e : Expr} {pos : Pos} (h : wpAny M A (eval e env) (fun v s' => Q (.ret v) s') E s) : wpAny M A (execs (.Return (some e) pos :: rest) env) Q E s := wpAny_execs_cons (wpAny_Return_some h)
theorem x_ret0 {pos : Pos} (h : Q (.ret .none) s) : wpAny M A (execs (.Return none pos :: rest) env) Q E s := wpAny_execs_cons (wpAny_Return_none h)
theorem x_brk {pos : Pos} (h : Q .brk s) : wpAny M A (execs (.Break pos :: rest) env) Q E s := wpAny_execs_cons (wpAny_Break h)
theorem x_cont {pos : Pos} (h : Q .cont s) : wpAny M A (execs (.Continue pos :: rest) env) Q E s := wpAny_execs_cons (wpAny_Continue h)

theorem x_while {test : Expr} {body orelse : List Stmt} {pos : Pos} (I : Nat → Shared → Prop) (n : Nat) (h0 : I n s)
    (turn : ∀ n s, WithL (fun s₃ => ∃ m, m < n ∧ I m s₃) (fun s₃ => wpAny (model prog w) A (execs rest env) Q E s₃) (fun v s₃ => Q (.ret v) s₃) fun B => WithE (fun s₃ => wpAny (model prog w) A (execs rest env) Q E s₃) Q fun D =>
      I n s → wpAny (model prog w) A (isTrue test env (eval test env)) (fun b s₂ => if b then wpAny (model prog w) A (execs body env) B NoE s₂ else wpAny (model prog w) A (execs orelse env) D NoE s₂) NoE s) :
    wpAny (model prog w) A (execs (.While test body orelse pos :: rest) env) Q E s := by
  refine wpAny_execs_cons (wpAny_While (codeAny_whileLoop I (fun n s hI => ?_) n h0))
  refine wpAny_mono ((turn n s).use.use hI) (fun b s₂ h₂ => ?_) fun _ _ x => x.elim
  cases b with
  | true =>
    refine wpAny_mono (if_pos rfl ▸ h₂) (fun f s₃ h₃ => ?_) fun _ _ x => x.elim
    cases f <;> exact h₃
  | false => exact wpAny_mono (if_neg Bool.false_ne_true ▸ h₂) (fun f s₃ h₃ => by cases f <;> exact h₃) fun _ _ x => x.elim
end

theorem if_dec {p : Prop} [Decidable p] {P R : Prop} (ht : p → P) (hf : ¬ p → R) : if decide p = true then P else R := by
  by_cases h : p
  · rw [decide_eq_true h, if_pos rfl]; exact ht h
  · rw [decide_eq_false h, if_neg Bool.false_ne_true]; exact hf h
theorem if_tt {P R : Prop} (h : P) : if true = true then P else R := by rw [if_pos rfl]; exact h
theorem if_ff {P R : Prop} (h : R) : if false = true then P else R := by rw [if_neg Bool.false_ne_true]; exact h
theorem if_bool {b : Bool} {P R : Prop} (ht : b = true → P) (hf : b = false → R) : if b = true then P else R := by
  cases b
  · exact hf rfl
  · exact ht rfl

/-! lists -/
section
variable {l : Addr} {xs : List Value} {k : Int} {u : Tok} {v : Value}
theorem sub_list {value slice : Expr} {Q : Value → Shared → Prop} (F : Fm h₀ X s₀ env loc rs s) (hm : listR l xs ∈ rs) (h0 : 0 ≤ k) (hk : k < 2 ^ 63) (hx : xs[k.toNat]? = some v) (h : Q v s)
    (hs : subscripted slice false (.ref l) (.int k u) = operate [.ref l, .int k u] (getItem (.ref l) (.int k u)) := by with_unfolding_all rfl) :
    wpAny (model prog w) A (PyProof.Rows.subscriptTail value slice (.ref l) (.int k u)) Q E s :=
  PyProof.Rows.tail_any (F.list hm).typeIs PySem.slot_list_getitem.lookup (wpAny_getItem_list (F.list hm) h0 hk (by simpa using hx) h) hs
theorem set_list {Q : Unit → Shared → Prop} (F : Fm h₀ X s₀ env loc rs s) (up : UpdR (listR l xs) (listR l (xs.set k.toNat v)) rs rs') (hw : Wr X s₀ l) (h0 : 0 ≤ k) (hk : k < 2 ^ 63) (hn : k < xs.length)
    (h : ∀ s', Fm h₀ X s₀ env loc rs' s' → Q () s') : wpAny (model prog w) A (setItem (.ref l) (.int k u) v) Q E s := by
  obtain ⟨n, hl⟩ := F.listE up.mem
  exact W.ki_setAt hl h0 hk (by simpa using hn) (h _ (F.updL up hw hl (by simp)))
theorem app_list {Q : Value → Shared → Prop} (F : Fm h₀ X s₀ env loc rs s) (up : UpdR (listR l xs) (listR l (xs ++ [v])) rs rs') (hw : Wr X s₀ l) (hz : xs.length < 2 ^ 20)
    (h : ∀ s', Fm h₀ X s₀ env loc rs' s' → Q .none s') : wpAny (model prog w) A (call (.builtin "list.append") [.ref l, v]) Q E s := by
  obtain ⟨n, hl⟩ := F.listE up.mem
  have sz : xs.toArray.size ≤ sizeLine := by rw [sizeLine_eq]; simp; lia
  exact call_meets PySem.F.slot_list_append ⟨_, hl, rfl⟩ PySem.F.entry_list_append (PySem.F.args_list_append_2 _ _) (list_append l xs.toArray n v sz) ⟨hl, h _ (F.updL up hw hl (by simp))⟩
theorem pop_list {y : Value} {Q : Value → Shared → Prop} (F : Fm h₀ X s₀ env loc rs s) (up : UpdR (listR l (xs ++ [y])) (listR l xs) rs rs') (hw : Wr X s₀ l) (hz : xs.length < 2 ^ 20)
    (h : ∀ s', Fm h₀ X s₀ env loc rs' s' → Q y s') : wpAny (model prog w) A (call (.builtin "list.pop") [.ref l]) Q E s := by
  obtain ⟨n, hl⟩ := F.listE up.mem
  have sz : (xs ++ [y]).toArray.size ≤ sizeLine := by rw [sizeLine_eq]; simp; lia
  exact call_meets PySem.F.slot_list_pop ⟨_, hl, rfl⟩ PySem.F.entry_list_pop (PySem.F.args_list_pop_1 _) (MeetsSeq.list_pop_last l _ n y (by simp) sz) ⟨hl, h _ (F.updL up hw hl (by simpa using W.kl_eraseL xs [] y))⟩
theorem truthy_list {Q : Bool → Shared → Prop} (F : Fm h₀ X s₀ env loc rs s) (hm : listR l xs ∈ rs) (hz : xs.length < 2 ^ 62) (h : ∀ s', Fm h₀ X s₀ env loc rs s' → Q (!xs.isEmpty) s') : wpAny (model prog w) A (truthy (.ref l)) Q E s :=
  wpAny_truthy_list (F.list hm) (by simp; lia) (by simpa using h _ (F.toks _))
theorem meth_list {name : Str} {id : String} {pl : Sem Bool} {Q : Value × List Value → Shared → Prop} (F : Fm h₀ X s₀ env loc rs s) (hm : listR l xs ∈ rs) (slot : Slot "list" name id) (hty : typeOf (.builtin id) = pure (.type "method_descriptor"))
    (h : Q (.builtin id, [.ref l]) s) : wpAny (model prog w) A (getMethod (.ref l) name pl) Q E s := by
  obtain ⟨n, hl⟩ := F.listE hm
  exact getMethod_builtin ⟨_, hl, rfl⟩ PySem.F.plainAttrs_list slot hty (fun a e => by cases e; exact ⟨_, hl, rfl⟩) h
end

/-! calls of plain defs -/
noncomputable def fenv (fd : FuncData) (f L : Addr) : Env := newEnv fd.scope L fd.globals [] (fd.qualname ++ ".<locals>.") (some f) fd.code none fd.builtins

/-- the regions that a callee is handed -/
structure Hands (h₀ : Heap) (rs : List Rg) (s : Shared) : Prop where
  base : Kp h₀ s.heap
  rg : ∀ r ∈ rs, r.holds s.heap
  rd : ∀ r ∈ rs, ∀ a, r.foot a → h₀.get? a = none ∧ ∃ o, s.heap.get? a = some o
  rp : rs.Pairwise fun r q => ∀ a, r.foot a → ¬ q.foot a

theorem Fm.hands (F : Fm h₀ X s₀ env loc rs s) (hs : rs'.Sublist rs) : Hands h₀ rs' s :=
  ⟨F.base, fun r hr => F.rg r (hs.subset hr), fun r hr a f => ⟨(F.rd r (hs.subset hr) a f).1, (F.rd r (hs.subset hr) a f).2.1⟩, F.rp.sublist hs⟩

theorem Hands.nil (hb : Kp h₀ s.heap) : Hands h₀ [] s := ⟨hb, (fun _ h => nomatch h), (fun _ h => nomatch h), List.Pairwise.nil⟩
theorem Hands.of1 {r : Rg} (hb : Kp h₀ s.heap) (h1 : r.holds s.heap) (h2 : ∀ a, r.foot a → h₀.get? a = none ∧ ∃ o, s.heap.get? a = some o) : Hands h₀ [r] s :=
  ⟨hb, fun q hq => by rw [List.mem_singleton.mp hq]; exact h1, fun q hq => by rw [List.mem_singleton.mp hq]; exact h2, List.pairwise_singleton _ _⟩
theorem bnd_lookup {binds : List (Str × Value)} (nd : (binds.map (·.1)).Nodup) : ∀ p ∈ binds, binds.reverse.lookup p.1 = some p.2 := by
  have key : ∀ (l : List (Str × Value)), (l.map (·.1)).Nodup → ∀ p ∈ l, l.lookup p.1 = some p.2 := by
    intro l
    induction l with
    | nil => intro _ p hp; cases hp
    | cons q l ih =>
      intro nd p hp
      obtain ⟨x, v⟩ := q
      rw [List.map_cons, List.nodup_cons] at nd
      rcases List.mem_cons.mp hp with rfl | hp
      · simp
      · have : p.1 ≠ x := fun e => nd.1 (e ▸ List.mem_map.mpr ⟨p, hp, rfl⟩)
        rw [List.lookup_cons, beq_eq_false_iff_ne.mpr this]
        exact ih nd.2 p hp
  intro p hp
  exact key _ (by rw [List.map_reverse]; exact (List.reverse_perm _).nodup_iff.mpr nd) p (List.mem_reverse.mpr hp)

noncomputable def locChk (sc : Scope) (ls : List Str) : Bool := ls.all fun x => decide (sc.names.lookup x = some .local) && !(x == ("__debug__" : Str))
noncomputable def argChk (sc : Scope) (names : List Str) : Bool := decide names.Nodup && locChk sc names
theorem arg_of {sc : Scope} {binds : List (Str × Value)} {names : List Str} (hz : binds.map (·.1) = names) (hk : argChk sc names = true) :
    (binds.map (·.1)).Nodup ∧ ∀ p ∈ binds, sc.names.lookup p.1 = some .local ∧ (p.1 == ("__debug__" : Str)) = false := by
  simp only [argChk, Bool.and_eq_true, decide_eq_true_eq] at hk
  refine ⟨hz ▸ hk.1, fun p hp => ?_⟩
  have := List.all_eq_true.mp hk.2 p.1 (hz ▸ List.mem_map.mpr ⟨p, hp, rfl⟩)
  simp only [Bool.and_eq_true, decide_eq_true_eq, Bool.not_eq_true'] at this
  exact this

structure FnOk (h₀ : Heap) (f : Addr) (fd : FuncData) (body : List Stmt) : Prop where
  ob : ∃ o, h₀.get? f = some o ∧ o.data = .func fd
  bd : fd.body = .stmts body
  cd : h₀.CodeRec fd.code fd.qualname
  lim : h₀.NoLimit
  fk : fd.scope.kind = .function
  co : fd.scope.isCoroutine = false
  gn : fd.scope.isGenerator = false

theorem nolim_keeps {h h' : Heap} (x : h.NoLimit) (k : Kp h h') : h'.NoLimit := let ⟨mm, p, q⟩ := x; ⟨mm, ns_keeps p fun o e => k _ o e, q⟩

theorem code_keeps {h h' : Heap} {c : Value} {n : Str} (x : h.CodeRec c n) (k : Kp h h') : h'.CodeRec c n := x.keeps k

theorem enter {fd : FuncData} {f : Addr} {body : List Stmt} {args : List Value} {binds : List (Str × Value)} {Q : Value → Shared → Prop} (H : Hands h₀ rs s) (K : FnOk h₀ f fd body) (room : A.depth < recursionLimit)
    (hcell : ∀ x ∈ fd.scope.names, x.2 ≠ .cell) (hclo : fd.closure = [])
    (hbind : bindArgs fd ⟨args, []⟩ = pure binds) {names : List Str} (hz : binds.map (·.1) = names) (hk : argChk fd.scope names = true)
    (h : ∀ L s', Fm h₀ X s (fenv fd f L) binds rs s' → wpAny (model prog w) (A.deeper (fenv fd f L)) (execs body (fenv fd f L))
      (fun fl s' => Q (match fl with | .ret v => v | _ => .none) s') NoE s') :
    wpAny (model prog w) A (call (.ref f) args) Q E s := by
  obtain ⟨o, ho, hd⟩ := K.ob
  obtain ⟨nd, hb⟩ := arg_of hz hk
  refine wpAny_call (codeAny_call_function room (H.base _ _ ho) hd K.co K.gn K.bd (code_keeps K.cd H.base) ?_)
  rw [hbind, hclo]
  refine wpAny_pure (wpAny_newFunctionEnv hcell (fun x hx => (hb x hx).1) (fun h' hn hs => ?_) K.fk)
  have e0 : s.heap.get? s.heap.objs.size = none := get?_size _
  have kp : Kp s.heap h' := fun b o e => (hs.2 b (fun q => by rw [q, e0] at e; cases e)).trans (Heap.get?_push_of_some _ e)
  have kb : Kp h₀ h' := fun b o e => kp b o (H.base b o e)
  refine ⟨nolim_keeps K.lim kb, codeAny_func ?_⟩
  have b0 : h₀.get? s.heap.objs.size = none := by
    cases q : h₀.get? s.heap.objs.size with
    | none => rfl
    | some o => rw [H.base _ o q] at e0; cases e0
  have hn' := hn
  obtain ⟨oL, _, _, eL, _⟩ := hn'
  refine wpAny_mono (h s.heap.objs.size _ ?_) (fun _ _ x => x) fun _ _ x => x.elim
  refine ⟨(Md.of_kp kp).wide fun _ x => x.elim, kb, K.fk, by simp [fenv, newEnv], nd, ⟨_, hn, fun p hp => ?_⟩, e0, ?_, ?_, ?_, H.rp, fun p hp => nomatch hp⟩
  · exact .loc (hb p hp).1 (hb p hp).2 (bnd_lookup nd p hp)
  · intro a ha
    have : a = s.heap.objs.size := by simpa [fenv, newEnv] using ha
    subst this
    exact ⟨b0, oL, eL⟩
  · intro r hr
    exact r.stable _ _ (fun a o _ e => kp a o e) (H.rg r hr)
  · intro r hr a f
    obtain ⟨h1, o, e⟩ := H.rd r hr a f
    refine ⟨h1, ⟨o, kp a o e⟩, fun v => ?_⟩
    have : a = s.heap.objs.size := by simpa [fenv, newEnv] using v
    rw [this, e0] at e; cases e
end
end

section -- B3
open PySem PySem.W
set_option Elab.async false
set_option maxRecDepth 100000
noncomputable section

noncomputable def P0 : Params := { strHash := fun _ => 5, shareClass := fun _ => 0, mergeTok := id, idOf := fun _ => 0, idOfShared := fun _ _ => 0, followText := fun _ => false, idOfImm := fun _ => 0 }
noncomputable def fnOf (a : Addr) : FuncData := match (KH P0).lookup a with
  | some ⟨_, _, .func f, _⟩ => f
  | _ => default
noncomputable def pb (i : Nat) : List Stmt := fbody (tS i)
noncomputable def pm (i j : Nat) : List Stmt := fbody (tM i j)

structure Base (P : Params) (h₀ : Heap) : Prop where
  kin : (KH P).In h₀
  g : ∃ mg mb, h₀.Ns mainGlobals mg ∧ h₀.Ns builtinsNs mb ∧ ∀ x : Str, x ≠ "__name__" → mb x = bootBuiltins x
  lim : h₀.NoLimit
  bm : ∃ mg bm ob, h₀.Ns mainGlobals mg ∧ mg "__builtins__" = some (.ref bm) ∧ bm ≠ builtinsNs ∧ h₀.get? bm = some ob ∧ ob.cls = .type "module" ∧ ob.dict = some builtinsNs ∧ ob.data = .plain
  c1 : CodeHd h₀ 27 23
  c2 : CodeHd h₀ 34 30

theorem fnOk {P : Params} {h₀ : Heap} (B : Base P h₀) (a : Addr) {body : List Stmt} (e : (KH P).lookup a = some ⟨.type "function", none, .func (fnOf a), #[]⟩) (hb : (fnOf a).body = .stmts body)
    (hc : codeIn (KH P) (fnOf a).code (fnOf a).qualname = true) (fk : (fnOf a).scope.kind = .function) (co : (fnOf a).scope.isCoroutine = false) (gn : (fnOf a).scope.isGenerator = false) :
    FnOk h₀ a (fnOf a) body := ⟨⟨_, B.kin _ _ e, rfl⟩, hb, codeRec_of B.kin hc, B.lim, fk, co, gn⟩

noncomputable def glbChk (P : Params) (sc : Scope) (gs : List (Str × Value)) : Bool := gs.all fun p => decide (sc.names.lookup p.1 = some .globalImplicit) && !(p.1 == ("__debug__" : Str)) &&
  (match nsIn (KH P) mainGlobals p.1 with
   | some (some v) => decide (v = p.2)
   | some none => decide (p.1 ≠ "__name__") && decide (bootBuiltins p.1 = some p.2)
   | none => false)

theorem sc_of {P : Params} {h₀ : Heap} {env : Env} {ls : List Str} {gs : List (Str × Value)} (B : Base P h₀) (hl : locChk env.scope ls = true) (hg : glbChk P env.scope gs = true)
    (eg : env.globals = mainGlobals) (eb : env.builtins = builtinsNs) : Sc h₀ env ls gs := by
  obtain ⟨mg, mb, ng, nb, hb⟩ := B.g
  refine ⟨fun x hx => ?_, fun p hp => ?_⟩
  · have := List.all_eq_true.mp hl x hx
    simp only [Bool.and_eq_true, decide_eq_true_eq, Bool.not_eq_true'] at this
    exact this
  · have := List.all_eq_true.mp hg p hp
    simp only [Bool.and_eq_true, decide_eq_true_eq, Bool.not_eq_true'] at this
    obtain ⟨⟨h1, h2⟩, h3⟩ := this
    refine ⟨h1, h2, mg, eg ▸ ng, ?_⟩
    split at h3
    · rename_i v e
      exact .inl ((mg_of B.kin ng e).trans (congrArg some (of_decide_eq_true h3)))
    · rename_i e
      simp only [Bool.and_eq_true, decide_eq_true_eq] at h3
      exact .inr ⟨mg_none_of B.kin ng e, mb, eb ▸ nb, (hb _ h3.1).trans h3.2⟩
    · cases h3

theorem fn_siftdown {P : Params} {h₀ : Heap} (B : Base P h₀) : FnOk h₀ 183 (fnOf 183) (pb 14) :=
  fnOk B 183 (by kernel_rfl) (by kernel_rfl) (by kernel_rfl) (by kernel_rfl) (by kernel_rfl) (by kernel_rfl)
theorem sc_siftdown {P : Params} {h₀ : Heap} (B : Base P h₀) (L : Addr) : Sc h₀ (fenv (fnOf 183) 183 L) ["heap", "startpos", "pos", "newitem", "parentpos", "parent"] [] :=
  sc_of B (by kernel_rfl) (by kernel_rfl) (by kernel_rfl) (by kernel_rfl)
theorem fn_siftup {P : Params} {h₀ : Heap} (B : Base P h₀) : FnOk h₀ 190 (fnOf 190) (pb 15) :=
  fnOk B 190 (by kernel_rfl) (by kernel_rfl) (by kernel_rfl) (by kernel_rfl) (by kernel_rfl) (by kernel_rfl)
theorem sc_siftup {P : Params} {h₀ : Heap} (B : Base P h₀) (L : Addr) : Sc h₀ (fenv (fnOf 190) 190 L) ["heap", "pos", "endpos", "startpos", "newitem", "childpos", "rightpos"] [("len", .builtin "len"), ("_siftdown", .ref 183)] :=
  sc_of B (by kernel_rfl) (by kernel_rfl) (by kernel_rfl) (by kernel_rfl)
theorem fn_heapify {P : Params} {h₀ : Heap} (B : Base P h₀) : FnOk h₀ 176 (fnOf 176) (pb 13) :=
  fnOk B 176 (by kernel_rfl) (by kernel_rfl) (by kernel_rfl) (by kernel_rfl) (by kernel_rfl) (by kernel_rfl)
theorem sc_heapify {P : Params} {h₀ : Heap} (B : Base P h₀) (L : Addr) : Sc h₀ (fenv (fnOf 176) 176 L) ["x", "n", "i"] [("len", .builtin "len"), ("reversed", .type "reversed"), ("range", .type "range"), ("_siftup", .ref 190)] :=
  sc_of B (by kernel_rfl) (by kernel_rfl) (by kernel_rfl) (by kernel_rfl)
theorem fn_heappop {P : Params} {h₀ : Heap} (B : Base P h₀) : FnOk h₀ 169 (fnOf 169) (pb 12) :=
  fnOk B 169 (by kernel_rfl) (by kernel_rfl) (by kernel_rfl) (by kernel_rfl) (by kernel_rfl) (by kernel_rfl)
theorem sc_heappop {P : Params} {h₀ : Heap} (B : Base P h₀) (L : Addr) : Sc h₀ (fenv (fnOf 169) 169 L) ["heap", "lastelt", "returnitem"] [("_siftup", .ref 190)] :=
  sc_of B (by kernel_rfl) (by kernel_rfl) (by kernel_rfl) (by kernel_rfl)
theorem fn_int2digits {P : Params} {h₀ : Heap} (B : Base P h₀) : FnOk h₀ 28 (fnOf 28) (pb 2) :=
  fnOk B 28 (by kernel_rfl) (by kernel_rfl) (by kernel_rfl) (by kernel_rfl) (by kernel_rfl) (by kernel_rfl)
theorem fn_digits2int {P : Params} {h₀ : Heap} (B : Base P h₀) : FnOk h₀ 35 (fnOf 35) (pb 3) :=
  fnOk B 35 (by kernel_rfl) (by kernel_rfl) (by kernel_rfl) (by kernel_rfl) (by kernel_rfl) (by kernel_rfl)
theorem fn_heappush {P : Params} {h₀ : Heap} (B : Base P h₀) : FnOk h₀ 162 (fnOf 162) (pb 11) :=
  fnOk B 162 (by kernel_rfl) (by kernel_rfl) (by kernel_rfl) (by kernel_rfl) (by kernel_rfl) (by kernel_rfl)
theorem sc_heappush {P : Params} {h₀ : Heap} (B : Base P h₀) (L : Addr) : Sc h₀ (fenv (fnOf 162) 162 L) ["heap", "item"] [("_siftdown", .ref 183), ("len", .builtin "len")] :=
  sc_of B (by kernel_rfl) (by kernel_rfl) (by kernel_rfl) (by kernel_rfl)
theorem fn_bag {P : Params} {h₀ : Heap} (B : Base P h₀) : FnOk h₀ 204 (fnOf 204) (pb 18) :=
  fnOk B 204 (by kernel_rfl) (by kernel_rfl) (by kernel_rfl) (by kernel_rfl) (by kernel_rfl) (by kernel_rfl)
theorem sc_bag {P : Params} {h₀ : Heap} (B : Base P h₀) (L : Addr) : Sc h₀ (fenv (fnOf 204) 204 L) ["size", "width", "bag", "place"] [] :=
  sc_of B (by kernel_rfl) (by kernel_rfl) (by kernel_rfl) (by kernel_rfl)
theorem fn_due {P : Params} {h₀ : Heap} (B : Base P h₀) : FnOk h₀ 211 (fnOf 211) (pb 19) :=
  fnOk B 211 (by kernel_rfl) (by kernel_rfl) (by kernel_rfl) (by kernel_rfl) (by kernel_rfl) (by kernel_rfl)
theorem sc_due {P : Params} {h₀ : Heap} (B : Base P h₀) (L : Addr) : Sc h₀ (fenv (fnOf 211) 211 L) ["sizes", "width", "found", "waiting", "size"] [("list", .type "list"), ("_law_bag", .ref 204), ("sorted", .builtin "sorted")] :=
  sc_of B (by kernel_rfl) (by kernel_rfl) (by kernel_rfl) (by kernel_rfl)
theorem fn_drawn {P : Params} {h₀ : Heap} (B : Base P h₀) : FnOk h₀ 197 (fnOf 197) (pb 17) :=
  fnOk B 197 (by kernel_rfl) (by kernel_rfl) (by kernel_rfl) (by kernel_rfl) (by kernel_rfl) (by kernel_rfl)
theorem sc_drawn {P : Params} {h₀ : Heap} (B : Base P h₀) (L : Addr) : Sc h₀ (fenv (fnOf 197) 197 L) ["script", "cells", "width", "sizes", "cell", "rest", "size", "turn"] [("sum", .builtin "sum"), ("range", .type "range")] :=
  sc_of B (by kernel_rfl) (by kernel_rfl) (by kernel_rfl) (by kernel_rfl)
theorem fn_ldigits {P : Params} {h₀ : Heap} (B : Base P h₀) : FnOk h₀ 218 (fnOf 218) (pb 20) :=
  fnOk B 218 (by kernel_rfl) (by kernel_rfl) (by kernel_rfl) (by kernel_rfl) (by kernel_rfl) (by kernel_rfl)
theorem sc_ldigits {P : Params} {h₀ : Heap} (B : Base P h₀) (L : Addr) : Sc h₀ (fenv (fnOf 218) 218 L) ["word", "worths", "digits", "depth", "piece", "sign"] [("len", .builtin "len")] :=
  sc_of B (by kernel_rfl) (by kernel_rfl) (by kernel_rfl) (by kernel_rfl)
end
end

section -- B4
open PySem PySem.W
set_option Elab.async false
set_option maxRecDepth 100000
section
variable {M : Model} {prog : Program} {w : World} {A : Around} {E : Value → Shared → Prop} {h₀ : Heap} {X : Addr → Prop} {s₀ s : Shared} {env : Env} {loc loc' : List (Str × Value)} {rs rs' : List Rg}
  {ls : List Str} {gs : List (Str × Value)} {Q : Value → Shared → Prop} {a b n : Int} {t u : Tok}

theorem ev_int {i : Int} {k : Nat} {pos : Pos} (F : Fm h₀ X s₀ env loc rs s) (h : ∀ t s', Fm h₀ X s₀ env loc rs s' → Q (.int i t) s') : wpAny M A (eval (.Constant (.int i) k pos) env) Q E s :=
  wpAny_Constant_int (h _ _ (F.toks _))
theorem ev_str {x : Str} {k : Nat} {pos : Pos} (F : Fm h₀ X s₀ env loc rs s) (h : ∀ t s', Fm h₀ X s₀ env loc rs s' → Q (.str x t) s') : wpAny M A (eval (.Constant (.str x) k pos) env) Q E s :=
  Calls.Constant_str (h _ _ (F.toks _))
theorem op_add (F : Fm h₀ X s₀ env loc rs s) (h : ∀ t s', Fm h₀ X s₀ env loc rs s' → Q (.int (a + b) t) s') : wpAny (model prog w) A (binaryOp .Add (.int a t) (.int b u)) Q E s := PyProof.Rows.add_int (h _ _ (F.toks _))
theorem op_sub (F : Fm h₀ X s₀ env loc rs s) (h : ∀ t s', Fm h₀ X s₀ env loc rs s' → Q (.int (a - b) t) s') : wpAny (model prog w) A (binaryOp .Sub (.int a t) (.int b u)) Q E s := PyProof.Rows.sub_int (h _ _ (F.toks _))
theorem op_iadd (F : Fm h₀ X s₀ env loc rs s) (h : ∀ t s', Fm h₀ X s₀ env loc rs s' → Q (.int (a + b) t) s') : wpAny (model prog w) A (inplaceOp .Add (.int a t) (.int b u)) Q E s := PyProof.Rows.iadd_int (h _ _ (F.toks _))
theorem op_isub (F : Fm h₀ X s₀ env loc rs s) (h : ∀ t s', Fm h₀ X s₀ env loc rs s' → Q (.int (a - b) t) s') : wpAny (model prog w) A (inplaceOp .Sub (.int a t) (.int b u)) Q E s := PyProof.Rows.isub_int (h _ _ (F.toks _))
theorem op_mul (F : Fm h₀ X s₀ env loc rs s) (h : ∀ t s', Fm h₀ X s₀ env loc rs s' → Q (.int (a * b) t) s') (hm : IntMulOk a b) : wpAny (model prog w) A (binaryOp .Mult (.int a t) (.int b u)) Q E s := PyProof.Rows.mul_int (h _ _ (F.toks _)) hm
theorem op_neg (F : Fm h₀ X s₀ env loc rs s) (h : ∀ t s', Fm h₀ X s₀ env loc rs s' → Q (.int (-a) t) s') : wpAny (model prog w) A (unaryOp .USub (.int a t)) Q E s := PyProof.Rows.neg_int (h _ _ (F.toks _))
theorem op_rsh (hn : 0 ≤ n) (F : Fm h₀ X s₀ env loc rs s) (h : ∀ t s', Fm h₀ X s₀ env loc rs s' → Q (.int (a.fdiv (2 ^ n.toNat)) t) s') : wpAny (model prog w) A (binaryOp .RShift (.int a t) (.int n u)) Q E s :=
  PyProof.Rows.rshift_int hn (h _ _ (F.toks _))
theorem op_irsh (hn : 0 ≤ n) (F : Fm h₀ X s₀ env loc rs s) (h : ∀ t s', Fm h₀ X s₀ env loc rs s' → Q (.int (a.fdiv (2 ^ n.toNat)) t) s') : wpAny (model prog w) A (inplaceOp .RShift (.int a t) (.int n u)) Q E s :=
  PyProof.Rows.irshift_int hn (h _ _ (F.toks _))
theorem op_lsh (hn : 0 ≤ n) (hn2 : n ≤ 1000000) (ha : a.natAbs < 2 ^ 64) (F : Fm h₀ X s₀ env loc rs s) (h : ∀ t s', Fm h₀ X s₀ env loc rs s' → Q (.int (a * 2 ^ n.toNat) t) s') :
    wpAny (model prog w) A (binaryOp .LShift (.int a t) (.int n u)) Q E s := PyProof.Rows.lshift_int_small hn hn2 ha (h _ _ (F.toks _))
theorem op_mod (hb : b ≠ 0) (F : Fm h₀ X s₀ env loc rs s) (h : ∀ t s', Fm h₀ X s₀ env loc rs s' → Q (.int (a.fmod b) t) s') : wpAny (model prog w) A (binaryOp .Mod (.int a t) (.int b u)) Q E s :=
  PyProof.Rows.mod_int hb (h _ _ (F.toks _))
theorem op_fdiv (hb : b ≠ 0) (hp : Builtin.divisionGoesByPylong a b = false) (F : Fm h₀ X s₀ env loc rs s) (h : ∀ t s', Fm h₀ X s₀ env loc rs s' → Q (.int (a.fdiv b) t) s') :
    wpAny (model prog w) A (binaryOp .FloorDiv (.int a t) (.int b u)) Q E s := PyProof.Rows.floordiv_int hb (h _ _ (F.toks _)) (.inl hp)
theorem op_ifdiv (hb : b ≠ 0) (hp : Builtin.divisionGoesByPylong a b = false) (F : Fm h₀ X s₀ env loc rs s) (h : ∀ t s', Fm h₀ X s₀ env loc rs s' → Q (.int (a.fdiv b) t) s') :
    wpAny (model prog w) A (inplaceOp .FloorDiv (.int a t) (.int b u)) Q E s := PyProof.Rows.ifloordiv_int hb (h _ _ (F.toks _)) (.inl hp)
theorem op_xor (F : Fm h₀ X s₀ env loc rs s) (h : ∀ t s', Fm h₀ X s₀ env loc rs s' → Q (.int (Builtin.bitXor a b) t) s') : wpAny (model prog w) A (binaryOp .BitXor (.int a t) (.int b u)) Q E s :=
  PyProof.Rows.xor_int (h _ _ (F.toks _))
theorem op_bitlen (F : Fm h₀ X s₀ env loc rs s) (h : ∀ t s', Fm h₀ X s₀ env loc rs s' → Q (.int (Builtin.Int.intBits a) t) s') : wpAny (model prog w) A (call (.builtin "int.bit_length") [.int a t]) Q E s :=
  PyProof.Rows.call_int_bit_length (h _ _ (F.toks _))
theorem op_len {l : Addr} {xs : List Value} (F : Fm h₀ X s₀ env loc rs s) (hm : listR l xs ∈ rs) (hz : xs.length < 2 ^ 62) (h : ∀ t s', Fm h₀ X s₀ env loc rs s' → Q (.int xs.length t) s') :
    wpAny (model prog w) A (call (.builtin "len") [.ref l]) Q E s :=
  PyProof.Rows.len_list (F.list hm) (by simp; lia) (by simpa using h _ _ (F.toks _))

/-! calls -/
section
variable {o e e2 : Expr} {rest : List Expr} {name : Str} {apos pos : Pos} {args : List Expr} {id : String} {x : Value} {f : Addr}
theorem ev_call {func : Expr} (h : wpAny M A (eval func env) (fun f s₁ => wpAny M A (callWith pos f [] (backTo pos (starEach args env)) []) Q E s₁) E s)
    (he : eval (.Call func args [] pos) env = (do callWith pos (← eval func env) [] (backTo pos (starEach args env)) (backToKw pos (keywordEach [] env))) := by with_unfolding_all rfl) :
    wpAny M A (eval (.Call func args [] pos) env) Q E s := PyProof.Rows.Call_ h he
theorem ev_meth {pl : Sem Bool}
    (h : wpAny M A (eval o env) (fun ov s₁ => wpAny M A (getMethod ov name pl) (fun fx s₂ => wpAny M A (callWith pos fx.1 fx.2 (backTo pos (starEach args env)) []) Q E s₂) E s₁) E s)
    (he : eval (.Call (.Attribute o name apos) args [] pos) env = (do
      let ov ← eval o env
      standAt apos.atName
      let (f, first) ← holding [ov] (getMethod ov name pl)
      callWith pos f first (backTo pos (starEach args env)) []) := by with_unfolding_all rfl) :
    wpAny M A (eval (.Call (.Attribute o name apos) args [] pos) env) Q E s := PyProof.Rows.MethodCall_ h he
theorem cw_fn {fd : FuncData} {body : List Stmt} (K : FnOk h₀ f fd body)
    (h : wpAny M A (spliced (backTo pos (starEach (e :: rest) env))) (fun vs s₁ => Kp h₀ s₁.heap ∧ wpAny M A (call (.ref f) vs) Q E s₁) E s)
    (he : starEach (e :: rest) env = (false, eval e env) :: starEach rest env := by with_unfolding_all rfl) :
    wpAny M A (callWith pos (.ref f) [] (backTo pos (starEach (e :: rest) env)) []) Q E s := by
  obtain ⟨o, ho, hd⟩ := K.ob
  exact PyProof.Rows.callWith_def hd (wpAny_mono h (fun vs s₁ h₁ => ⟨h₁.1 _ _ ho, h₁.2⟩) fun _ _ x => x) he
theorem a_cons {R : List Value → Shared → Prop} (h : wpAny M A (eval e env) (fun v s₁ => wpAny M A (spliced (backTo pos (starEach rest env))) (fun vs s₂ => R (v :: vs) s₂) E s₁) E s)
    (he : starEach (e :: rest) env = (false, eval e env) :: starEach rest env := by with_unfolding_all rfl) : wpAny M A (spliced (backTo pos (starEach (e :: rest) env))) R E s := PyProof.Rows.args_cons h he
theorem a_nil {R : List Value → Shared → Prop} (h : R [] s) : wpAny M A (spliced (backTo pos (starEach [] env))) R E s := PyProof.Rows.args_nil h
theorem cw_b1 (h : wpAny M A (eval e env) (fun v s₁ => wpAny M A (call (.builtin id) [v]) Q E s₁) E s)
    (he : starEach [e] env = [(false, eval e env)] := by with_unfolding_all rfl) : wpAny M A (callWith pos (.builtin id) [] (backTo pos (starEach [e] env)) []) Q E s :=
  PyProof.Rows.callWith_builtin1 (PyProof.Rows.args_cons (wpAny_mono h (fun _ _ h₁ => PyProof.Rows.args_nil h₁) fun _ _ x => x) he) he rfl
theorem cw_m0 (h : wpAny M A (call (.builtin id) [x]) Q E s) : wpAny M A (callWith pos (.builtin id) [x] (backTo pos (starEach [] env)) []) Q E s := PyProof.Rows.callWith_method0 h
theorem cw_m1 (h : wpAny M A (eval e env) (fun v s₁ => wpAny M A (call (.builtin id) [x, v]) Q E s₁) E s)
    (he : starEach [e] env = [(false, eval e env)] := by with_unfolding_all rfl) : wpAny M A (callWith pos (.builtin id) [x] (backTo pos (starEach [e] env)) []) Q E s :=
  PyProof.Rows.callWith_method1 (PyProof.Rows.args_cons (wpAny_mono h (fun _ _ h₁ => PyProof.Rows.args_nil h₁) fun _ _ x => x) he) he rfl
theorem cw_m2 (h : wpAny M A (eval e env) (fun v s₁ => wpAny M A (eval e2 env) (fun v2 s₂ => wpAny M A (call (.builtin id) [x, v, v2]) Q E s₂) E s₁) E s)
    (he : starEach [e, e2] env = [(false, eval e env), (false, eval e2 env)] := by with_unfolding_all rfl) (he2 : starEach [e2] env = [(false, eval e2 env)] := by with_unfolding_all rfl) :
    wpAny M A (callWith pos (.builtin id) [x] (backTo pos (starEach [e, e2] env)) []) Q E s :=
  PyProof.Rows.callWith_method1 (PyProof.Rows.args_cons (wpAny_mono h (fun _ _ h₁ => PyProof.Rows.args_cons (wpAny_mono h₁ (fun _ _ h₂ => PyProof.Rows.args_nil h₂) fun _ _ x => x) he2) fun _ _ x => x) (he.trans (by rw [he2]))) (he.trans (by rw [he2])) (by rw [he2]; rfl)
theorem cw_t1 {T : String} (h : wpAny M A (eval e env) (fun v s₁ => wpAny M A (call (.type T) [v]) Q E s₁) E s)
    (he : starEach [e] env = [(false, eval e env)] := by with_unfolding_all rfl) : wpAny M A (callWith pos (.type T) [] (backTo pos (starEach [e] env)) []) Q E s :=
  PyProof.Rows.callWith_type1 (PyProof.Rows.args_cons (wpAny_mono h (fun _ _ h₁ => PyProof.Rows.args_nil h₁) fun _ _ x => x) he) he (by rfl)
end
end
end

section -- B5
open PySem PySem.W
set_option Elab.async false
set_option maxRecDepth 100000
set_option linter.unusedVariables false

inductive RemR (r : Rg) : List Rg → List Rg → Prop
  | hit {l : List Rg} : RemR r (r :: l) l
  | skip {q : Rg} {l l' : List Rg} : RemR r l l' → RemR r (q :: l) (q :: l')
inductive RemL : List Rg → List Rg → List Rg → Prop
  | nil {l : List Rg} : RemL l [] l
  | cons {r : Rg} {l l1 m rest : List Rg} : RemR r l l1 → RemL l1 m rest → RemL l (r :: m) rest
theorem RemR.mem {r : Rg} {l l' : List Rg} (u : RemR r l l') : r ∈ l := by
  induction u with
  | hit => exact .head _
  | skip _ ih => exact .tail _ ih
theorem RemR.sub {r : Rg} {l l' : List Rg} (u : RemR r l l') : l'.Sublist l := by
  induction u with
  | hit => exact .cons _ (.refl _)
  | skip _ ih => exact .cons_cons _ ih
theorem RemR.off {r : Rg} {l l' : List Rg} (u : RemR r l l') (hp : l.Pairwise fun r q => ∀ a, r.foot a → ¬ q.foot a) : ∀ q ∈ l', ∀ a, r.foot a → ¬ q.foot a := by
  induction u with
  | hit => exact fun q hq a f => (List.pairwise_cons.mp hp).1 q hq a f
  | @skip q0 l l' u ih =>
    intro q hq a f g
    rcases List.mem_cons.mp hq with rfl | hq
    · exact (List.pairwise_cons.mp hp).1 r u.mem a g f
    · exact ih (List.pairwise_cons.mp hp).2 q hq a f g

section
variable {prog : Program} {w : World} {A : Around} {E : Value → Shared → Prop} {h₀ : Heap} {X : Addr → Prop} {s₀ s s' : Shared} {env : Env} {loc loc' : List (Str × Value)} {rs rs' : List Rg}
  {r r' : Rg} {a : Addr}

/-- an object of the call's own is let go -/
theorem Fm.gone (F : Fm h₀ X s₀ env loc rs s) (u : RemR r rs rs') (hr : r.foot = (· = a)) (hn : s₀.heap.get? a = none)
    (k : ∀ b o, b ≠ a → s.heap.get? b = some o → s'.heap.get? b = some o) (hg : s'.gens = s.gens) (ho : s'.os = s.os) : Fm h₀ X s₀ env loc rs' s' := by
  have hra : r.foot a := by rw [hr]
  have va : ¬ vf env a := (F.rd r u.mem a hra).2.2
  have b0 : h₀.get? a = none := (F.rd r u.mem a hra).1
  have G := F.sub u.sub
  have off := u.off F.rp
  refine ⟨⟨fun b o hb e => ?_, fun b o e => ?_, hg.trans F.mod.gens, ho.trans F.mod.os⟩, fun b o e => ?_, F.fk, F.cnd, F.lnd, ?_, F.lw, ?_, ?_, ?_, G.rp, fun p hp => let ⟨v, x⟩ := F.cc p hp; ⟨v, cell_keeps x fun o e => k _ o (fun q => va (q ▸ .tail _ (List.mem_map.mpr ⟨p, hp, rfl⟩))) e⟩⟩
  · exact k b o (fun q => by rw [q, hn] at e; cases e) (F.mod.keep b o hb e)
  · obtain ⟨o', e'⟩ := F.mod.dom b o e
    exact ⟨o', k b o' (fun q => by rw [q, hn] at e; cases e) e'⟩
  · exact k b o (fun q => by rw [q, b0] at e; cases e) (F.base b o e)
  · obtain ⟨m, n, hv⟩ := F.ns
    exact ⟨m, ns_keeps n fun o e => k _ o (fun q => va (by rw [← q]; exact .head _)) e, fun p hp => (hv p hp).keeps fun b o v e => k b o (fun q => va (q ▸ v)) e⟩
  · intro b v; obtain ⟨h1, o, e⟩ := F.vd b v; exact ⟨h1, o, k b o (fun q => va (q ▸ v)) e⟩
  · intro q hq; exact q.stable _ _ (fun b o f e => k b o (fun e' => off q hq a hra (e' ▸ f)) e) (G.rg q hq)
  · intro q hq b f
    obtain ⟨h1, ⟨o, e⟩, h3⟩ := G.rd q hq b f
    exact ⟨h1, ⟨o, k b o (fun e' => off q hq a hra (e' ▸ f)) e⟩, h3⟩

/-- the next item, by a library walk -/
theorem nx_item {I : Addr} {fp : List Addr} {n i : Nat} {P : Nat → Value → Prop} {St : Nat → Heap → Prop} {Q : Option Value → Shared → Prop} (F : Fm h₀ X s₀ env loc rs s) (W : Walks prog w A I fp [I] n P St) (hst : St i s.heap) (hi : i < n)
    (u : UpdR r r' rs rs') (hr : r.foot = (· = I)) (hr' : r'.foot = (· = I)) (hw : Wr X s₀ I) (hh : ∀ h', St (i + 1) h' → r'.holds h' ∧ ∃ o, h'.get? I = some o)
    (h : ∀ v s', P i v → Fm h₀ X s₀ env loc rs' s' → Q (some v) s') : wpAny (model prog w) A (pyNext (.ref I)) Q E s := by
  refine W.item i s Q E hi hst fun v h' tk hP hs hk => h v _ hP ?_
  obtain ⟨hh1, o, ho⟩ := hh h' hs
  exact F.ch1 u (.ext (fun b o hb e => hk b o (by simpa using hb) e) ho) hw hh1 hr hr'
theorem nx_done {I : Addr} {fp : List Addr} {n : Nat} {P : Nat → Value → Prop} {St : Nat → Heap → Prop} {Q : Option Value → Shared → Prop} (F : Fm h₀ X s₀ env loc rs s) (W : Walks prog w A I fp [I] n P St) (hst : St n s.heap)
    (u : RemR r rs rs') (hr : r.foot = (· = I)) (hn : s₀.heap.get? I = none)
    (h : ∀ s', Fm h₀ X s₀ env loc rs' s' → Q none s') : wpAny (model prog w) A (pyNext (.ref I)) Q E s :=
  W.done s Q E hst fun h' tk hk => h _ (F.gone u hr hn (fun b o hb e => hk b o (by simpa using hb) e) rfl rfl)

noncomputable def liR (I l : Addr) (i : Nat) : Rg := ⟨(· = I), fun h => h.IsListIter I l i, fun _ _ k x => x.at fun o e => k I o rfl e⟩
noncomputable def tiR (I l : Addr) (i : Nat) : Rg := ⟨(· = I), fun h => h.IsTupleIter I l i, fun _ _ k x => x.at fun o e => k I o rfl e⟩
noncomputable def riR (I : Addr) (x left step : Int) : Rg := ⟨(· = I), fun h => IsRangeIter h I x left step, fun _ _ k x => k I _ rfl x⟩
noncomputable def siR (I : Addr) (x : Str) (t : Tok) (i : Nat) : Rg := ⟨(· = I), fun h => h.IsStrIter I "str_ascii_iterator" x t i, fun _ _ k ⟨o, e, r⟩ => ⟨o, k I o rfl e, r⟩⟩
noncomputable def tupR (a : Addr) (xs : List Value) : Rg :=
  ⟨(· = a), fun h => ∃ n, h.get? a = some { cls := .type "tuple", data := .seq xs.toArray n }, fun _ _ k ⟨n, e⟩ => ⟨n, k a _ rfl e⟩⟩
noncomputable def rngR (a : Addr) (x y z : Int) : Rg := ⟨(· = a), fun h => ∃ t u v, IsRange h a x y z t u v, fun _ _ k ⟨t, u, v, e⟩ => ⟨t, u, v, k a _ rfl e⟩⟩
theorem Fm.tup {xs : List Value} (F : Fm h₀ X s₀ env loc rs s) (hm : tupR a xs ∈ rs) : s.heap.IsTuple a xs.toArray := let ⟨n, e⟩ := F.rg _ hm; ⟨_, e, rfl, n, rfl⟩

theorem Fm.ne {r q : Rg} {b : Addr} (F : Fm h₀ X s₀ env loc rs s) (h1 : r ∈ rs) (h2 : q ∈ rs) (hne : r ≠ q) (f1 : r.foot a) (f2 : q.foot b) : a ≠ b := by
  rintro rfl
  have key : ∀ {l : List Rg}, (l.Pairwise fun r q => ∀ a, r.foot a → ¬ q.foot a) → r ∈ l → q ∈ l → False := by
    intro l
    induction l with
    | nil => intro _ h; cases h
    | cons x l ih =>
      intro hp h1 h2
      rcases List.mem_cons.mp h1 with rfl | h1
      · rcases List.mem_cons.mp h2 with rfl | h2
        · exact hne rfl
        · exact (List.pairwise_cons.mp hp).1 q h2 _ f1 f2
      · rcases List.mem_cons.mp h2 with rfl | h2
        · exact (List.pairwise_cons.mp hp).1 r (by assumption) _ f2 f1
        · exact ih (List.pairwise_cons.mp hp).2 h1 h2
  exact key F.rp h1 h2

/-! lists -/
section
variable {I l : Addr} {xs : List Value} {i : Nat} {Q : Option Value → Shared → Prop}
theorem it_list {Q : Value → Shared → Prop} (F : Fm h₀ X s₀ env loc rs s) (hm : listR l xs ∈ rs) (h : ∀ I s', s₀.heap.get? I = none → I ≠ l → Fm h₀ X s₀ env loc (liR I l 0 :: rs) s' → Q (.ref I) s') : wpAny (model prog w) A (pyIter (.ref l)) Q E s := by
  refine wpAny_pyIter_list (F.list hm) (h _ _ (F.mod.none_of (get?_size _)) (fun e => ?_) (F.alloc s.toks rfl (fun a e => e) ⟨_, Heap.get?_push_size _ rfl, rfl, rfl⟩))
  obtain ⟨n, hl⟩ := F.listE hm
  rw [← e, IsL, get?_size] at hl; cases hl
theorem nx_list (hh : A.handled = none) (F : Fm h₀ X s₀ env loc rs s) (hm : listR l xs ∈ rs) (hne : I ≠ l) (hi : i < xs.length) (u : UpdR (liR I l i) (liR I l (i + 1)) rs rs') (hn : s₀.heap.get? I = none)
    (h : ∀ v s', xs[i]? = some v → Fm h₀ X s₀ env loc rs' s' → Q (some v) s') : wpAny (model prog w) A (pyNext (.ref I)) Q E s :=
  nx_item F (Walks.list hh I l hne.symm xs.toArray) ⟨F.rg _ u.mem, F.list hm⟩ (by simpa using hi) u rfl rfl (.inr hn) (fun h' x => ⟨x.1, let ⟨o, e, _⟩ := x.1; ⟨o, e⟩⟩) fun v s' e F' => h v s' (by simpa using e) F'
theorem nd_list (hh : A.handled = none) (F : Fm h₀ X s₀ env loc rs s) (hm : listR l xs ∈ rs) (hne : I ≠ l) (u : RemR (liR I l xs.length) rs rs') (hn : s₀.heap.get? I = none)
    (h : ∀ s', Fm h₀ X s₀ env loc rs' s' → Q none s') : wpAny (model prog w) A (pyNext (.ref I)) Q E s :=
  nx_done F (Walks.list hh I l hne.symm xs.toArray) (by simpa using ⟨F.rg _ u.mem, F.list hm⟩) u rfl hn h
theorem it_tup {Q : Value → Shared → Prop} (F : Fm h₀ X s₀ env loc rs s) (hm : tupR l xs ∈ rs) (h : ∀ I s', s₀.heap.get? I = none → I ≠ l → Fm h₀ X s₀ env loc (tiR I l 0 :: rs) s' → Q (.ref I) s') : wpAny (model prog w) A (pyIter (.ref l)) Q E s := by
  refine wpAny_pyIter_tuple (F.tup hm) (h _ _ (F.mod.none_of (get?_size _)) (fun e => ?_) (F.alloc s.toks rfl (fun a e => e) ⟨_, Heap.get?_push_size _ rfl, rfl, rfl⟩))
  obtain ⟨o, hl, _⟩ := F.tup hm
  rw [← e, get?_size] at hl; cases hl
theorem nx_tup (hh : A.handled = none) (F : Fm h₀ X s₀ env loc rs s) (hm : tupR l xs ∈ rs) (hne : I ≠ l) (hi : i < xs.length) (u : UpdR (tiR I l i) (tiR I l (i + 1)) rs rs') (hn : s₀.heap.get? I = none)
    (h : ∀ v s', xs[i]? = some v → Fm h₀ X s₀ env loc rs' s' → Q (some v) s') : wpAny (model prog w) A (pyNext (.ref I)) Q E s :=
  nx_item F (Walks.tuple hh I l hne.symm xs.toArray) ⟨F.rg _ u.mem, F.tup hm⟩ (by simpa using hi) u rfl rfl (.inr hn) (fun h' x => ⟨x.1, let ⟨o, e, _⟩ := x.1; ⟨o, e⟩⟩) fun v s' e F' => h v s' (by simpa using e) F'
theorem nd_tup (hh : A.handled = none) (F : Fm h₀ X s₀ env loc rs s) (hm : tupR l xs ∈ rs) (hne : I ≠ l) (u : RemR (tiR I l xs.length) rs rs') (hn : s₀.heap.get? I = none)
    (h : ∀ s', Fm h₀ X s₀ env loc rs' s' → Q none s') : wpAny (model prog w) A (pyNext (.ref I)) Q E s :=
  nx_done F (Walks.tuple hh I l hne.symm xs.toArray) (by simpa using ⟨F.rg _ u.mem, F.tup hm⟩) u rfl hn h
end

/-! ranges -/
section
variable {l : Addr} {n : Nat} {t u v : Tok}
noncomputable abbrev rrObj (n : Nat) : Obj := { cls := .type "range_iterator", data := .fields #[rawInt ((n : Int) - 1), rawInt n, rawInt (-1)] }
theorem call_range_reversed {Q : Value → Shared → Prop} (e : IsRange s.heap l 0 n 1 t u v) (hz : n < 2 ^ 60) (h : Q (.ref s.heap.objs.size) { s with heap := s.heap.push (rrObj n) }) :
    wpAny (model prog w) A (call (.builtin "range.__reversed__") [.ref l]) Q E s := by
  have hT : s.TypeIs (.ref l) "range" := ⟨_, e, rfl⟩
  have e1 : Builtin.Range.rangeSize 0 n 1 = n := by rw [rangeSize_one]; split <;> lia
  refine wpAny_call_entry F.slot_range_reversed hT F.entry_range_reversed ?_ (F.args_range_reversed_1 _)
  unfold Builtin.«range.__reversed__»
  refine wpAny_bind (wpAny_of_eq (a := Value.ref l) rfl ?_)
  have hf : wpAny (model prog w) A.in1 (Builtin.Range.rangeFields (.ref l)) (fun x s' => x = ((0 : Int), (n : Int), (1 : Int)) ∧ s' = s) (fun _ _ => False) s := by
    unfold Builtin.Range.rangeFields
    refine wpAny_bind (wpAny_field e rfl (x := .int 0 t) rfl ?_)
    refine wpAny_bind (wpAny_of_eq (a := some (0 : Int)) rfl ?_)
    refine wpAny_bind (wpAny_field e rfl (x := .int n u) rfl ?_)
    refine wpAny_bind (wpAny_of_eq (a := some (n : Int)) rfl ?_)
    refine wpAny_bind (wpAny_field e rfl (x := .int 1 v) rfl ?_)
    refine wpAny_bind (wpAny_of_eq (a := some (1 : Int)) rfl ?_)
    exact wpAny_pure ⟨rfl, rfl⟩
  refine wpAny_bind (wpAny_mono hf (fun x s' hx => ?_) fun _ _ x => x.elim)
  obtain ⟨rfl, rfl⟩ := hx
  have hs : (Builtin.Range.rangeFitsLong 0 && Builtin.Range.rangeFitsLong (n : Int) && Builtin.Range.rangeFitsLong 1 && Builtin.Range.rangeFitsLong (-1) && Builtin.Range.rangeFitsLong (0 - 1) && Builtin.Range.rangeFitsLong (Builtin.Range.rangeSize 0 n 1)) = true := by
    rw [e1]
    have : Builtin.Range.rangeFitsLong (n : Int) = true := by unfold Builtin.Range.rangeFitsLong; simp; lia
    rw [this]; decide
  dsimp only
  rw [hs]
  simp only [Bool.not_true, Bool.false_eq_true, if_false, if_true]
  have e2 : (0 : Int) + (Builtin.Range.rangeSize 0 n 1 - 1) * 1 = (n : Int) - 1 := by rw [e1]; lia
  rw [e2, e1]
  refine wpAny_bind (wpAny_newObj_type ?_)
  exact wpAny_pure ⟨_, rfl, h⟩
theorem sub_ri_reversed : isSubtype (.type "range_iterator") (.type "reversed") = pure false := by rw [isSubtype_type]; kernel_rfl
theorem code_reversed_range {Q₁ : Value → Shared → Prop} (e : IsRange s.heap l 0 n 1 t u v) (hz : n < 2 ^ 60)
    (h : Q₁ (.ref s.heap.objs.size) { s with heap := s.heap.push (rrObj n) }) :
    codeAny (model prog w) A (.call (.builtin "reversed.__new__") ⟨[.type "reversed", .ref l], []⟩) (wants Q₁ E) s := by
  have hT : s.TypeIs (.ref l) "range" := ⟨_, e, rfl⟩
  refine codeAny_of_tree ?_
  show wpAny _ A.in1 (do checkBuiltinCall "reversed.__new__" ⟨[.type "reversed", .ref l], []⟩; again (.builtin "reversed.__new__" ⟨[.type "reversed", .ref l], []⟩)) _ _ s
  refine wpAny_bind (wpAny_of_eq (F.newCall_reversed_1 _) (wpAny_pure ⟨plainId_quiet F.plain_reversed_new _, codeAny_builtin F.entry_reversed_new ?_⟩))
  rw [Around.under_plainId F.plain_reversed_new _]
  unfold Builtin.«reversed.__new__»
  refine wpAny_bind (wpAny_of_eq (newClass_reversed _) ?_)
  try dsimp only
  refine wpAny_bind (wpAny_of_eq (a := ()) (by first | rfl | kernel_rfl) ?_)
  refine wpAny_bind (wpAny_of_eq (a := ()) (by first | rfl | kernel_rfl) ?_)
  try dsimp only
  refine wpAny_bind (wpAny_specialOf hT F.slot_range_reversed.lookup ?_)
  try dsimp only
  refine wpAny_bind (wpAny_of_eq (F.slot_range_reversed.bind _) ?_)
  try dsimp only
  show wpAny _ _ (if (Value.builtin "range.__reversed__" == Value.none) = true then _ else _) _ _ _
  rw [if_neg (show ¬ ((Value.builtin "range.__reversed__" == Value.none) = true) from Bool.false_ne_true)]
  refine wpAny_bind (wpAny_rule ?_)
  refine wpAny_bind (m := runValue (.call (.builtin "range.__reversed__") ⟨[.ref l], []⟩)) (show wpAny _ _ (call (.builtin "range.__reversed__") [.ref l]) _ _ _ from call_range_reversed e hz ?_)
  first
  | exact wpAny_pure h
  | exact wpAny_bind (wpAny_pure (wpAny_pure h))
theorem call_reversed_range {Q : Value → Shared → Prop} (e : IsRange s.heap l 0 n 1 t u v) (hz : n < 2 ^ 60) (h : Q (.ref s.heap.objs.size) { s with heap := s.heap.push (rrObj n) }) :
    wpAny (model prog w) A (call (.type "reversed") [.ref l]) Q E s := by
  refine callType_other (U := "range_iterator") (Q₁ := fun obj s₁ => obj = .ref s.heap.objs.size ∧ s₁ = { s with heap := s.heap.push (rrObj n) }) (by decide +kernel) F.create_reversed ⟨_, _, F.mro_reversed⟩ F.made_reversed sub_ri_reversed (F.typeCall_reversed_1 _) (code_reversed_range e hz ⟨rfl, rfl⟩) ?_
  intro obj s₁
  (repeat (first | (with_reducible refine WithL.in fun _ _ _ _ => ?_) | (with_reducible refine WithE.in fun _ _ _ => ?_)))
  rintro ⟨rfl, rfl⟩
  exact ⟨⟨_, Heap.get?_push_size _ rfl, rfl⟩, h⟩
end
section
variable {I l : Addr} {x left step : Int} {Q : Option Value → Shared → Prop}
theorem nx_rng (hh : A.handled = none) (F : Fm h₀ X s₀ env loc rs s) (hl : 0 < left) (u : UpdR (riR I x left step) (riR I (x + step) (left - 1) step) rs rs') (hn : s₀.heap.get? I = none)
    (h : ∀ t s', Fm h₀ X s₀ env loc rs' s' → Q (some (.int x t)) s') : wpAny (model prog w) A (pyNext (.ref I)) Q E s :=
  wpAny_pyNext_range_item (F.rg _ u.mem) hl fun h' hit hs => h _ _ (F.ch1 u (.same hs hit) (.inr hn) hit)
theorem nd_rng (hh : A.handled = none) (F : Fm h₀ X s₀ env loc rs s) (hl : left ≤ 0) (u : RemR (riR I x left step) rs rs') (hn : s₀.heap.get? I = none)
    (h : ∀ s', Fm h₀ X s₀ env loc rs' s' → Q none s') : wpAny (model prog w) A (pyNext (.ref I)) Q E s :=
  wpAny_pyNext_range_end hh (F.rg _ u.mem) hl fun h' he => h _ (F.gone u rfl hn (fun b o hb e => he b o hb e) rfl rfl)
theorem op_range {n : Int} {t : Tok} {Q : Value → Shared → Prop} (F : Fm h₀ X s₀ env loc rs s) (h : ∀ a s', s₀.heap.get? a = none → Fm h₀ X s₀ env loc (rngR a 0 n 1 :: rs) s' → Q (.ref a) s') : wpAny (model prog w) A (call (.type "range") [.int n t]) Q E s :=
  call_range_1 (h _ _ (F.mod.none_of (get?_size _)) (F.alloc _ rfl (fun a e => e) ⟨_, _, _, Heap.get?_push_size _ rfl⟩))
theorem it_rng {n : Nat} {Q : Value → Shared → Prop} (F : Fm h₀ X s₀ env loc rs s) (hm : rngR l 0 n 1 ∈ rs) (hz : n < 2 ^ 60) (h : ∀ I s', s₀.heap.get? I = none → Fm h₀ X s₀ env loc (riR I 0 n 1 :: rs) s' → Q (.ref I) s') : wpAny (model prog w) A (pyIter (.ref l)) Q E s := by
  obtain ⟨t, u, v, e⟩ := F.rg _ hm
  refine wpAny_pyIter_range e (small_one (by lia) (by lia) (by lia) (by lia)) (h _ _ (F.mod.none_of (get?_size _)) (F.alloc s.toks rfl (fun a e => e) ?_))
  have e1 : Builtin.Range.rangeSize 0 n 1 = n := by rw [rangeSize_one]; split <;> lia
  show IsRangeIter _ _ _ _ _
  rw [e1]; exact Heap.get?_push_size _ rfl
/-- reversed(range(n)) -/
theorem op_revrange {n : Nat} {Q : Value → Shared → Prop} (F : Fm h₀ X s₀ env loc rs s) (hm : rngR l 0 n 1 ∈ rs) (hz : n < 2 ^ 60) (h : ∀ I s', s₀.heap.get? I = none → Fm h₀ X s₀ env loc (riR I ((n : Int) - 1) n (-1) :: rs) s' → Q (.ref I) s') :
    wpAny (model prog w) A (call (.type "reversed") [.ref l]) Q E s := by
  obtain ⟨t, u, v, e⟩ := F.rg _ hm
  exact call_reversed_range e hz (h _ _ (F.mod.none_of (get?_size _)) (F.alloc s.toks rfl (fun a e => e) (Heap.get?_push_size _ rfl)))
theorem it_riR {Q : Value → Shared → Prop} (F : Fm h₀ X s₀ env loc rs s) (hm : riR I x left step ∈ rs) (h : Q (.ref I) s) : wpAny (model prog w) A (pyIter (.ref I)) Q E s := wpAny_pyIter_rangeiter (F.rg _ hm) h
end

/-! the loop -/
theorem x_for {target iter : Expr} {body orelse rest : List Stmt} {pos : Pos} {Q : Flow → Shared → Prop}
    (h : wpAny (model prog w) A (eval iter env) (fun xv s₁ => wpAny (model prog w) A (pyIter xv) (fun it s₂ => ∃ (J : Nat → Shared → Prop) (n : Nat), J n s₂ ∧
      ∀ n s, WithL (fun s₃ => ∃ m, m < n ∧ J m s₃) (fun s₃ => wpAny (model prog w) A (execs rest env) Q E s₃) (fun v s₃ => Q (.ret v) s₃) fun B => WithE (fun s₃ => wpAny (model prog w) A (execs rest env) Q E s₃) Q fun D =>
        J n s → wpAny (model prog w) A (pyNext it) (fun r s₁ => match r with
        | none => wpAny (model prog w) A (execs orelse env) D NoE s₁
        | some v => wpAny (model prog w) A (assign target env v) (fun _ s₂ => wpAny (model prog w) A (execs body env) B NoE s₂) NoE s₁) NoE s) E s₁) E s)
    (ht : ∀ it v, letOwnedTupleGo target it v = pure () := by intro _ _; with_unfolding_all rfl)
    (hs : ∀ x, foldedSetIterable iter env x = pure x := by intro _; with_unfolding_all rfl) :
    wpAny (model prog w) A (execs (.For target iter body orelse pos :: rest) env) Q E s := by
  refine wpAny_execs_cons (wpAny_For (wpAny_mono h (fun xv s₁ h₁ => wpAny_mono h₁ (fun it s₂ h₂ => ?_) fun _ _ x => x) fun _ _ x => x) hs)
  obtain ⟨J, n, h0, turn⟩ := h₂
  refine codeAny_forLoop J (fun n s hJ => ?_) n h0 (ht it)
  refine wpAny_mono ((turn n s).use.use hJ) (fun r s₁ h₁ => ?_) fun _ _ x => x.elim
  cases r with
  | none => exact wpAny_mono h₁ (fun f s₃ h₃ => by cases f <;> exact h₃) fun _ _ x => x.elim
  | some v => exact wpAny_mono h₁ (fun _ s₂ h₂ => wpAny_mono h₂ (fun f s₃ h₃ => by cases f <;> exact h₃) fun _ _ x => x.elim) fun _ _ x => x.elim
theorem as_name {x : Str} {pos : Pos} {v : Value} {Q : Unit → Shared → Prop} (h : wpAny (model prog w) A (storeName env x v) Q E s) : wpAny (model prog w) A (assign (.Name x pos) env v) Q E s := wpAny_assign_Name h
end
end

section -- B6
open PySem PySem.W
set_option Elab.async false
set_option maxRecDepth 100000
set_option linter.unusedVariables false

/-! cells, closures, nested defs -/
noncomputable abbrev CelOk (env : Env) (s₀ : Shared) (x : Str) : Prop := env.kindOf x = some .cell ∧ (x == ("__debug__" : Str)) = false ∧ ∃ c, env.cells.lookup x = some c ∧ s₀.heap.get? c = none

section
variable {M : Model} {prog : Program} {w : World} {A : Around} {E : Value → Shared → Prop} {h₀ : Heap} {X : Addr → Prop} {s₀ s s' : Shared} {env : Env} {loc loc' : List (Str × Value)} {rs rs' : List Rg}
  {ls : List Str} {gs : List (Str × Value)}

theorem st_cel {x : Str} {v : Value} {Q : Unit → Shared → Prop} (F : Fm h₀ X s₀ env loc rs s) (hx : CelOk env s₀ x) (u : UpdL x v loc loc')
    (h : ∀ s', Fm h₀ X s₀ env loc' rs s' → Q () s') : wpAny M A (storeName env x v) Q E s := by
  obtain ⟨hk, hd, c, hc, hn⟩ := hx
  obtain ⟨v0, hv⟩ := F.cc _ (mem_of_lookup hc)
  exact wpAny_storeName_cell F.fk hk hc hv fun h' hi hs => h _ (F.storeC u hk hd hc (.inr hn) hi hs)

theorem Fm.cellOf {x : Str} {v : Value} {c : Addr} (F : Fm h₀ X s₀ env loc rs s) (hm : (x, v) ∈ loc) (hc : env.cells.lookup x = some c) (hk : env.kindOf x ≠ some .local) : s.heap.IsCell c (some v) := by
  obtain ⟨m, n, hv⟩ := F.ns
  cases hv _ hm with
  | loc hk' hd hm => exact absurd hk' hk
  | cel d hk' hd hc' ho => rw [hc] at hc'; cases hc'; exact ho

/-- what a closure is handed -/
structure Clo (h₀ : Heap) (rs : List Rg) (cl : List (Str × Addr)) (vals : List (Str × Value)) (s : Shared) : Prop where
  nd : (cl.map (·.2)).Nodup
  cd : ∀ p ∈ cl, h₀.get? p.2 = none ∧ (∃ v, s.heap.IsCell p.2 v) ∧ ∀ r ∈ rs, ¬ r.foot p.2
  vals : ∀ p ∈ vals, ∃ c, cl.lookup p.1 = some c ∧ s.heap.IsCell c (some p.2)

theorem Fm.clo {cl : List (Str × Addr)} {vals : List (Str × Value)} (F : Fm h₀ X s₀ env loc rs s) (hs : rs'.Sublist rs) (hc : ∀ p ∈ cl, env.cells.lookup p.1 = some p.2) (nd : (cl.map (·.2)).Nodup)
    (hv : ∀ p ∈ vals, p ∈ loc ∧ (∃ c, cl.lookup p.1 = some c) ∧ env.kindOf p.1 ≠ some .local) : Clo h₀ rs' cl vals s := by
  refine ⟨nd, fun p hp => ?_, fun p hp => ?_⟩
  · have hm := mem_of_lookup (hc p hp)
    have vc : vf env p.2 := .tail _ (List.mem_map.mpr ⟨_, hm, rfl⟩)
    exact ⟨(F.vd _ vc).1, F.cc _ hm, fun r hr f => (F.rd r (hs.subset hr) _ f).2.2 vc⟩
  · obtain ⟨h1, ⟨c, h2⟩, h3⟩ := hv p hp
    exact ⟨c, h2, F.cellOf h1 (hc (p.1, c) (mem_of_lookup h2)) h3⟩

noncomputable def cenv (fd : FuncData) (f L : Addr) : Env := newEnv fd.scope L fd.globals fd.closure (fd.qualname ++ ".<locals>.") (some f) fd.code none fd.builtins

noncomputable def freeChk (sc : Scope) (names : List Str) : Bool := names.all fun x => decide (sc.names.lookup x = some .free) && !(x == ("__debug__" : Str)) && !(x == ("__classdict__" : Str))

theorem lookup_of_nodup {α : Type} : ∀ (l : List (Str × α)), (l.map (·.1)).Nodup → ∀ p ∈ l, l.lookup p.1 = some p.2 := by
  intro l
  induction l with
  | nil => intro _ p hp; cases hp
  | cons q l ih =>
    intro nd p hp
    obtain ⟨x, v⟩ := q
    rw [List.map_cons, List.nodup_cons] at nd
    rcases List.mem_cons.mp hp with rfl | hp
    · simp
    · have : p.1 ≠ x := fun e => nd.1 (e ▸ List.mem_map.mpr ⟨p, hp, rfl⟩)
      rw [List.lookup_cons, beq_eq_false_iff_ne.mpr this]
      exact ih nd.2 p hp
theorem Fm.cloSelf {fd : FuncData} {f L : Addr} {vals : List (Str × Value)} (F : Fm h₀ X s₀ (cenv fd f L) loc rs s) (hs : rs'.Sublist rs) {kn vn : List Str} (hkn : fd.closure.map (·.1) = kn) (hnd : kn.Nodup) (hv : vals.Sublist loc) (hvn : vals.map (·.1) = vn)
    (hin : (vn.all fun x => decide (x ∈ kn)) = true) (hfree : freeChk fd.scope vn = true) : Clo h₀ rs' fd.closure vals s := by
  have look := lookup_of_nodup fd.closure (by rw [hkn]; exact hnd)
  refine F.clo hs look (List.nodup_cons.mp F.cnd).2 fun p hp => ⟨hv.subset hp, ?_, ?_⟩
  · have := of_decide_eq_true (List.all_eq_true.mp hin p.1 (hvn ▸ List.mem_map.mpr ⟨p, hp, rfl⟩))
    rw [← hkn] at this
    obtain ⟨q, hq, e⟩ := List.mem_map.mp this
    exact ⟨q.2, e ▸ look q hq⟩
  · have := List.all_eq_true.mp hfree p.1 (hvn ▸ List.mem_map.mpr ⟨p, hp, rfl⟩)
    simp only [Bool.and_eq_true, decide_eq_true_eq, Bool.not_eq_true'] at this
    intro e
    have e2 : fd.scope.names.lookup p.1 = some .local := e
    rw [this.1.1] at e2; cases e2

structure FnHere (s : Shared) (h₀ : Heap) (f : Addr) (fd : FuncData) (body : List Stmt) : Prop where
  ob : ∃ o, s.heap.get? f = some o ∧ o.data = .func fd
  bd : fd.body = .stmts body
  cd : s.heap.CodeRec fd.code fd.qualname
  lim : h₀.NoLimit
  fk : fd.scope.kind = .function
  co : fd.scope.isCoroutine = false
  gn : fd.scope.isGenerator = false

theorem enterK {fd : FuncData} {f : Addr} {body : List Stmt} {args : List Value} {binds vals : List (Str × Value)} {Q : Value → Shared → Prop} (H : Hands h₀ rs s) (C : Clo h₀ rs fd.closure vals s) (K : FnHere s h₀ f fd body) (room : A.depth < recursionLimit)
    (hcell : ∀ x ∈ fd.scope.names, x.2 ≠ .cell)
    (hbind : bindArgs fd ⟨args, []⟩ = pure binds) {names vnames : List Str} (hz : binds.map (·.1) = names) (hzv : vals.map (·.1) = vnames) (hk : argChk fd.scope names = true) (hkv : freeChk fd.scope vnames = true) (hnd : (names ++ vnames).Nodup)
    (h : ∀ L s', Fm h₀ X s (cenv fd f L) (binds ++ vals) rs s' → wpAny (model prog w) (A.deeper (cenv fd f L)) (execs body (cenv fd f L))
      (fun fl s' => Q (match fl with | .ret v => v | _ => .none) s') NoE s') :
    wpAny (model prog w) A (call (.ref f) args) Q E s := by
  obtain ⟨o, ho, hd⟩ := K.ob
  obtain ⟨nd, hb⟩ := arg_of hz hk
  refine wpAny_call (codeAny_call_function room ho hd K.co K.gn K.bd K.cd ?_)
  rw [hbind]
  refine wpAny_pure (wpAny_newFunctionEnv hcell (fun x hx => (hb x hx).1) (fun h' hn hs => ?_) K.fk)
  have e0 : s.heap.get? s.heap.objs.size = none := get?_size _
  have kp : Kp s.heap h' := fun b o e => (hs.2 b (fun q => by rw [q, e0] at e; cases e)).trans (Heap.get?_push_of_some _ e)
  have kb : Kp h₀ h' := fun b o e => kp b o (H.base b o e)
  refine ⟨nolim_keeps K.lim kb, codeAny_func ?_⟩
  have b0 : h₀.get? s.heap.objs.size = none := by
    cases q : h₀.get? s.heap.objs.size with
    | none => rfl
    | some o => rw [H.base _ o q] at e0; cases e0
  have cne : ∀ p ∈ fd.closure, p.2 ≠ s.heap.objs.size := fun p hp e => by
    obtain ⟨_, ⟨v, o, e1, _⟩, _⟩ := C.cd p hp
    rw [e, e0] at e1; cases e1
  have hn' := hn
  obtain ⟨oL, _, _, eL, _⟩ := hn'
  refine wpAny_mono (h s.heap.objs.size _ ?_) (fun _ _ x => x) fun _ _ x => x.elim
  refine ⟨(Md.of_kp kp).wide fun _ x => x.elim, kb, K.fk, ?_, ?_, ⟨_, hn, fun p hp => ?_⟩, e0, ?_, ?_, ?_, H.rp, ?_⟩
  · refine List.nodup_cons.mpr ⟨fun hm => ?_, C.nd⟩
    obtain ⟨p, hp, e⟩ := List.mem_map.mp hm
    exact cne p hp e
  · rw [List.map_append, hz, hzv]; exact hnd
  · rcases List.mem_append.mp hp with hp | hp
    · exact .loc (hb p hp).1 (hb p hp).2 (bnd_lookup nd p hp)
    · obtain ⟨c, h1, h2⟩ := C.vals p hp
      have := List.all_eq_true.mp hkv p.1 (hzv ▸ List.mem_map.mpr ⟨p, hp, rfl⟩)
      simp only [Bool.and_eq_true, decide_eq_true_eq, Bool.not_eq_true'] at this
      exact .cel c (.inr ⟨this.1.1, this.2⟩) this.1.2 h1 (cell_keeps h2 fun o e => kp _ o e)
  · intro a ha
    rcases List.mem_cons.mp ha with rfl | ha
    · exact ⟨b0, oL, eL⟩
    · obtain ⟨p, hp, rfl⟩ := List.mem_map.mp ha
      obtain ⟨h1, ⟨v, o, e1, _⟩, _⟩ := C.cd p hp
      exact ⟨h1, o, kp _ o e1⟩
  · intro r hr
    exact r.stable _ _ (fun a o _ e => kp a o e) (H.rg r hr)
  · intro r hr a f
    obtain ⟨h1, o, e⟩ := H.rd r hr a f
    refine ⟨h1, ⟨o, kp a o e⟩, fun v => ?_⟩
    rcases List.mem_cons.mp v with rfl | ha
    · exact absurd (e0.symm.trans e) (by simp)
    · obtain ⟨p, hp, rfl⟩ := List.mem_map.mp ha
      exact (C.cd p hp).2.2 r hr f
  · intro p hp
    obtain ⟨_, ⟨v, x⟩, _⟩ := C.cd p hp
    exact ⟨v, cell_keeps x fun o e => kp _ o e⟩

/-! a def with cells of its own -/
noncomputable def celChk (sc : Scope) (names : List Str) : Bool := names.all fun x => (decide (sc.names.lookup x = some .local) || decide (sc.names.lookup x = some .cell)) && !(x == ("__debug__" : Str))
theorem bindL_spec {kindOf : Str → Option NameKind} : ∀ (binds : List (Str × Value)) (m : Str → Option Value), (binds.map (·.1)).Nodup →
    (∀ x, x ∉ binds.map (·.1) → bindL kindOf binds m x = m x) ∧ ∀ p ∈ binds, kindOf p.1 = some .local → bindL kindOf binds m p.1 = some p.2
  | [], m, _ => ⟨fun _ _ => rfl, fun _ hp => nomatch hp⟩
  | (n, v) :: r, m, nd => by
    rw [List.map_cons, List.nodup_cons] at nd
    obtain ⟨h1, h2⟩ := bindL_spec (kindOf := kindOf) r (if kindOf n = some .local then fun y => if y = n then some v else m y else m) nd.2
    refine ⟨fun x hx => ?_, fun p hp hk => ?_⟩
    · rw [List.map_cons, List.mem_cons, not_or] at hx
      unfold bindL; rw [h1 x hx.2]
      split
      · exact if_neg hx.1
      · rfl
    · unfold bindL
      rcases List.mem_cons.mp hp with rfl | hp
      · rw [h1 _ nd.1, if_pos hk]; exact if_pos rfl
      · exact h2 p hp hk
theorem bindC_spec {kindOf : Str → Option NameKind} : ∀ (binds : List (Str × Value)) (m : Str → Option Value), (binds.map (·.1)).Nodup →
    (∀ x, x ∉ binds.map (·.1) → bindC kindOf binds m x = m x) ∧ ∀ p ∈ binds, kindOf p.1 ≠ some .local → bindC kindOf binds m p.1 = some p.2
  | [], m, _ => ⟨fun _ _ => rfl, fun _ hp => nomatch hp⟩
  | (n, v) :: r, m, nd => by
    rw [List.map_cons, List.nodup_cons] at nd
    obtain ⟨h1, h2⟩ := bindC_spec (kindOf := kindOf) r (if kindOf n = some .local then m else fun y => if y = n then some v else m y) nd.2
    refine ⟨fun x hx => ?_, fun p hp hk => ?_⟩
    · rw [List.map_cons, List.mem_cons, not_or] at hx
      unfold bindC; rw [h1 x hx.2]
      split
      · rfl
      · exact if_neg hx.1
    · unfold bindC
      rcases List.mem_cons.mp hp with rfl | hp
      · rw [h1 _ nd.1, if_neg hk]; exact if_pos rfl
      · exact h2 p hp hk

theorem enterC {fd : FuncData} {f : Addr} {body : List Stmt} {args : List Value} {binds : List (Str × Value)} {Q : Value → Shared → Prop} (H : Hands h₀ rs s) (K : FnOk h₀ f fd body) (room : A.depth < recursionLimit)
    (hclo : fd.closure = []) (hbind : bindArgs fd ⟨args, []⟩ = pure binds) {names : List Str} (hz : binds.map (·.1) = names) (hnd : names.Nodup) (hk : celChk fd.scope names = true)
    {kn : List Str} (hkn : ∀ L, (cellsFrom (L + 1) fd.scope.names []).map (·.1) = kn) (hknd : kn.Nodup) (hcs' : (names.all fun x => decide (fd.scope.names.lookup x ≠ some .cell) || decide (x ∈ kn)) = true)
    (h : ∀ L s', (∀ p ∈ (callEnvC fd L f).cells, s.heap.get? p.2 = none) → Fm h₀ X s (callEnvC fd L f) binds rs s' → wpAny (model prog w) (A.deeper (callEnvC fd L f)) (execs body (callEnvC fd L f))
      (fun fl s' => Q (match fl with | .ret v => v | _ => .none) s') NoE s') :
    wpAny (model prog w) A (call (.ref f) args) Q E s := by
  obtain ⟨o, ho, hd⟩ := K.ob
  have nd : (binds.map (·.1)).Nodup := hz ▸ hnd
  have look : ∀ (l : List (Str × Addr)), (l.map (·.1)).Nodup → ∀ p ∈ l, l.lookup p.1 = some p.2 := by
    intro l
    induction l with
    | nil => intro _ p hp; cases hp
    | cons q l ih =>
      intro nd p hp
      obtain ⟨x, v⟩ := q
      rw [List.map_cons, List.nodup_cons] at nd
      rcases List.mem_cons.mp hp with rfl | hp
      · simp
      · have : p.1 ≠ x := fun e => nd.1 (e ▸ List.mem_map.mpr ⟨p, hp, rfl⟩)
        rw [List.lookup_cons, beq_eq_false_iff_ne.mpr this]
        exact ih nd.2 p hp
  have hcs : ∀ L x, x ∈ names → fd.scope.names.lookup x = some .cell → ((cellsFrom (L + 1) fd.scope.names []).lookup x).isSome = true := fun L x hx e => by
    have := List.all_eq_true.mp hcs' x hx
    simp only [Bool.or_eq_true, decide_eq_true_eq, ne_eq, e, not_true_eq_false, false_or] at this
    rw [← hkn L] at this
    obtain ⟨p, hp, rfl⟩ := List.mem_map.mp this
    rw [look _ (by rw [hkn]; exact hknd) p hp]; rfl
  have hb : ∀ p ∈ binds, (fd.scope.names.lookup p.1 = some .local ∨ fd.scope.names.lookup p.1 = some .cell) ∧ (p.1 == ("__debug__" : Str)) = false := fun p hp => by
    have := List.all_eq_true.mp hk p.1 (hz ▸ List.mem_map.mpr ⟨p, hp, rfl⟩)
    simp only [Bool.and_eq_true, Bool.or_eq_true, decide_eq_true_eq, Bool.not_eq_true'] at this
    exact this
  refine wpAny_call (codeAny_call_cells room (H.base _ _ ho) hd (nolim_keeps K.lim H.base) (code_keeps K.cd H.base) K.bd hbind hclo (fun x hx => ?_) (fun s₁ I => ?_) K.co K.gn K.fk)
  · exact (hb x hx).1.imp id fun e => ⟨e, hcs _ _ (hz ▸ List.mem_map.mpr ⟨x, hx, rfl⟩) e⟩
  have e0 : s.heap.get? s.heap.objs.size = none := get?_size _
  have kp : Kp s.heap s₁.heap := I.toInCall.keep
  have kb : Kp h₀ s₁.heap := fun b o e => kp b o (H.base b o e)
  obtain ⟨h', tk, es⟩ := I.toInCall.same
  have hnone : ∀ a, s.heap.objs.size ≤ a → s.heap.get? a = none ∧ h₀.get? a = none := fun a ha => by
    have e1 : s.heap.get? a = none := by
      cases q : s.heap.get? a with
      | none => rfl
      | some o => exact absurd (Heap.lt_size q) (Nat.not_lt.mpr ha)
    refine ⟨e1, ?_⟩
    cases q : h₀.get? a with
    | none => rfl
    | some o => rw [H.base _ o q] at e1; cases e1
  have cab : ∀ p ∈ (callEnvC fd s.heap.objs.size f).cells, s.heap.objs.size < p.2 := fun p hp => I.above p.1 p.2 hp
  have cis : ∀ p ∈ (callEnvC fd s.heap.objs.size f).cells, ∃ v, s₁.heap.IsCell p.2 v := fun p hp => by
    exact ⟨_, I.cell p.1 p.2 (look _ (by show ((cellsFrom (s.heap.objs.size + 1) fd.scope.names []).map (·.1)).Nodup; rw [hkn]; exact hknd) p hp)⟩
  refine wpAny_mono (h s.heap.objs.size s₁ (fun p hp => (hnone _ (Nat.le_of_lt (cab p hp))).1) ?_) (fun _ _ x => x) fun _ _ x => x.elim
  refine ⟨⟨fun b o _ e => kp b o e, fun b o e => ⟨o, kp b o e⟩, by rw [es], by rw [es]⟩, kb, K.fk, ?_, nd, ⟨_, I.toInCall.ns, fun p hp => ?_⟩, e0, ?_, ?_, ?_, H.rp, cis⟩
  · refine List.nodup_cons.mpr ⟨fun hm => ?_, List.pairwise_map.mpr I.apart⟩
    obtain ⟨p, hp, e⟩ := List.mem_map.mp hm
    exact absurd (cab p hp) (by rw [e]; exact Nat.lt_irrefl _)
  · by_cases e : fd.scope.names.lookup p.1 = some .local
    · exact .loc e (hb p hp).2 ((bindL_spec _ _ nd).2 p hp e)
    · have ec := (hb p hp).1.resolve_left e
      obtain ⟨c, hc⟩ := Option.isSome_iff_exists.mp (hcs s.heap.objs.size _ (hz ▸ List.mem_map.mpr ⟨p, hp, rfl⟩) ec)
      have := I.cell p.1 c hc
      rw [(bindC_spec _ _ nd).2 p hp e] at this
      exact .cel c (.inl ec) (hb p hp).2 hc this
  · intro a ha
    rcases List.mem_cons.mp ha with rfl | ha
    · obtain ⟨oL, _, _, eL, _⟩ := I.toInCall.ns
      exact ⟨(hnone _ (Nat.le_refl _)).2, oL, eL⟩
    · obtain ⟨p, hp, rfl⟩ := List.mem_map.mp ha
      obtain ⟨v, o, e1, _⟩ := cis p hp
      exact ⟨(hnone _ (Nat.le_of_lt (cab p hp))).2, o, e1⟩
  · intro r hr
    exact r.stable _ _ (fun a o _ e => kp a o e) (H.rg r hr)
  · intro r hr a f
    obtain ⟨h1, o, e⟩ := H.rd r hr a f
    refine ⟨h1, ⟨o, kp a o e⟩, fun v => ?_⟩
    rcases List.mem_cons.mp v with rfl | ha
    · exact absurd (e0.symm.trans e) (by simp)
    · obtain ⟨p, hp, rfl⟩ := List.mem_map.mp ha
      rw [(hnone _ (Nat.le_of_lt (cab p hp))).1] at e; cases e

/-! the table of a def's inner defs -/
noncomputable def tabR (P : Addr) (pos : Pos) (q : Str) (oc : Option Addr) : Rg :=
  ⟨fun a => a = P ∨ oc = some a,
   fun h => ∃ ps, h.get? P = some (tabObj ps) ∧ TriplesOk ps.toList ∧ (oc = none → codeAmong pos ps.toList = none) ∧ ∀ c, oc = some c → codeAmong pos ps.toList = some (.ref c) ∧ h.CodeRec (.ref c) q,
   fun h h' k ⟨ps, e, t, n, y⟩ => ⟨ps, k P _ (.inl rfl) e, t, n, fun c hc => ⟨(y c hc).1, by
     obtain ⟨c', o, vs, tk, e1, e2, r⟩ := (y c hc).2
     cases e1
     exact ⟨c, o, vs, tk, rfl, k c o (.inr hc) e2, r⟩⟩⟩⟩
theorem UpdR.same {r : Rg} {l l' : List Rg} (u : UpdR r r l l') : l' = l := by
  induction u with
  | hit => rfl
  | skip _ ih => rw [ih]
noncomputable def fnR (f : Addr) (fd : FuncData) : Rg := ⟨(· = f), fun h => h.get? f = some { cls := .type "function", data := .func fd }, fun _ _ k x => k f _ rfl x⟩
theorem mk_fn {P : Params} (B : Base P h₀) {name qual : Str} {params : Arguments} {body : List Stmt} {scope : Scope} {pos : Pos} {firstLine : Nat} {clos : List (Str × Addr)} {c Pt : Addr} {oc : Option Addr} {Q : Value → Shared → Prop}
    {rs' : Addr → List Rg} (F : Fm h₀ X s₀ env loc rs s) (u : ∀ c', UpdR (tabR Pt pos qual oc) (tabR Pt pos qual (some c')) rs (rs' c')) (eg : env.globals = mainGlobals) (hcode : env.code = .ref c) (C : CodeHd h₀ c Pt) (hcl : closureFor scope env = pure clos) (hw : ∀ a, (tabR Pt pos qual oc).foot a → Wr X s₀ a)
    (h : ∀ f c' doc pm ctv s', s₀.heap.get? f = none → (oc = some c' ∨ (oc = none ∧ s₀.heap.get? c' = none)) →
      Fm h₀ X s₀ env loc (fnR f (fnX name qual params body scope clos .none .none doc pm none (.ref c') ctv) :: rs' c') s' → Q (.ref f) s') :
    wpAny M A (makeFunction name qual params (.stmts body) scope env [] [] [] pos firstLine) Q E s := by
  obtain ⟨mg, bm, ob, ng, b1, b2, b3, b4, b5, b6⟩ := B.bm
  obtain ⟨ps, hP, ht, hno, hyes⟩ := F.rg _ (u 0).mem
  have hP0 : h₀.get? Pt = none := (F.rd _ (u 0).mem Pt (.inl rfl)).1
  have ng' := ns_keeps ng fun o e => F.base _ o e
  have hgP : mainGlobals ≠ Pt := fun q => by
    obtain ⟨o, es, ep, e, hd, _⟩ := ng
    rw [q, hP0] at e; cases e
  have hbP : bm ≠ Pt := fun q => by rw [q, hP0] at b3; cases b3
  have hbG : bm ≠ mainGlobals := fun q => by
    obtain ⟨o, es, ep, e, hd, _⟩ := ng
    rw [q, e] at b3; cases b3; rw [hd] at b6; cases b6
  have hB : s.heap.BuiltinsAt mg Pt := ⟨bm, ob, b1, b2, hbG, hbP, F.base _ _ b3, b4, b5, b6⟩
  cases oc with
  | none =>
    refine makeFunction_K (mg := mg) hcl eg ng' hcode (C.keeps F.base) hP ht (hno rfl) hgP hB fun c' ctv doc h' tk hx hge hlt hrec htb => ?_
    have ec' : s.heap.get? c' = none := by
      cases q : s.heap.get? c' with
      | none => rfl
      | some o => exact absurd (Heap.lt_size q) (Nat.not_lt.mpr hge)
    have F1 : Fm h₀ X s₀ env loc (rs' c') { s with heap := h', toks := tk } := by
      have hrec' := hrec
      obtain ⟨c2, oc2, vs, t2, e2, hoc, _⟩ := hrec'
      cases e2
      refine F.change (u c') (?_ : Md _ _ _) hw (fun a ha => ?_) ?_
      · exact ⟨fun b o hb e => hx b o (fun q => hb (.inl q)) e, fun b o e => if q : b = Pt then ⟨_, q ▸ htb⟩ else ⟨o, hx b o q e⟩, rfl, rfl⟩
      · rcases ha with rfl | ha
        · exact ⟨.inl (.inl rfl), _, htb⟩
        · cases ha; exact ⟨.inr ec', _, hoc⟩
      · refine ⟨_, htb, ?_, fun q => (nomatch q), fun c3 q => ?_⟩
        · simpa using TriplesOk_snoc _ _ _ _ ht
        · cases q; exact ⟨by simpa using codeAmong_snoc _ ht (hno rfl), hrec⟩
    exact h _ c' doc _ ctv _ (F1.mod.none_of (get?_size _)) (.inr ⟨rfl, F.mod.none_of ec'⟩) (F1.alloc tk rfl (fun a e => e) (Heap.get?_push_size _ rfl))
  | some c' =>
    refine makeFunction_hit (mg := mg) hcl eg ng' hcode (C.keeps F.base) hP ht (hyes c' rfl).1 hB fun ctv doc h' tk hk hsz => ?_
    have F1 : Fm h₀ X s₀ env loc (rs' c') { s with heap := h', toks := tk } := by
      have : rs' c' = rs := (u c').same
      rw [this]; exact F.keep (.of_kp hk)
    exact h _ c' doc _ ctv _ (F1.mod.none_of (get?_size _)) (.inl rfl) (F1.alloc tk rfl (fun a e => e) (Heap.get?_push_size _ rfl))
theorem x_def {name : Str} {params : Arguments} {body rest : List Stmt} {scope : Scope} {pos : Pos} {Q : Flow → Shared → Prop} (hd0 : params.defaults = []) (hk0 : params.kw_defaults = []) (ha : annTrees params none env = [])
    (h : wpAny M A (makeFunction name (qualnameIn env name name) params (.stmts body) scope env [] [] [] pos pos.line) (fun v s' => wpAny M A (storeName env name v) (fun _ s'' => wpAny M A (execs rest env) Q E s'') E s') E s) :
    wpAny M A (execs (.FunctionDef name params body [] none [] scope none name pos :: rest) env) Q E s := wpAny_execs_cons (nestDef_K hd0 hk0 ha h)
theorem cw_fnR {f : Addr} {fd : FuncData} {e : Expr} {args : List Expr} {pos : Pos} {Q : Value → Shared → Prop}
    (h : wpAny M A (spliced (backTo pos (starEach (e :: args) env))) (fun vs s₁ => (fnR f fd).holds s₁.heap ∧ wpAny M A (call (.ref f) vs) Q E s₁) E s)
    (he : starEach (e :: args) env = (false, eval e env) :: starEach args env := by with_unfolding_all rfl) :
    wpAny M A (callWith pos (.ref f) [] (backTo pos (starEach (e :: args) env)) []) Q E s := by
  rw [he] at h ⊢
  exact Calls.callWith_function (fd := fd) (Calls.evalArgs_plain (wpAny_mono h (fun vs s₁ h₁ => ⟨⟨h₁.1, rfl⟩, h₁.2⟩) fun _ _ x => x))
end
end

section -- B7
open PySem PySem.W
set_option Elab.async false
set_option maxRecDepth 100000
set_option linter.unusedVariables false

/-! lists made, put together -/
section
variable {M : Model} {prog : Program} {w : World} {A : Around} {E : Value → Shared → Prop} {h₀ : Heap} {X : Addr → Prop} {s₀ s s' : Shared} {env : Env} {loc loc' : List (Str × Value)} {rs rs' : List Rg}
  {l b : Addr} {xs ys : List Value} {Q : Value → Shared → Prop}

theorem nl_list (F : Fm h₀ X s₀ env loc rs s) (hz : xs.length ≤ 2 ^ 20) (h : ∀ a s', s₀.heap.get? a = none → Fm h₀ X s₀ env loc (listR a xs :: rs) s' → Q (.ref a) s') : wpAny M A (newList xs) Q E s :=
  wpAny_newObj_type (h _ _ (F.mod.none_of (get?_size _)) (F.alloc s.toks rfl (fun a e => e) ⟨0, Heap.get?_push_size _ rfl⟩)) (by show xs.toArray.size ≤ sizeLine; rw [List.size_toArray, sizeLine_eq]; lia)
theorem nl_tup (F : Fm h₀ X s₀ env loc rs s) (hz : xs.length ≤ 2 ^ 20) (h : ∀ a s', s₀.heap.get? a = none → Fm h₀ X s₀ env loc (tupR a xs :: rs) s' → Q (.ref a) s') : wpAny M A (newTuple xs) Q E s :=
  wpAny_newObj_type (h _ _ (F.mod.none_of (get?_size _)) (F.alloc s.toks rfl (fun a e => e) ⟨0, Heap.get?_push_size _ rfl⟩)) (by show xs.toArray.size ≤ sizeLine; rw [List.size_toArray, sizeLine_eq]; lia)
theorem ev_list {elts : List Expr} {pos : Pos} (h : wpAny M A (spliced (backTo pos (starEach elts env))) (fun vs s₁ => wpAny M A (newList vs) Q E s₁) E s) : wpAny M A (eval (.List elts pos) env) Q E s := PyProof.Rows.List_ h
theorem ev_tup {elts : List Expr} {k : Nat} {pos : Pos} (h : wpAny M A (spliced (backTo pos (starEach elts env))) (fun vs s₁ => wpAny M A (newTuple vs) Q E s₁) E s) : wpAny M A (eval (.Tuple elts k pos) env) Q E s := PyProof.Rows.Tuple_ h
theorem ev_dict0 {pos : Pos} (F : Fm h₀ X s₀ env loc rs s) {r : Addr → Rg} (hr : ∀ a, (r a).foot = (· = a)) (hh : ∀ a (h : Heap), h.get? a = some { cls := .type "dict", data := .dict #[] } → (r a).holds h)
    (h : ∀ a s', s₀.heap.get? a = none → Fm h₀ X s₀ env loc (r a :: rs) s' → Q (.ref a) s') : wpAny M A (eval (.Dict [] [] pos) env) Q E s :=
  wpAny_Dict_empty (h _ _ (F.mod.none_of (get?_size _)) (F.alloc s.toks rfl (fun a e => by rw [hr] at e; exact e) (hh _ _ (Heap.get?_push_size _ rfl))))

theorem op_mulL {x : Int} {u : Tok} (F : Fm h₀ X s₀ env loc rs s) (hm : listR l xs ∈ rs) (h0 : 0 ≤ x) (hx : xs.length * x.toNat ≤ 2 ^ 20) (hx2 : x < 2 ^ 30)
    (h : ∀ a s', s₀.heap.get? a = none → Fm h₀ X s₀ env loc (listR a (List.replicate x.toNat xs).flatten :: rs) s' → Q (.ref a) s') : wpAny (model prog w) A (binaryOp .Mult (.ref l) (.int x u)) Q E s := by
  obtain ⟨k, hl⟩ := F.listE hm
  refine wpAny_binaryOp_repeat_ref (T := "list") (U := "int") (by decide) ⟨_, hl, rfl⟩ (fun s' => typeIs_int s' x u) noFill_list_mul PySem.F.fills_int_mul PySem.F.slot_int_rmul repeat_list PySem.F.slot_int_index.lookup
    (call_meets PySem.F.slot_int_rmul (typeIs_int s x u) PySem.F.entry_int_rmul (PySem.F.args_int_rmul_2 _ _) (int___rmul___int_list x u l xs.toArray k)
      ⟨hl, rfl, ⟨_, hl, rfl⟩, call_meets PySem.F.slot_list_mul ⟨_, hl, rfl⟩ PySem.F.entry_list_mul (PySem.F.args_list_mul_2 _ _)
        (AutoListH.list___mul___list_int_3 l xs.toArray k x u (by simp [Builtin.List.listFitsIndex]; lia) (by simp; lia) (by simp [Builtin.List.listTooLong, sizeLine]; lia))
        ⟨hl, h _ _ (F.mod.none_of (get?_size _)) (F.alloc _ rfl (fun a e => e) ⟨0, ?_⟩)⟩⟩)
  rw [PyProof.Rows.listMul_foldl_if]
  exact Heap.get?_push_size _ rfl

theorem op_addL (F : Fm h₀ X s₀ env loc rs s) (hm : listR l xs ∈ rs) (hb : listR b ys ∈ rs) (hz : xs.length + ys.length ≤ 2 ^ 20)
    (h : ∀ a s', s₀.heap.get? a = none → Fm h₀ X s₀ env loc (listR a (xs ++ ys) :: rs) s' → Q (.ref a) s') : wpAny (model prog w) A (binaryOp .Add (.ref l) (.ref b)) Q E s := by
  obtain ⟨k, hl⟩ := F.listE hm
  obtain ⟨k2, hl2⟩ := F.listE hb
  exact P.add_list hl hl2 (h _ _ (F.mod.none_of (get?_size _)) (F.alloc s.toks rfl (fun a e => e) ⟨0, by simpa using Heap.get?_push_size _ rfl⟩)) (by simp [sizeLine_eq]; lia)

theorem no_list_iadd_fill : fillsInplaceSlot (.type "list") "add" (Operator.Add == .Add) = pure false := by
  unfold fillsInplaceSlot
  show (typeLookup (.type "list") (dunderI "add") >>= fun fi => pure (fi.isSome && !isSeqSlot fi)) = pure false
  rw [PySem.F.slot_list_iadd.lookup]; rfl
theorem seq_list_iadd : seqSlot? (.type "list") (dunderI "add") = pure (some (.builtin "list.__iadd__")) := seqSlot_of PySem.F.slot_list_iadd.lookup (by decide +kernel)
/-- xs += ys -/
theorem op_iaddL (F : Fm h₀ X s₀ env loc rs s) (up : UpdR (listR l xs) (listR l (xs ++ ys)) rs rs') (hb : listR b ys ∈ rs) (hw : Wr X s₀ l) (hz : xs.length + ys.length ≤ 2 ^ 20)
    (h : ∀ s', Fm h₀ X s₀ env loc rs' s' → Q (.ref l) s') : wpAny (model prog w) A (inplaceOp .Add (.ref l) (.ref b)) Q E s := by
  obtain ⟨k, hl⟩ := F.listE up.mem
  obtain ⟨k2, hl2⟩ := F.listE hb
  unfold inplaceOp
  refine wpAny_holding ?_
  refine wpAny_bind (wpAny_typeOf ⟨_, hl, rfl⟩ (wpAny_bind (wpAny_of_eq no_list_iadd_fill ?_)))
  show wpAny _ A (if false = true then _ else _) Q E s
  rw [if_neg Bool.false_ne_true]
  refine wpAny_bind (wpAny_binaryOp1_none (nm := "add") ⟨_, hl, rfl⟩ ⟨_, hl2, rfl⟩ noFill_list_add ?_)
  refine wpAny_bind (wpAny_of_eq seq_list_iadd ?_)
  refine wpAny_bind (wpAny_rule ?_)
  exact call_meets PySem.F.slot_list_iadd ⟨_, hl, rfl⟩ PySem.F.entry_list_iadd (PySem.F.args_list_iadd_2 _ _) (AutoSeq1.list___iadd___list_list_0 l xs.toArray k b ys.toArray k2
    (PyProof.Rows.extend_door (by simp [sizeLine_eq]; lia)) (by simp [sizeLine_eq]; lia) (by simp [sizeLine_eq]; lia)) ⟨hl, hl2, h _ (F.updL up hw hl (by simp))⟩
end
end

section -- B8
open PySem PySem.W PyProof.Rows
set_option Elab.async false
set_option maxRecDepth 100000
set_option linter.unusedVariables false

/-! the library's rules over Fr and News, used with the whole heap as the ledger -/
noncomputable abbrev H0 : Heap := {}
theorem H0_none (a : Addr) : H0.get? a = none := by simp [H0, Heap.get?]
noncomputable def allN (h : Heap) (L : Addr) : List (Addr × Obj) := (List.range h.objs.size).filterMap fun a => if a = L then none else (h.get? a).map fun o => (a, o)
theorem allN_mem {h : Heap} {L a : Addr} {o : Obj} : (a, o) ∈ allN h L ↔ h.get? a = some o ∧ a ≠ L := by
  unfold allN
  rw [List.mem_filterMap]
  constructor
  · rintro ⟨b, _, hb⟩
    split at hb
    · cases hb
    · rename_i hne
      obtain ⟨o', e, e2⟩ := Option.map_eq_some_iff.mp hb
      cases e2
      exact ⟨e, hne⟩
  · rintro ⟨e, hne⟩
    exact ⟨a, List.mem_range.mpr (Heap.lt_size e), by rw [if_neg hne, e]; rfl⟩
theorem allN_ok (h : Heap) (L : Addr) : News H0 L h (allN h L) := fun p hp => by
  obtain ⟨a, o⟩ := p
  obtain ⟨e, hne⟩ := allN_mem.mp hp
  exact ⟨e, hne, H0_none a⟩

section
variable {prog : Program} {w : World} {A : Around} {E : Value → Shared → Prop} {h₀ : Heap} {X : Addr → Prop} {s₀ s : Shared} {env : Env} {loc : List (Str × Value)} {rs : List Rg}

/-- everything but the frame's own object as it was; the frame's names as they were -/
theorem Fm.fr (F : Fm h₀ X s₀ env loc rs s) : ∃ m, Fr H0 env.locals s.heap m ∧ ∀ p ∈ loc, VarAt env s.heap m p.1 p.2 := by
  obtain ⟨m, n, hv⟩ := F.ns
  exact ⟨m, ⟨n, fun b o e => absurd e (by rw [H0_none]; simp), Nat.zero_le _⟩, hv⟩
theorem Fm.back {m : Str → Option Value} {h' : Heap} {t : Nat} (F : Fm h₀ X s₀ env loc rs s) (hv : ∀ p ∈ loc, VarAt env s.heap m p.1 p.2) (F' : Fr H0 env.locals h' m) (N' : News H0 env.locals h' (allN s.heap env.locals)) :
    Fm h₀ X s₀ env loc rs { s with heap := h', toks := t } := by
  have k : ∀ b o, b ≠ env.locals → s.heap.get? b = some o → h'.get? b = some o := fun b o hb e => (N' (b, o) (allN_mem.mpr ⟨e, hb⟩)).1
  have nL : ∀ c, c ∈ env.cells.map (·.2) → c ≠ env.locals := fun c hc e => (List.nodup_cons.mp F.cnd).1 (e ▸ hc)
  obtain ⟨oL, _, _, eL, _⟩ := F'.ns
  have md : Md (· = env.locals) s { s with heap := h', toks := t } := ⟨fun b o hb e => k b o hb e, fun b o e => if q : b = env.locals then ⟨oL, q ▸ eL⟩ else ⟨o, k b o q e⟩, rfl, rfl⟩
  refine ⟨F.mod.trans md fun b e => .inr (e ▸ F.lw), md.base F.base fun a e => e ▸ (F.vd _ (.head _)).1, F.fk, F.cnd, F.lnd, ⟨m, F'.ns, fun p hp => ?_⟩, F.lw, ?_, ?_, ?_, F.rp, ?_⟩
  · cases hv p hp with
    | loc hk hd hm => exact .loc hk hd hm
    | cel c hk hd hc ho => exact .cel c hk hd hc (cell_keeps ho fun o e => k _ o (nL _ (List.mem_map.mpr ⟨(p.1, c), mem_of_lookup hc, rfl⟩)) e)
  · intro a v; obtain ⟨h1, o, e⟩ := F.vd a v; exact ⟨h1, md.dom a o e⟩
  · intro r hr
    refine r.stable _ _ (fun a o f e => k a o (fun q => (F.rd r hr a f).2.2 (by rw [q]; exact .head _)) e) (F.rg r hr)
  · intro r hr a f; obtain ⟨h1, ⟨o, e⟩, h3⟩ := F.rd r hr a f; exact ⟨h1, md.dom a o e, h3⟩
  · intro p hp; obtain ⟨v, x⟩ := F.cc p hp; exact ⟨v, cell_keeps x fun o e => k _ o (nL _ (List.mem_map.mpr ⟨p, hp, rfl⟩)) e⟩
theorem Fm.backNew {m : Str → Option Value} {h' : Heap} {t : Nat} {D : Addr} {o : Obj} {r : Rg} (F : Fm h₀ X s₀ env loc rs s) (hv : ∀ p ∈ loc, VarAt env s.heap m p.1 p.2) (F' : Fr H0 env.locals h' m)
    (N' : News H0 env.locals h' ((D, o) :: allN s.heap env.locals)) (hD : ∀ q ∈ allN s.heap env.locals, q.1 < D) (hr : r.foot = (· = D)) (hh : r.holds h') :
    s₀.heap.get? D = none ∧ Fm h₀ X s₀ env loc (r :: rs) { s with heap := h', toks := t } := by
  have G := F.back (t := t) hv F' fun p hp => N' p (.tail _ hp)
  have hDL : D ≠ env.locals := (N' (D, o) (.head _)).2.1
  have hDs : s.heap.get? D = none := by
    cases q : s.heap.get? D with
    | none => rfl
    | some o' => exact absurd (hD (D, o') (allN_mem.mpr ⟨q, hDL⟩)) (Nat.lt_irrefl _)
  have b0 : h₀.get? D = none := by
    cases q : h₀.get? D with
    | none => rfl
    | some o => rw [F.base D o q] at hDs; cases hDs
  refine ⟨F.mod.none_of hDs, ⟨G.mod, G.base, G.fk, G.cnd, G.lnd, G.ns, G.lw, G.vd, ?_, ?_, ?_, G.cc⟩⟩
  · intro q hq; rcases List.mem_cons.mp hq with rfl | hq; exact hh; exact G.rg q hq
  · intro q hq a f
    rcases List.mem_cons.mp hq with rfl | hq
    · rw [hr] at f; subst f
      refine ⟨b0, ⟨_, (N' (a, o) (.head _)).1⟩, fun v => ?_⟩
      obtain ⟨_, o', e'⟩ := F.vd a v
      rw [hDs] at e'; cases e'
    · exact G.rd q hq a f
  · refine List.pairwise_cons.mpr ⟨fun q hq a f g => ?_, G.rp⟩
    rw [hr] at f; subst f
    obtain ⟨_, ⟨o, e⟩, _⟩ := F.rd q hq a g
    rw [hDs] at e; cases e

theorem Fm.perm {rs' : List Rg} (F : Fm h₀ X s₀ env loc rs s) (hp : rs'.Perm rs) : Fm h₀ X s₀ env loc rs' s :=
  ⟨F.mod, F.base, F.fk, F.cnd, F.lnd, F.ns, F.lw, F.vd, fun r hr => F.rg r (hp.subset hr), fun r hr => F.rd r (hp.subset hr), (hp.pairwise_iff (fun h a f g => h a g f)).mpr F.rp, F.cc⟩
theorem Fm.got {s' : Shared} {r : Rg} {a : Addr} (F : Fm h₀ X s₀ env loc rs s) (m : Md NoX s s') (hn : s.heap.get? a = none)
    (H : Hands h₀ [r] s') (hr : r.foot = (· = a) := by rfl) : Fm h₀ X s₀ env loc (r :: rs) s' :=
  F.add m (fun b f => by rw [hr] at f; subst f; exact ⟨hn, (H.rd r (.head _) _ (by rw [hr])).2⟩) (H.rg r (.head _))
/-! rules got so -/
theorem op_listcopy {l : Addr} {xs : List Value} {Q : Value → Shared → Prop} (F : Fm h₀ X s₀ env loc rs s) (hm : listR l xs ∈ rs) (hz : xs.length ≤ 2 ^ 20)
    (h : ∀ a s', s₀.heap.get? a = none → Fm h₀ X s₀ env loc (listR a xs :: rs) s' → Q (.ref a) s') : wpAny (model prog w) A (call (.type "list") [.ref l]) Q E s := by
  obtain ⟨m, F0, hv⟩ := F.fr
  refine list_copyK F0 (allN_ok _ _) (F.list hm) (fun D c h' F' N' hD => ?_) (by simp [sizeLine_eq]; lia)
  obtain ⟨h1, h2⟩ := F.backNew (t := s.toks) (r := listR D xs) hv F' N' hD rfl ⟨c, (N' _ (.head _)).1⟩
  exact h D _ h1 h2
theorem op_sorted {l : Addr} {xs : List Value} {ns : List Int} {Q : Value → Shared → Prop} (F : Fm h₀ X s₀ env loc rs s) (hm : listR l xs ∈ rs) (hI : IntsAre xs ns) (hz : xs.length < 64)
    (h : ∀ a s' vs' ns', s₀.heap.get? a = none → Fm h₀ X s₀ env loc (listR a vs' :: rs) s' → IntsAre vs' ns' → ns'.Perm ns → ns'.Pairwise (· ≤ ·) → Q (.ref a) s') : wpAny (model prog w) A (call (.builtin "sorted") [.ref l]) Q E s := by
  obtain ⟨m, F0, hv⟩ := F.fr
  refine sorted_N F0 (allN_ok _ _) (F.list hm) hI hz fun h' vs' ns' e F' N' hi hp hs => ?_
  obtain ⟨h1, h2⟩ := F.backNew (t := s.toks) (r := listR (s.heap.objs.size + 1) vs') hv F' N' (fun q hq => by
    obtain ⟨a, o⟩ := q
    exact Nat.lt_succ_of_lt (Heap.lt_size (allN_mem.mp hq).1)) rfl ⟨e, (N' _ (.head _)).1⟩
  exact h _ _ vs' ns' h1 h2 hi hp hs
theorem op_notin {l : Addr} {xs : List Value} {ns : List Int} {k : Int} {t : Tok} {Q : Value → Shared → Prop} (F : Fm h₀ X s₀ env loc rs s) (hm : listR l xs ∈ rs) (hI : IntsAre xs ns)
    (h : Q (.bool (!(ns.any (· == k)))) s) : wpAny (model prog w) A (compareOp .NotIn (.int k t) (.ref l)) Q E s := notin_list_ints (F.list hm) hI h
end
end

section -- B9
open PySem PySem.W PyProof.Rows
set_option Elab.async false
set_option maxRecDepth 100000
set_option linter.unusedVariables false

section
variable {M : Model} {prog : Program} {w : World} {A : Around} {E : Value → Shared → Prop} {h₀ : Heap} {X : Addr → Prop} {s₀ s : Shared} {env : Env} {loc : List (Str × Value)} {rs : List Rg}

/-! slices -/
noncomputable def slcR (a : Addr) (l u st : Value) : Rg := ⟨(· = a), fun h => h.IsSliceOf a l u st, fun _ _ k ⟨o, e, r⟩ => ⟨o, k a o rfl e, r⟩⟩
theorem ev_slc {lower upper step : Option Expr} {p : Pos} {Q : Value → Shared → Prop}
    (h : wpAny M A (evalPart lower env) (fun l s₁ => wpAny M A (evalPart upper env) (fun u s₂ => wpAny M A (evalPart step env) (fun st s₃ =>
      wpAny M A (newFields "slice" [l, u, st]) Q E s₃) E s₂) E s₁) E s) :
    wpAny M A (eval (.Slice lower upper step p) env) Q E s := by
  rw [arm_eval_Slice]
  exact wpAny_bind (wpAny_mono h (fun l s₁ h₁ => wpAny_bind (wpAny_holding (wpAny_mono h₁ (fun u s₂ h₂ => wpAny_bind (wpAny_holding (wpAny_mono h₂ (fun st s₃ h₃ => h₃) fun _ _ x => x))) fun _ _ x => x))) fun _ _ x => x)
theorem ep_none {Q : Value → Shared → Prop} (h : Q .none s) : wpAny M A (evalPart none env) Q E s := wpAny_pure h
theorem ep_some {e : Expr} {Q : Value → Shared → Prop} (h : wpAny M A (eval e env) Q E s) : wpAny M A (evalPart (some e) env) Q E s := h
theorem nl_slc {l u st : Value} {Q : Value → Shared → Prop} (F : Fm h₀ X s₀ env loc rs s) (h : ∀ a s', s₀.heap.get? a = none → Fm h₀ X s₀ env loc (slcR a l u st :: rs) s' → Q (.ref a) s') :
    wpAny M A (newFields "slice" [l, u, st]) Q E s :=
  wpAny_newObj_type <| h _ _ (F.mod.none_of (get?_size _)) (F.alloc s.toks rfl (fun a e => e) (Heap.IsSliceOf.new ..))
/-- xs[l:u:st], the list wherever it lies -/
theorem sub_slc {value slice : Expr} {l a : Addr} {xs : List Value} {vl vu vs : Value} {lo hi st : Option Int} {ops : List Value} {Q : Value → Shared → Prop} (F : Fm h₀ X s₀ env loc rs s) (hl : s.heap.IsList l xs.toArray) (hm : slcR a vl vu vs ∈ rs)
    (pl : IsPart vl lo) (pu : IsPart vu hi) (ps : IsPart vs st) (h0 : st ≠ some 0) (hz : xs.length ≤ 2 ^ 20)
    (h : ∀ b s', s₀.heap.get? b = none → Fm h₀ X s₀ env loc (listR b (slicePick xs.toArray lo hi st).toList :: rs) s' → Q (.ref b) s')
    (hs : subscripted slice false (.ref l) (.ref a) = operate ops (getItem (.ref l) (.ref a)) := by with_unfolding_all rfl) :
    wpAny (model prog w) A (subscriptTail value slice (.ref l) (.ref a)) Q E s := by
  refine tail_any hl.typeIs PySem.slot_list_getitem.lookup (wpAny_getItem_list_slice hl (F.rg _ hm) pl pu ps h0 (h _ _ (F.mod.none_of (get?_size _)) (F.alloc s.toks rfl (fun a e => e) ⟨0, ?_⟩)) (by simp [sizeLine_eq]; lia)) hs
  simpa using Heap.get?_push_size _ rfl

/-! sums -/
theorem ints_pairs {vs : List Value} {ns : List Int} (h : IntsAre vs ns) : ∃ xs : Array (Int × Tok), vs.toArray = intItems xs := by
  induction h with
  | nil => exact ⟨#[], by simp [intItems]⟩
  | cons n t _ ih =>
    obtain ⟨xs, e⟩ := ih
    refine ⟨#[(n, t)] ++ xs, ?_⟩
    unfold intItems at e ⊢
    rw [Array.map_append, ← e]; simp
theorem op_sum (hh : A.handled = none) {l : Addr} {xs : List Value} {ns : List Int} {Q : Value → Shared → Prop} (F : Fm h₀ X s₀ env loc rs s) (hm : listR l xs ∈ rs) (hI : IntsAre xs ns)
    (h : ∀ i t s', Fm h₀ X s₀ env loc rs s' → Q (.int i t) s') : wpAny (model prog w) A (call (.builtin "sum") [.ref l]) Q E s := by
  obtain ⟨ps, e⟩ := ints_pairs hI
  refine sum_intListG hh (e ▸ F.list hm) fun h' tk t' k => h _ _ _ (F.keep (.of_kp k))
theorem ints_pick {vs : List Value} {ns : List Int} (h : IntsAre vs ns) (lo hi st : Option Int) : ∃ ms, IntsAre (slicePick vs.toArray lo hi st).toList ms := by
  have key : ∀ us : List Value, (∀ x ∈ us, ∃ i t, x = .int i t) → ∃ ms, IntsAre us ms := by
    intro us
    induction us with
    | nil => intro _; exact ⟨[], .nil⟩
    | cons x r ih =>
      intro hx
      obtain ⟨i, t, rfl⟩ := hx x (.head _)
      obtain ⟨ms, hm⟩ := ih fun y hy => hx y (.tail _ hy)
      exact ⟨i :: ms, .cons i t hm⟩
  have all : ∀ x ∈ vs, ∃ i t, x = .int i t := by
    clear key
    induction h with
    | nil => intro x hx; cases hx
    | cons n t _ ih =>
      intro x hx
      rcases List.mem_cons.mp hx with rfl | hx
      · exact ⟨_, _, rfl⟩
      · exact ih x hx
  refine key _ fun x hx => all x ?_
  unfold slicePick at hx
  obtain ⟨i, _, e⟩ := List.mem_filterMap.mp (by simpa using hx)
  exact List.mem_of_getElem? (by simpa using e)
end
end

open PySem PySem.W

local macro_rules | `(tactic| kqd_in) => `(tactic| first
    | with_reducible exact List.mem_cons_self
    | (with_reducible refine List.mem_cons_of_mem _ ?_; kqd_in))
local macro_rules | `(tactic| kqd_sub) => `(tactic| (repeat (first | (with_reducible exact UpdL.hit) | (with_reducible exact UpdL.nil) | (apply UpdL.skip; focus decide))))
local macro_rules | `(tactic| kd_subs) => `(tactic| (repeat (first | (with_reducible exact UpdR.hit) | (apply UpdR.skip))))
local macro_rules | `(tactic| k_subL) => `(tactic| (repeat (first | (with_reducible exact List.Sublist.refl _) | (with_reducible apply List.Sublist.cons_cons) | (apply List.Sublist.cons))))
-- one step of an expression or a statement
local macro_rules | `(tactic| kpc_turns) => `(tactic| first
    | (with_reducible (show wpAny _ _ (eval (Expr.Name _ _) _) _ _ _; first
        | refine ev_var (by assumption) (by kqd_in) ?_
        | refine ev_glb (by assumption) (by assumption) (by kqd_in) ?_))
    | (with_reducible (show wpAny _ _ (eval _ _) _ _ _; first
        | (refine ev_int (by assumption) ?_; intro _ _ _)
        | refine wpAny_BinOp ?_
        | refine PyProof.Rows.Subscript_ ?_
        | refine wpAny_Compare1 ?_
        | refine ev_call ?_
        | (refine ev_str (by assumption) ?_; intro _ _ _)
        | refine PyProof.Rows.UnaryOp_ ?_
        | refine PyProof.Rows.Constant_none ?_
        | refine PyProof.Rows.Constant_bool ?_))
    | (with_reducible (show wpAny _ _ (execs _ _) _ _ _; first
        | refine x_assign ?_
        | refine x_assignSub ?_
        | refine x_aug ?_
        | refine x_ret ?_
        | refine x_nil ?_
        | refine x_expr ?_
        | refine x_cont ?_
        | refine x_brk ?_
        | refine x_ret0 ?_))
    | (with_reducible (show wpAny _ _ (storeName _ _ _) _ _ _; first
        | (refine st_loc (by assumption) (by assumption) (by kqd_in) (by kqd_sub) ?_; intro _ _)))
    | (with_reducible (show wpAny _ _ (loadName _ _) _ _ _; first
        | refine ld_var (by assumption) (by kqd_in) ?_))
    | (with_reducible (show wpAny _ _ (callWith _ _ _ _ _) _ _ _; first
        | refine cw_fn (by assumption) ?_
        | refine cw_b1 ?_
        | refine cw_m1 ?_
        | refine cw_m0 ?_
        | refine cw_t1 ?_
        | refine cw_m2 ?_))
    | (with_reducible (show wpAny _ _ (spliced _) _ _ _; first
        | refine a_cons ?_
        | refine a_nil ?_))
    | (with_reducible (show wpAny _ _ (isTrue _ _ _) _ _ _; first
        | refine wpAny_isTrue_Compare1 ?_
        | refine PyProof.Rows.isTrue_and_nil ?_
        | refine PyProof.Rows.isTrue_and ?_
        | refine PyProof.Rows.isTrue_not ?_))
    | (with_reducible (show wpAny _ _ (compareOp _ _ _) _ _ _; first
        | refine PyProof.Rows.lt_int ?_
        | refine PyProof.Rows.gt_int ?_
        | refine PyProof.Rows.eq_int ?_
        | refine PyProof.Rows.ne_int ?_
        | refine PyProof.Rows.le_int ?_))
    | (with_reducible (show wpAny _ _ (assign _ _ _) _ _ _; first
        | refine as_name ?_))
    | (with_reducible (show wpAny _ _ (truthy _) _ _ _; first
        | refine wpAny_truthy_bool ?_))
    | (with_reducible (show wpAny _ _ (binaryOp _ _ _) _ _ _; first
        | (refine op_add (by assumption) ?_; intro _ _ _)
        | (refine op_sub (by assumption) ?_; intro _ _ _)
        | (refine op_xor (by assumption) ?_; intro _ _ _)))
    | (with_reducible (show wpAny _ _ (inplaceOp _ _ _) _ _ _; first
        | (refine op_iadd (by assumption) ?_; intro _ _ _)
        | (refine op_isub (by assumption) ?_; intro _ _ _)))
    | (with_reducible (show wpAny _ _ (unaryOp _ _) _ _ _; first
        | (refine op_neg (by assumption) ?_; intro _ _ _)))
    | (with_reducible refine And.intro (Fm.base (by assumption)) ?_)
    | (with_reducible refine WithL.in ?_; intro _ _ _ _)
    | (with_reducible refine WithE.in ?_; intro _ _ _)
    | (with_reducible refine if_tt ?_)
    | (with_reducible refine if_ff ?_)
    | (with_reducible refine (by assumption : ToN _ _) _ _ (by first | exact Nx.n | exact Nx.c) ?_)
    | (with_reducible refine (by assumption : ToF _ _ _) _ ?_)
    | (with_reducible refine (by assumption : ToR _ _) _ _ ?_)
    | (with_reducible refine (by assumption : ToQ _ _) _ _ (by first | exact Nn.b | exact Nn.c | exact Nn.r _) ?_))
local macro_rules | `(tactic| kfm_turns) => `(tactic| repeat kpc_turns)

section -- H1
open PySem PySem.W
set_option Elab.async false
set_option maxRecDepth 100000
set_option linter.unusedVariables false
noncomputable section



/-- ints or strs compared -/
noncomputable def ltV : Value → Value → Bool
  | .int a _, .int b _ => decide (a < b)
  | .str x _, .str y _ => decide (x.cps.toList < y.cps.toList)
  | _, _ => false
noncomputable def IsI (v : Value) : Prop := ∃ i t, v = .int i t
noncomputable def IsS (v : Value) : Prop := ∃ x t, v = .str x t
noncomputable def Kin (xs : List Value) : Prop := (∀ v ∈ xs, IsI v) ∨ (∀ v ∈ xs, IsS v)

section
variable {prog : Program} {w : World} {A : Around} {E : Value → Shared → Prop} {s : Shared}
theorem lt_val {a b : Value} {Q : Value → Shared → Prop} (hc : (IsI a ∧ IsI b) ∨ (IsS a ∧ IsS b)) (h : Q (.bool (ltV a b)) s) : wpAny (model prog w) A (compareOp .Lt a b) Q E s := by
  rcases hc with ⟨⟨i, t, rfl⟩, j, u, rfl⟩ | ⟨⟨i, t, rfl⟩, j, u, rfl⟩
  · exact PyProof.Rows.lt_int h
  · exact PyProof.Rows.lt_str h
end
theorem Kin.two {xs : List Value} (k : Kin xs) {a b : Value} (ha : a ∈ xs) (hb : b ∈ xs) : (IsI a ∧ IsI b) ∨ (IsS a ∧ IsS b) :=
  k.imp (fun h => ⟨h a ha, h b hb⟩) fun h => ⟨h a ha, h b hb⟩

/-- what _siftdown makes -/
noncomputable def sdown (lt : Value → Value → Bool) (sp : Nat) (xs : List Value) (p : Nat) (v : Value) : List Value :=
  if h : sp < p then
    match xs[(p - 1) / 2]? with
    | some q => if lt v q then sdown lt sp (xs.set p q) ((p - 1) / 2) v else xs.set p v
    | none => xs.set p v
  else xs.set p v
termination_by p
decreasing_by lia

theorem par_int {p : Nat} (h : 0 < p) : ((p : Int) - 1).fdiv (2 ^ (1 : Int).toNat) = (((p - 1) / 2 : Nat) : Int) := by
  rw [Int.fdiv_eq_ediv_of_nonneg _ (by decide)]
  show ((p : Int) - 1) / 2 = _
  lia

set_option maxHeartbeats 4000000
theorem siftdown_ok {prog : Program} {w : World} {P : Params} {h₀ : Heap} (B : Base P h₀) {A : Around} {E : Value → Shared → Prop} {s : Shared} {l : Addr} {xs : List Value} {sp p : Nat} {t1 t2 : Tok} {v : Value} {Q : Value → Shared → Prop}
    (room : A.depth < 900) (H : Hands h₀ [listR l xs] s) (hK : Kin xs) (hsz : xs.length < 2 ^ 20) (hv : xs[p]? = some v)
    (h : ∀ s', Md (· = l) s s' → (listR l (sdown ltV sp xs p v)).holds s'.heap → Q .none s') :
    wpAny (model prog w) A (call (.ref 183) [.ref l, .int sp t1, .int p t2]) Q E s := by
  refine enter (X := (· = l)) H (fn_siftdown B) (Nat.lt_trans room (by decide)) (by decide +kernel) (by kernel_rfl) (binds := [("heap", .ref l), ("startpos", .int sp t1), ("pos", .int p t2)]) (by kernel_rfl) (names := ["heap", "startpos", "pos"]) rfl (by decide +kernel) ?_
  intro L s' F
  have S := sc_siftdown B L
  have hp : p < xs.length := by
    rcases Nat.lt_or_ge p xs.length with h | h
    · exact h
    · rw [List.getElem?_eq_none h] at hv; cases hv
  refine x_assign ?_
  kfm_turns
  refine sub_list F (by kqd_in) (by lia) (by lia) (by simpa using hv) ?_
  kfm_turns
  have hw : Wr (fun x => x = l) s l := .inl rfl
  refine x_while (fun n s' => E2 fun ys t => ys.length = xs.length ∧ Kin (v :: ys) ∧ n < xs.length ∧ sdown ltV sp ys n v = sdown ltV sp xs p v ∧
      Fm h₀ (fun x => x = l) s (fenv (fnOf 183) 183 L) [("heap", .ref l), ("startpos", .int sp t1), ("pos", .int n t), ("newitem", v)] [listR l ys] s') p ?_ ?_
  · exact ⟨xs, t2, rfl, by
      have := List.mem_of_getElem? hv
      exact hK.imp (fun h u hu => (List.mem_cons.mp hu).elim (fun e => e ▸ h _ this) (h u)) (fun h u hu => (List.mem_cons.mp hu).elim (fun e => e ▸ h _ this) (h u)), hp, rfl, by assumption⟩
  · clear F
    intro n s2
    (repeat (first | (with_reducible refine WithL.in fun _ _ _ _ => ?_) | (with_reducible refine WithE.in fun _ _ _ => ?_)))
    rintro ⟨ys, t, e1, k1, e2, e3, F⟩
    kfm_turns
    refine if_dec (fun c => ?_) (fun c => ?_)
    · kfm_turns
      refine op_rsh (by decide) (by assumption) ?_; intro _ _ _
      rw [par_int (by lia)]
      kfm_turns
      obtain ⟨q, hq⟩ : ∃ q, ys[(n - 1) / 2]? = some q := ⟨_, List.getElem?_eq_getElem (show (n - 1) / 2 < ys.length by lia)⟩
      refine sub_list (by assumption) (by kqd_in) (by lia) (by lia) (v := q) (by rw [Int.toNat_natCast]; exact hq) ?_
      kfm_turns
      refine x_if ?_
      kfm_turns
      refine lt_val (k1.two (.head _) (.tail _ (List.mem_of_getElem? hq))) ?_
      kfm_turns
      refine if_bool (fun d => ?_) (fun d => ?_)
      · kfm_turns
        refine set_list (by assumption) (by kd_subs) (by assumption) (by lia) (by lia) (by lia) ?_
        intro s3 F3
        kfm_turns
        refine ⟨_, ?_, ys.set n q, _, by simpa using e1, ?_, ?_, ?_, (Fm.locsub (by assumption) (by k_subL))⟩
        · lia
        · exact k1.imp (fun h u hu => (List.mem_cons.mp hu).elim (fun e => e ▸ h _ (.head _)) fun hu => (List.mem_or_eq_of_mem_set hu).elim (fun m => h _ (.tail _ m)) fun e => e ▸ h _ (.tail _ (List.mem_of_getElem? hq)))
            (fun h u hu => (List.mem_cons.mp hu).elim (fun e => e ▸ h _ (.head _)) fun hu => (List.mem_or_eq_of_mem_set hu).elim (fun m => h _ (.tail _ m)) fun e => e ▸ h _ (.tail _ (List.mem_of_getElem? hq)))
        · lia
        · rw [← e3]
          conv => rhs; unfold sdown
          rw [dif_pos (by lia), hq]
          simp only [d, if_true]
      · kfm_turns
        refine set_list (by assumption) (by kd_subs) (by assumption) (by lia) (by lia) (by lia) ?_
        intro s3 F3
        kfm_turns
        refine h _ F3.mod ?_
        have : sdown ltV sp xs p v = ys.set n v := by
          rw [← e3]; unfold sdown
          rw [dif_pos (by lia), hq]
          simp only [d, Bool.false_eq_true, if_false]
        rw [this]
        simpa using F3.rg _ (.head _)
    · kfm_turns
      refine set_list (by assumption) (by kd_subs) (by assumption) (by lia) (by lia) (by lia) ?_
      intro s3 F3
      kfm_turns
      refine h _ F3.mod ?_
      have : sdown ltV sp xs p v = ys.set n v := by
        rw [← e3]; unfold sdown
        rw [dif_neg (by lia)]
      rw [this]
      simpa using F3.rg _ (.head _)
end
end

section -- H2
open PySem PySem.W
set_option Elab.async false
set_option maxRecDepth 100000
set_option linter.unusedVariables false
noncomputable section



/-- the child that _siftup takes -/
noncomputable def chd (lt : Value → Value → Bool) (xs : List Value) (p : Nat) : Nat :=
  if 2 * p + 2 < xs.length ∧ lt (xs.getD (2 * p + 1) .none) (xs.getD (2 * p + 2) .none) = false then 2 * p + 2 else 2 * p + 1
theorem chd_lt {lt : Value → Value → Bool} {xs : List Value} {p : Nat} (h : 2 * p + 1 < xs.length) : p < chd lt xs p ∧ chd lt xs p < xs.length := by
  unfold chd; split <;> lia
noncomputable def sup1 (lt : Value → Value → Bool) (xs : List Value) (p : Nat) : List Value × Nat :=
  if h : 2 * p + 1 < xs.length then sup1 lt (xs.set p (xs.getD (chd lt xs p) .none)) (chd lt xs p) else (xs, p)
termination_by xs.length - p
decreasing_by have := chd_lt (lt := lt) h; simp only [List.length_set]; lia
theorem sup1_len (lt : Value → Value → Bool) : ∀ (n : Nat) (xs : List Value) (p : Nat), xs.length - p = n → p < xs.length → (sup1 lt xs p).1.length = xs.length ∧ (sup1 lt xs p).2 < xs.length := by
  intro n
  induction n using Nat.strongRecOn with
  | ind n ih =>
    intro xs p e hp
    unfold sup1
    split
    · rename_i h
      have h2 := chd_lt (lt := lt) h
      have := ih _ (by simp only [List.length_set]; lia) (xs.set p (xs.getD (chd lt xs p) .none)) (chd lt xs p) rfl (by simp only [List.length_set]; lia)
      simpa using this
    · exact ⟨rfl, hp⟩
noncomputable def sup (lt : Value → Value → Bool) (xs : List Value) (p : Nat) : List Value :=
  sdown lt p ((sup1 lt xs p).1.set (sup1 lt xs p).2 (xs.getD p .none)) (sup1 lt xs p).2 (xs.getD p .none)

theorem Kin.set {xs : List Value} {v : Value} {n : Nat} (k : Kin (v :: xs)) : Kin (v :: xs.set n v) :=
  k.imp (fun h u hu => (List.mem_cons.mp hu).elim (fun e => e ▸ h _ (.head _)) fun hu => (List.mem_or_eq_of_mem_set hu).elim (fun m => h _ (.tail _ m)) fun e => e ▸ h _ (.head _))
    (fun h u hu => (List.mem_cons.mp hu).elim (fun e => e ▸ h _ (.head _)) fun hu => (List.mem_or_eq_of_mem_set hu).elim (fun m => h _ (.tail _ m)) fun e => e ▸ h _ (.head _))
theorem Kin.set1 {xs : List Value} {v : Value} {n : Nat} (k : Kin xs) (hv : v ∈ xs) : Kin (xs.set n v) :=
  k.imp (fun h u hu => (List.mem_or_eq_of_mem_set hu).elim (h u) fun e => e ▸ h _ hv) (fun h u hu => (List.mem_or_eq_of_mem_set hu).elim (h u) fun e => e ▸ h _ hv)
theorem Kin.cons1 {xs : List Value} {v : Value} (k : Kin xs) (hv : v ∈ xs) : Kin (v :: xs) :=
  k.imp (fun h u hu => (List.mem_cons.mp hu).elim (fun e => e ▸ h _ hv) (h u)) (fun h u hu => (List.mem_cons.mp hu).elim (fun e => e ▸ h _ hv) (h u))
theorem Kin.mono {xs ys : List Value} (k : Kin xs) (h : ∀ v ∈ ys, v ∈ xs) : Kin ys := k.imp (fun a v hv => a v (h v hv)) fun a v hv => a v (h v hv)
theorem getD_some {xs : List Value} {n : Nat} (h : n < xs.length) : xs[n]? = some (xs.getD n .none) := by
  rw [List.getD_eq_getElem?_getD, List.getElem?_eq_getElem h]; rfl
theorem getD_mem {xs : List Value} {n : Nat} (h : n < xs.length) : xs.getD n .none ∈ xs := List.mem_of_getElem? (getD_some h)

set_option maxHeartbeats 4000000
theorem siftup_ok {prog : Program} {w : World} {P : Params} {h₀ : Heap} (B : Base P h₀) {A : Around} {E : Value → Shared → Prop} {s : Shared} {l : Addr} {xs : List Value} {p : Nat} {t2 : Tok} {Q : Value → Shared → Prop}
    (room : A.depth < 899) (H : Hands h₀ [listR l xs] s) (hK : Kin xs) (hsz : xs.length < 2 ^ 20) (hp : p < xs.length)
    (h : ∀ s', Md (· = l) s s' → (listR l (sup ltV xs p)).holds s'.heap → Q .none s') :
    wpAny (model prog w) A (call (.ref 190) [.ref l, .int p t2]) Q E s := by
  refine enter (X := (· = l)) H (fn_siftup B) (Nat.lt_trans room (by decide)) (by decide +kernel) (by kernel_rfl) (binds := [("heap", .ref l), ("pos", .int p t2)]) (by kernel_rfl) (names := ["heap", "pos"]) rfl (by decide +kernel) ?_
  intro L s' F
  have S := sc_siftup B L
  have hw : Wr (fun x => x = l) s l := .inl rfl
  have k183 := fn_siftdown B
  refine x_assign ?_
  kfm_turns
  refine op_len (by assumption) (by kqd_in) (by lia) ?_; intro _ _ _
  kfm_turns
  refine sub_list (by assumption) (by kqd_in) (by lia) (by lia) (getD_some (by simpa using hp)) ?_
  rw [Int.toNat_natCast]
  kfm_turns
  refine op_mul (by assumption) ?_ (.of_left (by decide)); intro _ _ _
  kfm_turns
  refine x_while (fun n s' => E6 fun ys q t t3 t4 t5 => n = xs.length - q ∧ q < xs.length ∧ ys.length = xs.length ∧ Kin (xs.getD p .none :: ys) ∧ sup1 ltV ys q = sup1 ltV xs p ∧
      Fm h₀ (fun x => x = l) s (fenv (fnOf 190) 190 L) [("heap", .ref l), ("pos", .int q t), ("endpos", .int xs.length t3), ("startpos", .int p t4), ("newitem", xs.getD p .none), ("childpos", .int (2 * q + 1) t5)] [listR l ys] s')
      (xs.length - p) ⟨xs, p, _, _, _, _, rfl, hp, rfl, hK.cons1 (getD_mem hp), rfl, by assumption⟩ ?_
  intro n s2
  (repeat (first | (with_reducible refine WithL.in fun _ _ _ _ => ?_) | (with_reducible refine WithE.in fun _ _ _ => ?_)))
  rintro ⟨ys, q, t, t3, t4, t5, rfl, hq, e1, k1, e3, F⟩
  kfm_turns
  refine if_dec (fun c => ?_) (fun c => ?_)
  · kfm_turns
    have ec : ((2 * (q : Int) + 1).toNat) = 2 * q + 1 := by lia
    have ec2 : ((2 * (q : Int) + 1 + 1).toNat) = 2 * q + 2 := by lia
    refine x_ifJ (fun s' => E2 fun t t5 => Fm h₀ (fun x => x = l) s (fenv (fnOf 190) 190 L) [("heap", .ref l), ("pos", .int q t), ("endpos", .int xs.length t3), ("startpos", .int p t4), ("newitem", xs.getD p .none), ("childpos", .int (chd ltV ys q) t5)] [listR l ys] s') ?_ ?_
    · kfm_turns
      refine if_dec (fun c2 => ?_) (fun c2 => ?_)
      · kfm_turns
        refine sub_list (by assumption) (by kqd_in) (by lia) (by lia) (getD_some (by lia)) ?_
        kfm_turns
        refine sub_list (by assumption) (by kqd_in) (by lia) (by lia) (getD_some (by lia)) ?_
        refine lt_val (k1.two (.tail _ (getD_mem (by lia))) (.tail _ (getD_mem (by lia)))) ?_
        kfm_turns
        rw [ec, ec2]
        refine if_bool (fun d => ?_) (fun d => ?_)
        · kfm_turns
          have : ((chd ltV ys q : Nat) : Int) = 2 * (q : Int) + 1 + 1 := by
            unfold chd; rw [if_pos ⟨by lia, by simpa using d⟩]; lia
          rw [this]
          exact ⟨_, _, Fm.locsub (by assumption) (by k_subL)⟩
        · kfm_turns
          have : ((chd ltV ys q : Nat) : Int) = 2 * (q : Int) + 1 := by
            unfold chd; rw [if_neg]; lia; intro h; rw [h.2] at d; cases d
          rw [this]
          exact ⟨_, _, Fm.locsub (by assumption) (by k_subL)⟩
      · kfm_turns
        have : ((chd ltV ys q : Nat) : Int) = 2 * (q : Int) + 1 := by
          unfold chd; rw [if_neg]; lia; intro h; lia
        rw [this]
        exact ⟨_, _, Fm.locsub (by assumption) (by k_subL)⟩
    · rintro s3 ⟨t, t5, F3⟩
      have hc := chd_lt (lt := ltV) (xs := ys) (p := q) (by lia)
      kfm_turns
      refine sub_list (by assumption) (by kqd_in) (by lia) (by lia) (getD_some (by lia)) ?_
      rw [Int.toNat_natCast]
      kfm_turns
      refine set_list (by assumption) (by kd_subs) (by assumption) (by lia) (by lia) (by lia) ?_
      intro s4 F4
      rw [Int.toNat_natCast] at F4
      kfm_turns
      refine op_mul (by assumption) ?_ (.of_left (by decide)); intro _ _ _
      kfm_turns
      refine ⟨xs.length - chd ltV ys q, by lia, _, chd ltV ys q, _, _, _, _, rfl, by lia, ?_, ?_, ?_, by assumption⟩
      · simpa using e1
      · refine k1.imp (fun h u hu => ?_) (fun h u hu => ?_) <;>
          exact (List.mem_cons.mp hu).elim (fun e => e ▸ h _ (.head _)) fun hu => (List.mem_or_eq_of_mem_set hu).elim (fun m => h _ (.tail _ m)) fun e => e ▸ h _ (.tail _ (getD_mem (by lia)))
      · rw [← e3]
        conv => rhs; unfold sup1
        rw [dif_pos (by lia)]
  · kfm_turns
    refine set_list (by assumption) (by kd_subs) (by assumption) (by lia) (by lia) (by lia) ?_
    intro s4 F4
    rw [Int.toNat_natCast] at F4
    kfm_turns
    have e5 : sup1 ltV xs p = (ys, q) := by rw [← e3]; unfold sup1; rw [dif_neg (by lia)]
    refine siftdown_ok B (show A.depth + 1 < 900 by lia) (F4.hands (List.Sublist.refl _)) ?_ ?_ (v := xs.getD p .none) ?_ ?_
    · exact (k1.set (n := q)).mono fun v hv => .tail _ hv
    · simpa [e1] using hsz
    · simp [List.getElem?_set, e1, hq]
    · intro s5 m5 h5
      kfm_turns
      refine h _ (F4.mod.trans m5 fun b e => .inl e) ?_
      unfold sup; rw [e5]; exact h5
end
end

section -- M1
open PySem
set_option linter.unusedVariables false

theorem set_swap_perm {α : Type} (xs : List α) (i j : Nat) (v q : α) (hi : i < xs.length) (hj : j < xs.length) (hne : i ≠ j) (hq : xs[j]? = some q) :
    ((xs.set i q).set j v).Perm (xs.set i v) := by
  have h1 : i < (xs.set i v).toArray.size := by simpa using hi
  have h2 : j < (xs.set i v).toArray.size := by simpa using hj
  have hp := Array.swap_perm (xs := (xs.set i v).toArray) h1 h2
  have e : ((xs.set i v).toArray.swap i j h1 h2).toList = (xs.set i q).set j v := by
    apply List.ext_getElem?
    intro k
    simp only [Array.swap_def, Array.toList_set, List.getElem?_set, Array.getElem_toList]
    have e1 : (xs.set i v).toArray[j] = q := by
      have : (xs.set i v)[j]? = some q := by rw [List.getElem?_set_ne hne]; exact hq
      simpa using (List.getElem?_eq_some_iff.mp this).2
    have e2 : (xs.set i v).toArray[i] = v := by simp
    by_cases hjk : j = k
    · subst hjk; simp [hj]
    · by_cases hik : i = k
      · subst hik; simp [hjk, hi]; simpa using e1
      · simp [hjk, hik]
  have := Array.perm_iff_toList_perm.mp hp
  rw [e] at this
  simpa using this

theorem sdown_perm (lt : Value → Value → Bool) (sp : Nat) : ∀ (p : Nat) (xs : List Value) (v : Value), p < xs.length → (sdown lt sp xs p v).Perm (xs.set p v) := by
  intro p
  induction p using Nat.strongRecOn with
  | ind p ih =>
    intro xs v hp
    unfold sdown
    split
    · split
      · rename_i q hq
        split
        · have h1 := ih ((p - 1) / 2) (by lia) (xs.set p q) v (by simp; lia)
          exact h1.trans (set_swap_perm xs p _ v q hp (by lia) (by lia) hq)
        · exact .refl _
      · exact .refl _
    · exact .refl _
theorem sup1_perm (lt : Value → Value → Bool) : ∀ (n : Nat) (xs : List Value) (p : Nat) (v : Value), xs.length - p = n → p < xs.length → ((sup1 lt xs p).1.set (sup1 lt xs p).2 v).Perm (xs.set p v) := by
  intro n
  induction n using Nat.strongRecOn with
  | ind n ih =>
    intro xs p v e hp
    unfold sup1
    split
    · rename_i h
      have h2 := chd_lt (lt := lt) h
      have := ih _ (by simp only [List.length_set]; lia) (xs.set p (xs.getD (chd lt xs p) .none)) (chd lt xs p) v rfl (by simp only [List.length_set]; lia)
      exact this.trans (set_swap_perm xs p _ v _ hp h2.2 (by lia) (getD_some h2.2))
    · exact .refl _
theorem set_getD {xs : List Value} {p : Nat} (hp : p < xs.length) : xs.set p (xs.getD p .none) = xs := by
  apply List.ext_getElem?
  intro k
  rw [List.getElem?_set]
  split
  · rename_i e; subst e; first | rw [getD_some hp] | rw [if_pos hp, getD_some hp]
  · rfl
theorem sup_perm (lt : Value → Value → Bool) {xs : List Value} {p : Nat} (hp : p < xs.length) : (sup lt xs p).Perm xs := by
  unfold sup
  have h1 := sup1_len lt _ xs p rfl hp
  refine (sdown_perm lt p _ _ _ (by simp; lia)).trans ?_
  rw [List.set_set]
  exact (sup1_perm lt _ xs p _ rfl hp).trans (by rw [set_getD hp])
theorem sup_len (lt : Value → Value → Bool) {xs : List Value} {p : Nat} (hp : p < xs.length) : (sup lt xs p).length = xs.length := (sup_perm lt hp).length_eq
noncomputable def hfy (lt : Value → Value → Bool) : Nat → List Value → List Value
  | 0, xs => xs
  | i + 1, xs => hfy lt i (sup lt xs i)
theorem hfy_perm (lt : Value → Value → Bool) : ∀ (i : Nat) (xs : List Value), i ≤ xs.length → (hfy lt i xs).Perm xs
  | 0, xs, _ => .refl _
  | i + 1, xs, h => (hfy_perm lt i _ (by rw [sup_len lt (by lia)]; lia)).trans (sup_perm lt (by lia))
theorem Kin.perm {xs ys : List Value} (k : Kin xs) (h : ys.Perm xs) : Kin ys := k.mono fun v hv => h.mem_iff.mp hv
end

section -- H3
open PySem PySem.W
set_option Elab.async false
set_option maxRecDepth 100000
set_option linter.unusedVariables false
noncomputable section



set_option maxHeartbeats 4000000
theorem heapify_ok {prog : Program} {w : World} {P : Params} {h₀ : Heap} (B : Base P h₀) {A : Around} {E : Value → Shared → Prop} {s : Shared} {l : Addr} {xs : List Value} {Q : Value → Shared → Prop}
    (room : A.depth < 898) (hh : A.handled = none) (H : Hands h₀ [listR l xs] s) (hK : Kin xs) (hsz : xs.length < 2 ^ 20)
    (h : ∀ s', Md (· = l) s s' → (listR l (hfy ltV (xs.length / 2) xs)).holds s'.heap → Q .none s') :
    wpAny (model prog w) A (call (.ref 176) [.ref l]) Q E s := by
  refine enter (X := (· = l)) H (fn_heapify B) (Nat.lt_trans room (by decide)) (by decide +kernel) (by kernel_rfl) (binds := [("x", .ref l)]) (by kernel_rfl) (names := ["x"]) rfl (by decide +kernel) ?_
  intro L s' F
  have S := sc_heapify B L
  have hw : Wr (fun x => x = l) s l := .inl rfl
  have k190 := fn_siftup B
  refine x_assign ?_
  kfm_turns
  refine op_len (by assumption) (by kqd_in) (by lia) ?_; intro _ _ _
  kfm_turns
  refine x_for ?_
  kfm_turns
  refine op_fdiv (by decide) (PyProof.noPylong_of_log2 (by decide +kernel)) (by assumption) ?_; intro _ _ _
  have e2 : ((xs.length : Int).fdiv 2) = ((xs.length / 2 : Nat) : Int) := by rw [Int.fdiv_eq_ediv_of_nonneg _ (by decide)]; lia
  rw [e2]
  refine op_range (by assumption) ?_; intro _ _ _ _
  refine op_revrange (by assumption) (by kqd_in) (by lia) ?_; intro I s3 hI F3
  refine it_riR F3 (by kqd_in) ?_
  refine ⟨fun n s' => E2 fun ys t => ys.length = xs.length ∧ n ≤ xs.length / 2 ∧ Kin ys ∧ hfy ltV n ys = hfy ltV (xs.length / 2) xs ∧
      Fm h₀ (fun x => x = l) s (fenv (fnOf 176) 176 L) [("x", .ref l), ("n", .int xs.length t)] [riR I ((n : Int) - 1) n (-1), listR l ys] s', xs.length / 2,
      ⟨xs, _, rfl, Nat.le_refl _, hK, rfl, F3.sub (by k_subL)⟩, ?_⟩
  intro n s4
  (repeat (first | (with_reducible refine WithL.in fun _ _ _ _ => ?_) | (with_reducible refine WithE.in fun _ _ _ => ?_)))
  rintro ⟨ys, t, e1, hn, k1, e3, F4⟩
  rcases n with _ | n
  · refine nd_rng hh F4 (by lia) .hit hI ?_; intro s5 F5
    kfm_turns
    refine h _ F5.mod ?_
    rw [← e3]; exact F5.rg _ (.head _)
  · refine nx_rng hh F4 (by lia) .hit hI ?_; intro t5 s5 F5
    have e5 : ((n + 1 : Nat) : Int) - 1 = n := by lia
    rw [e5] at F5 ⊢
    kfm_turns
    refine siftup_ok B (show A.depth + 1 < 899 by lia) (Fm.hands (by assumption) (by k_subL)) k1 (by lia) (by lia) ?_
    intro s6 m6 h6
    have F6 := Fm.ch1 (rs' := [riR I ((n : Int) + -1) n (-1), listR l (sup ltV ys n)]) (by assumption) (by kd_subs) m6 hw h6
    kfm_turns
    refine ⟨n, by lia, sup ltV ys n, t, ?_, by lia, ?_, e3, ?_⟩
    · rw [sup_len ltV (by lia)]; exact e1
    · exact k1.perm (sup_perm ltV (by lia))
    · exact Fm.locsub F6 (by k_subL)

theorem heappush_ok {prog : Program} {w : World} {P : Params} {h₀ : Heap} (B : Base P h₀) {A : Around} {E : Value → Shared → Prop} {s : Shared} {l : Addr} {xs : List Value} {v : Value} {Q : Value → Shared → Prop}
    (room : A.depth < 898) (H : Hands h₀ [listR l xs] s) (hK : Kin (xs ++ [v])) (hsz : xs.length < 2 ^ 19)
    (h : ∀ s', Md (· = l) s s' → (listR l (sdown ltV 0 (xs ++ [v]) xs.length v)).holds s'.heap → Q .none s') :
    wpAny (model prog w) A (call (.ref 162) [.ref l, v]) Q E s := by
  refine enter (X := (· = l)) H (fn_heappush B) (Nat.lt_trans room (by decide)) (by decide +kernel) (by kernel_rfl) (binds := [("heap", .ref l), ("item", v)]) (by kernel_rfl) (names := ["heap", "item"]) rfl (by decide +kernel) ?_
  intro L s' F
  have S := sc_heappush B L
  have hw : Wr (fun x => x = l) s l := .inl rfl
  have k183 := fn_siftdown B
  refine x_expr ?_
  refine ev_meth (pl := _) ?_
  kfm_turns
  refine meth_list (by assumption) (by kqd_in) PySem.F.slot_list_append PySem.F.type_list_append ?_
  kfm_turns
  refine app_list (by assumption) (by kd_subs) hw (by lia) ?_; intro s1 F1
  kfm_turns
  refine op_len (by assumption) (by kqd_in) (by simp; lia) ?_; intro _ _ _
  kfm_turns
  have e1 : ((xs ++ [v]).length : Int) - 1 = xs.length := by simp
  rw [e1]
  refine siftdown_ok (sp := 0) B (show A.depth + 1 < 900 by lia) (Fm.hands (by assumption) (by k_subL)) hK (by simp; lia) (v := v) (by simp) ?_
  intro s6 m6 h6
  have F6 := Fm.ch1 (rs' := [listR l (sdown ltV 0 (xs ++ [v]) xs.length v)]) (by assumption) (by kd_subs) m6 hw h6
  kfm_turns
  exact h _ F6.mod h6

theorem heappop_ok {prog : Program} {w : World} {P : Params} {h₀ : Heap} (B : Base P h₀) {A : Around} {E : Value → Shared → Prop} {s : Shared} {l : Addr} {xs : List Value} {v : Value} {Q : Value → Shared → Prop}
    (room : A.depth < 898) (H : Hands h₀ [listR l (xs ++ [v])] s) (hK : Kin (xs ++ [v])) (hsz : xs.length < 2 ^ 19)
    (h0 : xs = [] → ∀ s', Md (· = l) s s' → (listR l []).holds s'.heap → Q v s')
    (h1 : ∀ u r, xs = u :: r → ∀ s', Md (· = l) s s' → (listR l (sup ltV (v :: r) 0)).holds s'.heap → Q u s') :
    wpAny (model prog w) A (call (.ref 169) [.ref l]) Q E s := by
  refine enter (X := (· = l)) H (fn_heappop B) (Nat.lt_trans room (by decide)) (by decide +kernel) (by kernel_rfl) (binds := [("heap", .ref l)]) (by kernel_rfl) (names := ["heap"]) rfl (by decide +kernel) ?_
  intro L s' F
  have S := sc_heappop B L
  have hw : Wr (fun x => x = l) s l := .inl rfl
  have k190 := fn_siftup B
  refine x_assign ?_
  refine ev_meth (pl := _) ?_
  kfm_turns
  refine meth_list (by assumption) (by kqd_in) PySem.F.slot_list_pop PySem.F.type_list_pop ?_
  kfm_turns
  refine pop_list (by assumption) (by kd_subs) hw (by lia) ?_; intro s1 F1
  kfm_turns
  refine x_if ?_
  (repeat (first | (with_reducible refine WithL.in fun _ _ _ _ => ?_) | (with_reducible refine WithE.in fun _ _ _ => ?_))); refine PyProof.Rows.isTrue_plain ?_
  kfm_turns
  refine truthy_list (by assumption) (by kqd_in) (by lia) ?_; intro s2 F2
  rcases xs with _ | ⟨u, r⟩
  · show if false = true then _ else _
    kfm_turns
    exact h0 rfl _ F2.mod (F2.rg _ (.head _))
  · show if true = true then _ else _
    kfm_turns
    refine sub_list (by assumption) (by kqd_in) (by lia) (by lia) (v := u) rfl ?_
    kfm_turns
    refine set_list (by assumption) (by kd_subs) hw (by lia) (by lia) (by simp) ?_; intro s3 F3
    have e0 : (u :: r).set (Int.toNat 0) v = v :: r := rfl
    rw [e0] at F3
    kfm_turns
    refine siftup_ok (xs := v :: r) (p := 0) B (show A.depth + 1 < 899 by lia) (Fm.hands (by assumption) (by k_subL)) ?_ (by simp at hsz ⊢; lia) (by simp) ?_
    · exact hK.mono fun x hx => by
        rcases List.mem_cons.mp hx with rfl | hx
        · simp
        · simp [hx]
    intro s6 m6 h6
    have F6 := Fm.ch1 (rs' := [listR l (sup ltV (v :: r) 0)]) (by assumption) (by kd_subs) m6 hw h6
    kfm_turns
    exact h1 u r rfl _ F6.mod h6
end
end

section -- D1
open PySem PySem.W
set_option Elab.async false
set_option maxRecDepth 100000
set_option linter.unusedVariables false
noncomputable section



/-! _int2digits -/
noncomputable def stI : Stmt := (pb 2).getD 1 (.Pass ⟨0, 0, 0, 0⟩)
noncomputable def qI : Str := (fnOf 28).qualname ++ ".<locals>." ++ "inner"
noncomputable def closI (cN cI cA : Addr) : List (Str × Addr) := [("n", cN), ("inner", cI), ("a_digits", cA)]
noncomputable def fdI (cN cI cA c' : Addr) (doc pm ctv : Value) : FuncData := fnX "inner" qI (fparams stI) (fbody stI) (fscope stI) (closI cN cI cA) .none .none doc pm none (.ref c') ctv
/-- the places L .. R are filled with the digits of x -/
structure Fil (n x L R : Nat) (vs vs' : List Value) : Prop where
  len : vs'.length = vs.length
  off : ∀ i, i < L ∨ R ≤ i → vs'[i]? = vs[i]?
  dig : ∀ i, L ≤ i → i < R → ∃ t, vs'[i]? = some (.int ((x / 2 ^ (n * (i - L)) % 2 ^ n : Nat) : Int) t)
theorem Fil.one {n x L : Nat} {vs : List Value} {t : Tok} (hx : x < 2 ^ n) (hL : L < vs.length) : Fil n x L (L + 1) vs (vs.set L (.int x t)) := by
  refine ⟨by simp, fun i hi => List.getElem?_set_ne (by lia), fun i h1 h2 => ?_⟩
  have : i = L := by lia
  subst this
  exact ⟨t, by simp [hL, Nat.mod_eq_of_lt hx]⟩
theorem Fil.two {n x L m R : Nat} {vs vs1 vs2 : List Value} (h1 : L ≤ m) (h2 : m ≤ R) (a : Fil n (x % 2 ^ (n * (m - L))) L m vs vs1) (b : Fil n (x / 2 ^ (n * (m - L))) m R vs1 vs2) : Fil n x L R vs vs2 := by
  refine ⟨b.len.trans a.len, fun i hi => ?_, fun i hi1 hi2 => ?_⟩
  · rw [b.off i (by lia), a.off i (by lia)]
  · by_cases hm : i < m
    · obtain ⟨t, e⟩ := a.dig i hi1 hm
      refine ⟨t, ?_⟩
      rw [b.off i (.inl hm), e]
      have : n * (m - L) = n * (i - L) + n + n * (m - i - 1) := by
        have e2 : m - L = (i - L) + 1 + (m - i - 1) := by lia
        rw [e2, Nat.mul_add, Nat.mul_add, Nat.mul_one]
      have key : x % 2 ^ (n * (m - L)) / 2 ^ (n * (i - L)) % 2 ^ n = x / 2 ^ (n * (i - L)) % 2 ^ n := by
        rw [this, Nat.add_assoc, Nat.pow_add, Nat.mod_mul_right_div_self, Nat.pow_add, Nat.mod_mod_of_dvd _ ⟨_, rfl⟩]
      rw [key]
    · obtain ⟨t, e⟩ := b.dig i (by lia) hi2
      refine ⟨t, ?_⟩
      rw [e]
      have e2 : m - L + (i - m) = i - L := by lia
      rw [Nat.div_div_eq_div_mul, ← Nat.pow_add, ← Nat.mul_add, e2]
theorem mid_int {a b : Nat} : ((a : Int) + b).fdiv (2 ^ (1 : Int).toNat) = (((a + b) / 2 : Nat) : Int) := by
  rw [Int.fdiv_eq_ediv_of_nonneg _ (by decide)]
  show ((a : Int) + b) / 2 = _
  lia

theorem shr_nat {x k : Nat} : ((x : Int)).fdiv (2 ^ ((k : Int)).toNat) = ((x / 2 ^ k : Nat) : Int) := by
  rw [Int.toNat_natCast, Int.fdiv_eq_ediv_of_nonneg _ (Int.le_of_lt (Int.pow_pos (by decide)))]
  push_cast; rfl
theorem or_low (x s : Nat) : x ||| (x / 2 ^ s * 2 ^ s) = x := by
  apply Nat.eq_of_testBit_eq
  intro i
  rw [Nat.testBit_or, ← Nat.shiftLeft_eq, ← Nat.shiftRight_eq_div_pow, Nat.testBit_shiftLeft]
  by_cases h : s ≤ i
  · simp only [h, decide_true, Bool.true_and, Nat.testBit_shiftRight]
    rw [show s + (i - s) = i by lia]; simp
  · simp [h]
theorem and_low (x s : Nat) : x &&& (x / 2 ^ s * 2 ^ s) = x / 2 ^ s * 2 ^ s := by
  apply Nat.eq_of_testBit_eq
  intro i
  rw [Nat.testBit_and, ← Nat.shiftLeft_eq, ← Nat.shiftRight_eq_div_pow, Nat.testBit_shiftLeft]
  by_cases h : s ≤ i
  · simp only [h, decide_true, Bool.true_and, Nat.testBit_shiftRight]
    rw [show s + (i - s) = i by lia]; simp
  · simp [h]
theorem xor_low (x s : Nat) : Builtin.bitXor (x : Int) (((x / 2 ^ s : Nat) : Int) * 2 ^ s) = ((x % 2 ^ s : Nat) : Int) := by
  have e : ((x / 2 ^ s : Nat) : Int) * 2 ^ s = ((x / 2 ^ s * 2 ^ s : Nat) : Int) := by push_cast; rfl
  rw [e]
  have h1 : Builtin.bitOr (x : Int) ((x / 2 ^ s * 2 ^ s : Nat) : Int) = (x : Int) := by
    unfold Builtin.bitOr
    rw [PyProof.Rows.bitAnd_nn (by unfold Builtin.bitNot; lia) (by unfold Builtin.bitNot; lia)]
    unfold Builtin.bitNot
    have a1 : (-(-(x : Int) - 1) - 1).toNat = x := by lia
    have a2 : (-(-((x / 2 ^ s * 2 ^ s : Nat) : Int) - 1) - 1).toNat = x / 2 ^ s * 2 ^ s := by lia
    rw [a1, a2, or_low]; lia
  unfold Builtin.bitXor
  rw [h1, PyProof.Rows.bitAnd_pp (by lia) (by lia), Int.toNat_natCast, Int.toNat_natCast, and_low]
  have := Nat.div_add_mod' x (2 ^ s)
  lia

theorem sc_inner {P : Params} {h₀ : Heap} (B : Base P h₀) (cN cI cA c' f L : Addr) (doc pm ctv : Value) : Sc h₀ (cenv (fdI cN cI cA c' doc pm ctv) f L) ["x", "L", "R", "mid", "shift", "upper", "lower"] [] :=
  sc_of B (by kernel_rfl) (by kernel_rfl) (by kernel_rfl) (by kernel_rfl)

set_option maxHeartbeats 4000000
theorem inner_ok {prog : Program} {w : World} {P : Params} {h₀ : Heap} (B : Base P h₀) {cN cI cA c' f l : Addr} {doc pm ctv : Value} {n : Nat} {tn : Tok} (hn : 1 ≤ n) : ∀ (k : Nat) {A : Around} {E : Value → Shared → Prop} {s : Shared} {vs : List Value} {x L R : Nat} {t1 t2 t3 : Tok} {Q : Value → Shared → Prop},
    R - L = k → L < R → R ≤ vs.length → n * vs.length ≤ 64 → x < 2 ^ (n * (R - L)) → A.depth + k < 890 →
    Hands h₀ [fnR f (fdI cN cI cA c' doc pm ctv), listR l vs, tabR 23 (fpos stI) qI (some c')] s →
    Clo h₀ [fnR f (fdI cN cI cA c' doc pm ctv), listR l vs, tabR 23 (fpos stI) qI (some c')] (closI cN cI cA) [("a_digits", .ref l), ("inner", .ref f), ("n", .int n tn)] s →
    (∀ s' vs', Md (· = l) s s' → (listR l vs').holds s'.heap → Fil n x L R vs vs' → Q .none s') →
    wpAny (model prog w) A (call (.ref f) [.int x t1, .int L t2, .int R t3]) Q E s := by
  intro k
  induction k using Nat.strongRecOn with
  | ind k ih =>
    intro A E s vs x L R t1 t2 t3 Q hk hLR hR hsz hx room H C h
    have hcode := H.rg _ (.tail _ (.tail _ (.head _)))
    obtain ⟨ps, _, _, _, hc'⟩ := hcode
    refine enterK (X := (· = l)) H C (fd := fdI cN cI cA c' doc pm ctv) (body := fbody stI) ⟨⟨_, H.rg _ (.head _), rfl⟩, rfl, (hc' c' rfl).2, B.lim, by kernel_rfl, by kernel_rfl, by kernel_rfl⟩ (Nat.lt_trans (show A.depth < 900 by lia) (by decide)) (by show ∀ x ∈ (fscope stI).names, x.2 ≠ .cell; decide +kernel)
      (binds := [("x", .int x t1), ("L", .int L t2), ("R", .int R t3)]) (by kernel_rfl) (names := ["x", "L", "R"]) (vnames := ["a_digits", "inner", "n"]) rfl rfl (by kernel_rfl) (by kernel_rfl) (by decide +kernel) ?_
    intro Lf s1 F
    simp only [List.cons_append, List.nil_append] at F
    have S := sc_inner B cN cI cA c' f Lf doc pm ctv
    have hw : Wr (fun x => x = l) s l := .inl rfl
    have hlen : vs.length ≤ 64 := Nat.le_trans (Nat.le_mul_of_pos_left _ hn) hsz
    refine x_if ?_
    kfm_turns
    refine if_bool (fun c => ?_) (fun c => ?_)
    · have c1 : R = L + 1 := by
        have := eq_of_beq c; lia
      kfm_turns
      refine set_list (by assumption) (by kd_subs) hw (by lia) (by lia) (by lia) ?_
      intro s2 F2
      rw [Int.toNat_natCast] at F2
      kfm_turns
      refine h _ _ F2.mod (F2.rg _ (.tail _ (.head _))) ?_
      subst c1
      exact Fil.one (by simpa using hx) (by lia)
    · have c1 : R ≠ L + 1 := fun e => by subst e; simp at c
      kfm_turns
      refine op_rsh (by decide) (by assumption) ?_; intro _ _ _
      rw [mid_int]
      have hm1 : L < (L + R) / 2 := by lia
      have hm2 : (L + R) / 2 < R := by lia
      generalize (L + R) / 2 = m at *
      kfm_turns
      have esh : ((m : Int) - L) * n = ((n * (m - L) : Nat) : Int) := by
        have : (m : Int) - L = ((m - L : Nat) : Int) := by lia
        rw [this, ← Int.natCast_mul, Nat.mul_comm]
      have hle : n * (m - L) ≤ 64 := Nat.le_trans (Nat.mul_le_mul_left _ (by lia)) hsz
      refine op_mul (by assumption) ?_ (.of_right (PyProof.Rows.intBits_le (by
        have : n ≤ 64 := Nat.le_trans (Nat.le_mul_of_pos_right n (by lia)) hsz
        simp; exact Nat.lt_of_le_of_lt this (by decide)))); intro _ _ _
      rw [esh]
      kfm_turns
      refine op_rsh (by lia) (by assumption) ?_; intro _ _ _
      rw [shr_nat]
      kfm_turns
      have hup : x / 2 ^ (n * (m - L)) < 2 ^ (n * (R - m)) := by
        apply Nat.div_lt_of_lt_mul
        rw [← Nat.pow_add, ← Nat.mul_add, show m - L + (R - m) = R - L by lia]
        exact hx
      refine op_lsh (by lia) (by lia) ?_ (by assumption) ?_
      · simp only [Int.natAbs_natCast]
        refine Nat.lt_of_lt_of_le hup (Nat.pow_le_pow_right (by decide) (Nat.le_trans (Nat.mul_le_mul_left _ (by lia)) hsz))
      intro _ _ _
      rw [Int.toNat_natCast]
      refine op_xor (by assumption) ?_; intro _ _ _
      rw [xor_low]
      kfm_turns
      refine cw_fnR (fd := fdI cN cI cA c' doc pm ctv) ?_
      kfm_turns
      refine ⟨Fm.rg (by assumption) _ (by kqd_in), ?_⟩
      refine ih (m - L) (by lia) rfl hm1 (by lia) hsz (Nat.mod_lt _ (Nat.pow_pos (by decide))) (show A.depth + 1 + (m - L) < 890 by lia) (Fm.hands (by assumption) (by k_subL))
        (Fm.cloSelf (fd := fdI cN cI cA c' doc pm ctv) (by assumption) (by k_subL) (kn := ["n", "inner", "a_digits"]) rfl (by decide +kernel) (by k_subL) (vn := ["a_digits", "inner", "n"]) rfl (by decide +kernel) (by kernel_rfl)) ?_
      intro s5 vs1 m5 h5 fil1
      have F5 := Fm.ch1 (rs' := [fnR f (fdI cN cI cA c' doc pm ctv), listR l vs1, tabR 23 (fpos stI) qI (some c')]) (by assumption) (by kd_subs) m5 hw h5
      kfm_turns
      refine cw_fnR (fd := fdI cN cI cA c' doc pm ctv) ?_
      kfm_turns
      refine ⟨Fm.rg (by assumption) _ (by kqd_in), ?_⟩
      refine ih (R - m) (by lia) rfl hm2 (by rw [fil1.len]; exact hR) (by rw [fil1.len]; exact hsz) hup (show A.depth + 1 + (R - m) < 890 by lia) (Fm.hands (by assumption) (by k_subL))
        (Fm.cloSelf (fd := fdI cN cI cA c' doc pm ctv) (by assumption) (by k_subL) (kn := ["n", "inner", "a_digits"]) rfl (by decide +kernel) (by k_subL) (vn := ["a_digits", "inner", "n"]) rfl (by decide +kernel) (by kernel_rfl)) ?_
      intro s6 vs2 m6 h6 fil2
      have F6 := Fm.ch1 (rs' := [fnR f (fdI cN cI cA c' doc pm ctv), listR l vs2, tabR 23 (fpos stI) qI (some c')]) (by assumption) (by kd_subs) m6 hw h6
      kfm_turns
      exact h _ _ F6.mod h6 (Fil.two (Nat.le_of_lt hm1) (Nat.le_of_lt hm2) fil1 fil2)

theorem sc_int2digits {P : Params} {h₀ : Heap} (B : Base P h₀) (L : Addr) : Sc h₀ (callEnvC (fnOf 28) L 28) ["a"] [("len", .builtin "len")] :=
  sc_of B (by kernel_rfl) (by kernel_rfl) (by kernel_rfl) (by kernel_rfl)
theorem cel_int2digits {L : Addr} {s : Shared} (hc : ∀ p ∈ (callEnvC (fnOf 28) L 28).cells, s.heap.get? p.2 = none) :
    CelOk (callEnvC (fnOf 28) L 28) s "n" ∧ CelOk (callEnvC (fnOf 28) L 28) s "a_digits" ∧ CelOk (callEnvC (fnOf 28) L 28) s "inner" := by
  have e1 : (callEnvC (fnOf 28) L 28).cells.lookup ("n" : Str) = some (L + 1) := by kernel_rfl
  have e2 : (callEnvC (fnOf 28) L 28).cells.lookup ("a_digits" : Str) = some (L + 1 + 1) := by kernel_rfl
  have e3 : (callEnvC (fnOf 28) L 28).cells.lookup ("inner" : Str) = some (L + 1 + 1 + 1) := by kernel_rfl
  exact ⟨⟨by kernel_rfl, by decide, _, e1, hc _ (mem_of_lookup e1)⟩, ⟨by kernel_rfl, by decide, _, e2, hc _ (mem_of_lookup e2)⟩, ⟨by kernel_rfl, by decide, _, e3, hc _ (mem_of_lookup e3)⟩⟩

theorem int2digits_ok {prog : Program} {w : World} {P : Params} {h₀ : Heap} (B : Base P h₀) {A : Around} {E : Value → Shared → Prop} {s : Shared} {a n k : Nat} {t1 t2 : Tok} {oc : Option Addr} {Q : Value → Shared → Prop}
    (room : A.depth < 700) (H : Hands h₀ [tabR 23 (fpos stI) qI oc] s) (hn : 1 ≤ n) (hn3 : n ≤ 3) (ha : a < 2 ^ 60) (hk : (Builtin.Int.intBits a + n - 1) / n = k)
    (h : ∀ s' l c' vs, Md (tabR 23 (fpos stI) qI oc).foot s s' → s.heap.get? l = none → (oc = some c' ∨ (oc = none ∧ s.heap.get? c' = none)) → Hands h₀ [listR l vs, tabR 23 (fpos stI) qI (some c')] s' →
      vs.length = k → (∀ i, i < k → ∃ t, vs[i]? = some (.int ((a / 2 ^ (n * i) % 2 ^ n : Nat) : Int) t)) → Q (.ref l) s') :
    wpAny (model prog w) A (call (.ref 28) [.int a t1, .int n t2]) Q E s := by
  refine enterC (X := (tabR 23 (fpos stI) qI oc).foot) H (fn_int2digits B) (Nat.lt_trans room (by decide)) (by kernel_rfl) (binds := [("a", .int a t1), ("n", .int n t2)]) (by kernel_rfl) (names := ["a", "n"]) rfl (by decide +kernel) (by decide +kernel)
    (kn := ["inner", "a_digits", "n"]) (by intro L; kernel_rfl) (by decide +kernel) (by decide +kernel) ?_
  intro L s1 hc F
  have S := sc_int2digits B L
  obtain ⟨cn, ca, ci⟩ := cel_int2digits hc
  refine x_assign ?_
  refine wpAny_BinOp ?_
  refine ev_list ?_
  kfm_turns
  refine nl_list (by assumption) (by simp) ?_; intro z s2 hz F2
  refine wpAny_BinOp ?_
  refine wpAny_BinOp ?_
  refine wpAny_BinOp ?_
  refine ev_meth (pl := _) ?_
  kfm_turns
  refine PyProof.Rows.getMethod_int_bit_length ?_
  kfm_turns
  refine op_bitlen (by assumption) ?_; intro _ _ _
  kfm_turns
  have hb60 : Builtin.Int.intBits (a : Int) ≤ 60 := PyProof.Rows.intBits_le (by simpa using ha)
  refine op_fdiv (by lia) (PyProof.noPylong_small (by simp; lia)) (by assumption) ?_; intro _ _ _
  have ek : (((Builtin.Int.intBits (a : Int) : Nat) : Int) + n - 1).fdiv n = (k : Int) := by
    rw [Int.fdiv_eq_ediv_of_nonneg _ (by lia), ← hk]
    have : ((Builtin.Int.intBits (a : Int) : Nat) : Int) + n - 1 = ((Builtin.Int.intBits (a : Int) + n - 1 : Nat) : Int) := by lia
    rw [this]; rfl
  rw [ek]
  have hk62 : n * k ≤ 62 := by
    rw [← hk]; exact Nat.le_trans (Nat.mul_div_le _ _) (by lia)
  have hk62' : k ≤ 62 := Nat.le_trans (Nat.le_mul_of_pos_left _ hn) hk62
  refine op_mulL (by assumption) (by kqd_in) (by lia) (by simp; lia) (by lia) ?_; intro l s3 hl F3
  rw [Int.toNat_natCast] at F3
  generalize hvs : (List.replicate k _).flatten = vs0 at F3
  have hlen0 : vs0.length = k := by rw [← hvs]; simp
  refine st_cel (by assumption) ca (by kqd_sub) ?_; intro s4 F4
  refine x_def (by kernel_rfl) (by kernel_rfl) (by kernel_rfl) ?_
  have eq : qualnameIn (callEnvC (fnOf 28) L 28) "inner" "inner" = qI := by kernel_rfl
  rw [eq]
  refine mk_fn B (name := "inner") (qual := qI) (params := fparams stI) (body := fbody stI) (scope := fscope stI) (pos := fpos stI) (clos := closI (L + 1) (L + 1 + 1 + 1) (L + 1 + 1)) (oc := oc) F4 (fun c' => by kd_subs) (by kernel_rfl) (c := 27) (by kernel_rfl) B.c1 (by kernel_rfl) (fun a f => .inl f) ?_
  intro f c' doc pm ctv s5 hf hc' F5
  have F5' : Fm h₀ (tabR 23 (fpos stI) qI oc).foot s (callEnvC (fnOf 28) L 28) _ [fnR f (fdI (L + 1) (L + 1 + 1 + 1) (L + 1 + 1) c' doc pm ctv), listR l vs0, tabR 23 (fpos stI) qI (some c')] s5 :=
    Fm.sub F5 (by exact .cons_cons _ (.cons_cons _ (.cons _ (.refl _))))
  refine st_cel F5' ci (by kqd_sub) ?_; intro s6 F6
  have hw : Wr (tabR 23 (fpos stI) qI oc).foot s l := .inr hl
  have hbits : a < 2 ^ (n * k) := by
    have h1 : a < 2 ^ Builtin.Int.intBits (a : Int) := by
      have := (PySem.intBits_le_iff (m := Builtin.Int.intBits (a : Int)) (x := (a : Int))).mp (Nat.le_refl _)
      simpa using this
    refine Nat.lt_of_lt_of_le h1 (Nat.pow_le_pow_right (by decide) ?_)
    have := Nat.div_add_mod (Builtin.Int.intBits (a : Int) + n - 1) n
    rw [hk] at this
    have := Nat.mod_lt (Builtin.Int.intBits (a : Int) + n - 1) (show n > 0 by lia)
    lia
  refine x_ifJ (fun s' => ∃ vs, Fm h₀ (tabR 23 (fpos stI) qI oc).foot s (callEnvC (fnOf 28) L 28) [("a", .int a t1), ("n", .int n t2), ("a_digits", .ref l), ("inner", .ref f)] [fnR f (fdI (L + 1) (L + 1 + 1 + 1) (L + 1 + 1) c' doc pm ctv), listR l vs, tabR 23 (fpos stI) qI (some c')] s' ∧ vs.length = k ∧
    ∀ i, i < k → ∃ t, vs[i]? = some (.int ((a / 2 ^ (n * i) % 2 ^ n : Nat) : Int) t)) ?_ ?_
  · (repeat (first | (with_reducible refine WithL.in fun _ _ _ _ => ?_) | (with_reducible refine WithE.in fun _ _ _ => ?_))); refine PyProof.Rows.isTrue_plain ?_
    kfm_turns
    refine PyProof.Rows.truthy_int ?_
    refine if_bool (fun c => ?_) (fun c => ?_)
    · have ha0 : a ≠ 0 := fun e => by subst e; simp at c
      have hk0 : 0 < k := by
        rcases Nat.eq_zero_or_pos k with e | e
        · rw [e] at hbits; simp at hbits; lia
        · exact e
      kfm_turns
      refine cw_fnR (fd := fdI (L + 1) (L + 1 + 1 + 1) (L + 1 + 1) c' doc pm ctv) ?_
      kfm_turns
      refine op_len (by assumption) (by kqd_in) (by lia) ?_; intro _ _ _
      kfm_turns
      refine ⟨Fm.rg (by assumption) _ (by kqd_in), ?_⟩
      rw [hlen0]
      refine inner_ok (vs := vs0) (L := 0) (tn := t2) B hn k (by lia) hk0 (by lia) (by rw [hlen0]; lia) (by simpa using hbits) (show A.depth + 1 + k < 890 by lia) (Fm.hands (by assumption) (by k_subL)) ?_ ?_
      · refine Fm.clo (by assumption) (by k_subL) ?_ ?_ ?_
        · intro p hp
          simp only [closI, List.mem_cons, List.not_mem_nil, or_false] at hp
          rcases hp with rfl | rfl | rfl <;> kernel_rfl
        · show [L + 1, L + 1 + 1 + 1, L + 1 + 1].Nodup
          simp
        · intro p hp
          simp only [List.mem_cons, List.not_mem_nil, or_false] at hp
          rcases hp with rfl | rfl | rfl
          · exact ⟨by kqd_in, ⟨L + 1 + 1, by kernel_rfl⟩, by show (fnOf 28).scope.names.lookup ("a_digits" : Str) ≠ some .local; decide +kernel⟩
          · exact ⟨by kqd_in, ⟨L + 1 + 1 + 1, by kernel_rfl⟩, by show (fnOf 28).scope.names.lookup ("inner" : Str) ≠ some .local; decide +kernel⟩
          · exact ⟨by kqd_in, ⟨L + 1, by kernel_rfl⟩, by show (fnOf 28).scope.names.lookup ("n" : Str) ≠ some .local; decide +kernel⟩
      · intro s7 vs1 m7 h7 fil
        have F7 := Fm.ch1 (rs' := [fnR f (fdI (L + 1) (L + 1 + 1 + 1) (L + 1 + 1) c' doc pm ctv), listR l vs1, tabR 23 (fpos stI) qI (some c')]) (by assumption) (by kd_subs) m7 hw h7
        kfm_turns
        exact ⟨vs1, F7, fil.len.trans hlen0, fun i hi => by simpa using fil.dig i (Nat.zero_le _) hi⟩
    · have ha0 : a = 0 := by simpa using c
      have hk0 : k = 0 := by
        rw [← hk, ha0]
        show (0 + n - 1) / n = 0
        exact Nat.div_eq_of_lt (by lia)
      kfm_turns
      exact ⟨vs0, F6, hlen0, fun i hi => by lia⟩
  · rintro s8 ⟨vs, F8, hl8, hd8⟩
    kfm_turns
    exact h _ l c' vs F8.mod hl hc' (F8.hands (by exact .cons _ (.refl _))) hl8 hd8
end
end

section -- D2
open PySem PySem.W
set_option Elab.async false
set_option maxRecDepth 100000
set_option linter.unusedVariables false
noncomputable section



/-! _digits2int -/
noncomputable def stJ : Stmt := (pb 3).getD 0 (.Pass ⟨0, 0, 0, 0⟩)
noncomputable def qJ : Str := (fnOf 35).qualname ++ ".<locals>." ++ "inner"
noncomputable def closJ (cN cI cD : Addr) : List (Str × Addr) := [("n", cN), ("inner", cI), ("digits", cD)]
noncomputable def fdJ (cN cI cD c' : Addr) (doc pm ctv : Value) : FuncData := fnX "inner" qJ (fparams stJ) (fbody stJ) (fscope stJ) (closJ cN cI cD) .none .none doc pm none (.ref c') ctv
/-- the number of k digits from L on -/
noncomputable def dval (n : Nat) (d : Nat → Nat) (L : Nat) : Nat → Nat
  | 0 => 0
  | k + 1 => d L + 2 ^ n * dval n d (L + 1) k
theorem dval_one (n : Nat) (d : Nat → Nat) (L : Nat) : dval n d L 1 = d L := by simp [dval]
theorem dval_add (n : Nat) (d : Nat → Nat) : ∀ (a L b : Nat), dval n d L (a + b) = dval n d L a + 2 ^ (n * a) * dval n d (L + a) b
  | 0, L, b => by simp [dval]
  | a + 1, L, b => by
    rw [show a + 1 + b = (a + b) + 1 by lia, dval, dval, dval_add n d a (L + 1) b, show L + 1 + a = L + (a + 1) by lia, Nat.mul_add, Nat.mul_succ, Nat.pow_add, ← Nat.mul_assoc, Nat.mul_comm (2 ^ n) (2 ^ (n * a))]
    lia
theorem dval_lt (n : Nat) (d : Nat → Nat) (N : Nat) (hd : ∀ i, i < N → d i < 2 ^ n) : ∀ (k L : Nat), L + k ≤ N → dval n d L k < 2 ^ (n * k)
  | 0, L, _ => by simp [dval]
  | k + 1, L, h => by
    have h1 := dval_lt n d N hd k (L + 1) (by lia)
    have h2 := hd L (by lia)
    rw [dval, Nat.mul_succ, Nat.pow_add]
    have : 2 ^ n * dval n d (L + 1) k + 2 ^ n ≤ 2 ^ n * 2 ^ (n * k) := by rw [← Nat.mul_succ]; exact Nat.mul_le_mul_left _ h1
    rw [Nat.mul_comm (2 ^ (n * k))]
    lia
theorem shl_nat {x k : Nat} : (x : Int) * 2 ^ ((k : Int)).toNat = ((2 ^ k * x : Nat) : Int) := by
  rw [Int.toNat_natCast, Nat.mul_comm]; push_cast; rfl

theorem sc_innerJ {P : Params} {h₀ : Heap} (B : Base P h₀) (cN cI cD c' f L : Addr) (doc pm ctv : Value) : Sc h₀ (cenv (fdJ cN cI cD c' doc pm ctv) f L) ["L", "R", "mid", "shift"] [] :=
  sc_of B (by kernel_rfl) (by kernel_rfl) (by kernel_rfl) (by kernel_rfl)

set_option maxHeartbeats 4000000
theorem innerJ_ok {prog : Program} {w : World} {P : Params} {h₀ : Heap} (B : Base P h₀) {cN cI cD c' f l : Addr} {doc pm ctv : Value} {n : Nat} {tn : Tok} {vs : List Value} {d : Nat → Nat} (hn : 1 ≤ n) (hsz : n * vs.length ≤ 62)
    (hv : ∀ i, i < vs.length → ∃ t, vs[i]? = some (.int (d i) t)) (hd : ∀ i, i < vs.length → d i < 2 ^ n) : ∀ (k : Nat) {A : Around} {E : Value → Shared → Prop} {s : Shared} {L R : Nat} {t2 t3 : Tok} {Q : Value → Shared → Prop},
    R - L = k → L < R → R ≤ vs.length → A.depth + k < 890 →
    Hands h₀ [fnR f (fdJ cN cI cD c' doc pm ctv), listR l vs, tabR 30 (fpos stJ) qJ (some c')] s →
    Clo h₀ [fnR f (fdJ cN cI cD c' doc pm ctv), listR l vs, tabR 30 (fpos stJ) qJ (some c')] (closJ cN cI cD) [("digits", .ref l), ("inner", .ref f), ("n", .int n tn)] s →
    (∀ s' t, Md NoX s s' → Q (.int (dval n d L (R - L)) t) s') →
    wpAny (model prog w) A (call (.ref f) [.int L t2, .int R t3]) Q E s := by
  intro k
  induction k using Nat.strongRecOn with
  | ind k ih =>
    intro A E s L R t2 t3 Q hk hLR hR room H C h
    have hcode := H.rg _ (.tail _ (.tail _ (.head _)))
    obtain ⟨ps, _, _, _, hc'⟩ := hcode
    refine enterK (X := NoX) H C (fd := fdJ cN cI cD c' doc pm ctv) (body := fbody stJ) ⟨⟨_, H.rg _ (.head _), rfl⟩, rfl, (hc' c' rfl).2, B.lim, by kernel_rfl, by kernel_rfl, by kernel_rfl⟩ (Nat.lt_trans (show A.depth < 900 by lia) (by decide)) (by show ∀ x ∈ (fscope stJ).names, x.2 ≠ .cell; decide +kernel)
      (binds := [("L", .int L t2), ("R", .int R t3)]) (by kernel_rfl) (names := ["L", "R"]) (vnames := ["digits", "inner", "n"]) rfl rfl (by kernel_rfl) (by kernel_rfl) (by decide +kernel) ?_
    intro Lf s1 F
    simp only [List.cons_append, List.nil_append] at F
    have S := sc_innerJ B cN cI cD c' f Lf doc pm ctv
    have hlen : vs.length ≤ 62 := Nat.le_trans (Nat.le_mul_of_pos_left _ hn) hsz
    refine x_if ?_
    kfm_turns
    refine if_bool (fun c => ?_) (fun c => ?_)
    · have c1 : R = L + 1 := by
        have := eq_of_beq c; lia
      obtain ⟨t, ht⟩ := hv L (by lia)
      kfm_turns
      refine sub_list (by assumption) (by kqd_in) (by lia) (by lia) (by rw [Int.toNat_natCast]; exact ht) ?_
      kfm_turns
      have e := h _ t (Fm.mod (by assumption))
      rw [c1, show L + 1 - L = 1 by lia, dval_one] at e
      exact e
    · have c1 : R ≠ L + 1 := fun e => by subst e; simp at c
      kfm_turns
      refine op_rsh (by decide) (by assumption) ?_; intro _ _ _
      rw [mid_int]
      have hm1 : L < (L + R) / 2 := by lia
      have hm2 : (L + R) / 2 < R := by lia
      generalize (L + R) / 2 = m at *
      kfm_turns
      have esh : ((m : Int) - L) * n = ((n * (m - L) : Nat) : Int) := by
        have : (m : Int) - L = ((m - L : Nat) : Int) := by lia
        rw [this, ← Int.natCast_mul, Nat.mul_comm]
      have hle : n * (m - L) ≤ 62 := Nat.le_trans (Nat.mul_le_mul_left _ (by lia)) hsz
      refine op_mul (by assumption) ?_ (.of_right (PyProof.Rows.intBits_le (by
        have : n ≤ 62 := Nat.le_trans (Nat.le_mul_of_pos_right n (by lia)) hsz
        simp; exact Nat.lt_of_le_of_lt this (by decide)))); intro _ _ _
      rw [esh]
      kfm_turns
      refine cw_fnR (fd := fdJ cN cI cD c' doc pm ctv) ?_
      kfm_turns
      refine ⟨Fm.rg (by assumption) _ (by kqd_in), ?_⟩
      refine ih (R - m) (by lia) rfl hm2 hR (show A.depth + 1 + (R - m) < 890 by lia) (Fm.hands (by assumption) (by k_subL))
        (Fm.cloSelf (fd := fdJ cN cI cD c' doc pm ctv) (by assumption) (by k_subL) (kn := ["n", "inner", "digits"]) rfl (by decide +kernel) (by k_subL) (vn := ["digits", "inner", "n"]) rfl (by decide +kernel) (by kernel_rfl)) ?_
      intro s5 t5 m5
      have F5 := Fm.keep (by assumption) m5
      kfm_turns
      have hup := dval_lt n d vs.length hd (R - m) m (by lia)
      refine op_lsh (by lia) (by lia) ?_ (by assumption) ?_
      · simp only [Int.natAbs_natCast]
        refine Nat.lt_of_lt_of_le hup (Nat.pow_le_pow_right (by decide) (Nat.le_trans (Nat.mul_le_mul_left _ (by lia)) (Nat.le_trans hsz (by decide))))
      intro _ _ _
      rw [shl_nat]
      kfm_turns
      refine cw_fnR (fd := fdJ cN cI cD c' doc pm ctv) ?_
      kfm_turns
      refine ⟨Fm.rg (by assumption) _ (by kqd_in), ?_⟩
      refine ih (m - L) (by lia) rfl hm1 (by lia) (show A.depth + 1 + (m - L) < 890 by lia) (Fm.hands (by assumption) (by k_subL))
        (Fm.cloSelf (fd := fdJ cN cI cD c' doc pm ctv) (by assumption) (by k_subL) (kn := ["n", "inner", "digits"]) rfl (by decide +kernel) (by k_subL) (vn := ["digits", "inner", "n"]) rfl (by decide +kernel) (by kernel_rfl)) ?_
      intro s6 t6 m6
      have F6 := Fm.keep (by assumption) m6
      kfm_turns
      have e := h _ (by assumption) (Fm.mod (by assumption))
      rw [show R - L = (m - L) + (R - m) by lia, dval_add, show L + (m - L) = m by lia, Nat.add_comm] at e
      rw [← Int.natCast_add]
      exact e

theorem sc_digits2int {P : Params} {h₀ : Heap} (B : Base P h₀) (L : Addr) : Sc h₀ (callEnvC (fnOf 35) L 35) [] [("len", .builtin "len")] :=
  sc_of B (by kernel_rfl) (by kernel_rfl) (by kernel_rfl) (by kernel_rfl)
theorem cel_digits2int {L : Addr} {s : Shared} (hc : ∀ p ∈ (callEnvC (fnOf 35) L 35).cells, s.heap.get? p.2 = none) :
    CelOk (callEnvC (fnOf 35) L 35) s "inner" := by
  have e3 : (callEnvC (fnOf 35) L 35).cells.lookup ("inner" : Str) = some (L + 1 + 1 + 1) := by kernel_rfl
  exact ⟨by kernel_rfl, by decide, _, e3, hc _ (mem_of_lookup e3)⟩

theorem digits2int_ok {prog : Program} {w : World} {P : Params} {h₀ : Heap} (B : Base P h₀) {A : Around} {E : Value → Shared → Prop} {s : Shared} {n : Nat} {l : Addr} {vs : List Value} {d : Nat → Nat} {t2 : Tok} {oc : Option Addr} {Q : Value → Shared → Prop}
    (room : A.depth < 700) (H : Hands h₀ [listR l vs, tabR 30 (fpos stJ) qJ oc] s) (hn : 1 ≤ n) (hsz : n * vs.length ≤ 62)
    (hv : ∀ i, i < vs.length → ∃ t, vs[i]? = some (.int (d i) t)) (hd : ∀ i, i < vs.length → d i < 2 ^ n)
    (h : ∀ s' c' t, Md (tabR 30 (fpos stJ) qJ oc).foot s s' → (oc = some c' ∨ (oc = none ∧ s.heap.get? c' = none)) → Hands h₀ [tabR 30 (fpos stJ) qJ (some c')] s' → Q (.int (dval n d 0 vs.length) t) s') :
    wpAny (model prog w) A (call (.ref 35) [.ref l, .int n t2]) Q E s := by
  refine enterC (X := (tabR 30 (fpos stJ) qJ oc).foot) H (fn_digits2int B) (Nat.lt_trans room (by decide)) (by kernel_rfl) (binds := [("digits", .ref l), ("n", .int n t2)]) (by kernel_rfl) (names := ["digits", "n"]) rfl (by decide +kernel) (by decide +kernel)
    (kn := ["inner", "n", "digits"]) (by intro L; kernel_rfl) (by decide +kernel) (by decide +kernel) ?_
  intro L s1 hc F
  have S := sc_digits2int B L
  have ci := cel_digits2int hc
  have hlen : vs.length ≤ 62 := Nat.le_trans (Nat.le_mul_of_pos_left _ hn) hsz
  refine x_def (by kernel_rfl) (by kernel_rfl) (by kernel_rfl) ?_
  have eq : qualnameIn (callEnvC (fnOf 35) L 35) "inner" "inner" = qJ := by kernel_rfl
  rw [eq]
  refine mk_fn B (name := "inner") (qual := qJ) (params := fparams stJ) (body := fbody stJ) (scope := fscope stJ) (pos := fpos stJ) (clos := closJ (L + 1 + 1) (L + 1 + 1 + 1) (L + 1)) (oc := oc) F (fun c' => by kd_subs) (by kernel_rfl) (c := 34) (by kernel_rfl) B.c2 (by kernel_rfl) (fun a f => .inl f) ?_
  intro f c' doc pm ctv s5 hf hc' F5
  have F5' : Fm h₀ (tabR 30 (fpos stJ) qJ oc).foot s (callEnvC (fnOf 35) L 35) _ [fnR f (fdJ (L + 1 + 1) (L + 1 + 1 + 1) (L + 1) c' doc pm ctv), listR l vs, tabR 30 (fpos stJ) qJ (some c')] s5 := F5
  refine st_cel F5' ci (by kqd_sub) ?_; intro s6 F6
  refine x_ret ?_
  refine PyProof.Rows.IfExp_ ?_
  refine PyProof.Rows.isTrue_plain ?_
  kfm_turns
  refine truthy_list (by assumption) (by kqd_in) (by lia) ?_; intro s7 F7
  refine if_bool (fun c => ?_) (fun c => ?_)
  · have hk0 : 0 < vs.length := by
      rcases vs with _ | ⟨v, r⟩
      · simp at c
      · simp
    kfm_turns
    refine cw_fnR (fd := fdJ (L + 1 + 1) (L + 1 + 1 + 1) (L + 1) c' doc pm ctv) ?_
    kfm_turns
    refine op_len (by assumption) (by kqd_in) (by lia) ?_; intro _ _ _
    kfm_turns
    refine ⟨Fm.rg (by assumption) _ (by kqd_in), ?_⟩
    refine innerJ_ok (L := 0) (tn := t2) B hn hsz hv hd vs.length rfl hk0 (Nat.le_refl _) (show A.depth + 1 + vs.length < 890 by lia) (Fm.hands (by assumption) (by k_subL)) ?_ ?_
    · refine Fm.clo (by assumption) (by k_subL) ?_ ?_ ?_
      · intro p hp
        simp only [closJ, List.mem_cons, List.not_mem_nil, or_false] at hp
        rcases hp with rfl | rfl | rfl <;> kernel_rfl
      · show [L + 1 + 1, L + 1 + 1 + 1, L + 1].Nodup
        simp
        exact fun e => absurd (show L + 2 = L from e) (by lia)
      · intro p hp
        simp only [List.mem_cons, List.not_mem_nil, or_false] at hp
        rcases hp with rfl | rfl | rfl
        · exact ⟨by kqd_in, ⟨L + 1, by kernel_rfl⟩, by show (fnOf 35).scope.names.lookup ("digits" : Str) ≠ some .local; decide +kernel⟩
        · exact ⟨by kqd_in, ⟨L + 1 + 1 + 1, by kernel_rfl⟩, by show (fnOf 35).scope.names.lookup ("inner" : Str) ≠ some .local; decide +kernel⟩
        · exact ⟨by kqd_in, ⟨L + 1 + 1, by kernel_rfl⟩, by show (fnOf 35).scope.names.lookup ("n" : Str) ≠ some .local; decide +kernel⟩
    · intro s8 t8 m8
      have F8 := Fm.keep (by assumption) m8
      exact h _ c' t8 F8.mod hc' (F8.hands (by k_subL))
  · have hv0 : vs = [] := by simpa using c
    subst hv0
    kfm_turns
    exact h _ c' _ (Fm.mod (by assumption)) hc' (Fm.hands (by assumption) (by k_subL))
end
end

section -- G1
open PySem PySem.W
open PyProof.Rows (IntsAre)
set_option Elab.async false
set_option maxRecDepth 100000
set_option linter.unusedVariables false
noncomputable section



/-! _law_bag -/
noncomputable def bagL (n : Nat) (x p : Nat) : List Nat :=
  if h : n = 0 ∨ x = 0 then [] else bagL n (x / 2 ^ n) (p + 1) ++ List.replicate (x % 2 ^ n) p
termination_by x
decreasing_by exact Nat.div_lt_self (by lia) (Nat.one_lt_two_pow (by lia))
theorem bagL_zero (n p : Nat) : bagL n 0 p = [] := by unfold bagL; simp
theorem bagL_pos {n x p : Nat} (hn : n ≠ 0) (hx : x ≠ 0) : bagL n x p = bagL n (x / 2 ^ n) (p + 1) ++ List.replicate (x % 2 ^ n) p := by
  rw [bagL]; rw [dif_neg (by lia)]

noncomputable abbrev asI (ns : List Nat) : List Int := ns.map fun (n : Nat) => (n : Int)
theorem ints_app {vs us : List Value} {ns ms : List Int} (h : IntsAre vs ns) (k : IntsAre us ms) : IntsAre (vs ++ us) (ns ++ ms) := by
  induction h with
  | nil => exact k
  | cons n t _ ih => exact .cons n t ih
theorem ints_rep {i : Int} {t : Tok} : ∀ k : Nat, IntsAre (List.replicate k (Value.int i t)) (List.replicate k i)
  | 0 => .nil
  | k + 1 => .cons i t (ints_rep k)
theorem shl1 {n : Nat} : (1 : Int) * 2 ^ ((n : Int)).toNat = ((2 ^ n : Nat) : Int) := by
  rw [Int.toNat_natCast]; push_cast; lia
theorem fmod_nat {a b : Nat} : ((a : Int)).fmod (b : Int) = ((a % b : Nat) : Int) := by
  rw [Int.fmod_eq_emod_of_nonneg _ (by lia)]; rfl

theorem shr_nat' {x k : Nat} : ((x : Int)).fdiv (2 ^ ((k : Int)).toNat) = ((x / 2 ^ k : Nat) : Int) := by
  rw [Int.toNat_natCast, Int.fdiv_eq_ediv_of_nonneg _ (Int.le_of_lt (Int.pow_pos (by decide)))]
  push_cast; rfl
set_option maxHeartbeats 4000000
theorem bag_ok {prog : Program} {w : World} {P : Params} {h₀ : Heap} (B : Base P h₀) {A : Around} {E : Value → Shared → Prop} {s : Shared} {x n : Nat} {t1 t2 : Tok} {Q : Value → Shared → Prop}
    (room : A.depth < 900) (hb : Kp h₀ s.heap) (hn : 1 ≤ n) (hn3 : n ≤ 3) (hT : (bagL n x 0).length ≤ 2 ^ 19)
    (h : ∀ s' l vs, Md NoX s s' → s.heap.get? l = none → Hands h₀ [listR l vs] s' → IntsAre vs (asI (bagL n x 0)) → Q (.ref l) s') :
    wpAny (model prog w) A (call (.ref 204) [.int x t1, .int n t2]) Q E s := by
  refine enter (X := NoX) (Hands.nil hb) (fn_bag B) (Nat.lt_trans room (by decide)) (by decide +kernel) (by kernel_rfl) (binds := [("size", .int x t1), ("width", .int n t2)]) (by kernel_rfl) (names := ["size", "width"]) rfl (by decide +kernel) ?_
  intro L s1 F
  have S := sc_bag B L
  refine x_assign ?_
  refine ev_list ?_
  kfm_turns
  refine nl_list (by assumption) (by simp) ?_; intro l0 s2 hl0 F2
  kfm_turns
  refine x_while (fun k s' => E6 fun l vs acc p t t3 => s.heap.get? l = none ∧ IntsAre vs (asI acc) ∧ bagL n k p ++ acc = bagL n x 0 ∧
      Fm h₀ NoX s (fenv (fnOf 204) 204 L) [("size", .int k t), ("width", .int n t2), ("bag", .ref l), ("place", .int (p : Nat) t3)] [listR l vs] s') x ⟨l0, [], [], 0, _, _, hl0, .nil, by simp, by assumption⟩ ?_
  intro k s3
  (repeat (first | (with_reducible refine WithL.in fun _ _ _ _ => ?_) | (with_reducible refine WithE.in fun _ _ _ => ?_)))
  rintro ⟨l, vs, acc, p, t, t3, hl, hi, hacc, F3⟩
  refine PyProof.Rows.isTrue_plain ?_
  kfm_turns
  refine PyProof.Rows.truthy_int ?_
  refine if_bool (fun c => ?_) (fun c => ?_)
  · have hk : k ≠ 0 := fun e => by subst e; simp at c
    refine x_assign ?_
    refine wpAny_BinOp ?_
    refine wpAny_BinOp ?_
    refine ev_list ?_
    kfm_turns
    refine nl_list (by assumption) (by simp) ?_; intro l4 s4 hl4 F4
    kfm_turns
    refine op_lsh (by lia) (by lia) (by decide) (by assumption) ?_; intro _ _ _
    rw [shl1]
    refine op_mod (by have := Nat.pow_pos (n := n) (show 0 < 2 by decide); lia) (by assumption) ?_; intro _ _ _
    rw [fmod_nat]
    have h8 : k % 2 ^ n < 8 := Nat.lt_of_lt_of_le (Nat.mod_lt _ (Nat.pow_pos (by decide))) (Nat.pow_le_pow_right (by decide) hn3)
    refine op_mulL (by assumption) (by kqd_in) (by lia) (by rw [Int.toNat_natCast]; simp; lia) (by lia) ?_; intro l5 s5 hl5 F5
    have erep : (List.replicate (((k % 2 ^ n : Nat) : Int)).toNat [Value.int (p : Int) t3]).flatten = List.replicate (k % 2 ^ n) (Value.int (p : Int) t3) := by
      rw [Int.toNat_natCast]
      generalize k % 2 ^ n = j
      induction j with
      | zero => rfl
      | succ j ih => rw [List.replicate_succ, List.flatten_cons, ih, List.replicate_succ]; rfl
    rw [erep] at F5
    kfm_turns
    have hlen : vs.length ≤ 2 ^ 19 := by
      have := hi.length
      have h2 := congrArg List.length hacc
      simp only [List.length_append] at h2
      simp [asI] at this
      lia
    refine op_addL (by assumption) (by kqd_in) (by kqd_in) (by simp; lia) ?_; intro l6 s6 hl6 F6
    kfm_turns
    refine op_irsh (by lia) (by assumption) ?_; intro _ _ _
    rw [shr_nat']
    kfm_turns
    refine ⟨k / 2 ^ n, Nat.div_lt_self (by lia) (Nat.one_lt_two_pow (by lia)), l6, _, List.replicate (k % 2 ^ n) p ++ acc, p + 1, _, _, hl6, ?_, ?_, Fm.sub (by assumption) (by exact .cons_cons _ (List.nil_sublist _))⟩
    · have : asI (List.replicate (k % 2 ^ n) p ++ acc) = List.replicate (k % 2 ^ n) (p : Int) ++ asI acc := by simp [asI]
      rw [this]; exact ints_app (ints_rep _) hi
    · rw [← hacc, bagL_pos (by lia) hk, List.append_assoc]
  · have hk : k = 0 := by simpa using c
    subst hk
    kfm_turns
    rw [bagL_zero, List.nil_append] at hacc
    exact h _ l vs F3.mod hl (F3.hands (by k_subL)) (hacc ▸ hi)
end
end

section -- G2
open PySem PySem.W
open PyProof.Rows (IntsAre)
set_option Elab.async false
set_option maxRecDepth 100000
set_option linter.unusedVariables false
noncomputable section



/-! _law_due -/
inductive Clos (n : Nat) (S : List Nat) : Nat → Prop
  | base {x : Nat} : x ∈ S → Clos n S x
  | step {x p : Nat} : Clos n S x → p ∈ bagL n x 0 → Clos n S p

theorem asI_mem {ns : List Nat} {k : Nat} : (k : Int) ∈ asI ns ↔ k ∈ ns := by
  constructor
  · intro h
    obtain ⟨x, hx, e⟩ := List.mem_map.mp h
    have : x = k := by lia
    exact this ▸ hx
  · intro h; exact List.mem_map.mpr ⟨k, h, rfl⟩
theorem asI_any {ns : List Nat} {k : Nat} : ((asI ns).any (· == (k : Int))) = decide (k ∈ ns) := by
  by_cases h : k ∈ ns
  · rw [decide_eq_true h, List.any_eq_true]
    exact ⟨k, asI_mem.mpr h, by simp⟩
  · rw [decide_eq_false h, List.any_eq_false]
    intro x hx e
    have : x = (k : Int) := by simpa using e
    exact h (asI_mem.mp (this ▸ hx))
theorem asI_len (ns : List Nat) : (asI ns).length = ns.length := by simp [asI]
theorem sub_len {l U : List Nat} (nd : l.Nodup) (h : ∀ x ∈ l, x ∈ U) : l.length ≤ U.length := by
  induction l generalizing U with
  | nil => exact Nat.zero_le _
  | cons x r ih =>
    rw [List.nodup_cons] at nd
    have hx := h x (.head _)
    have := ih (U := U.erase x) nd.2 fun y hy => (List.mem_erase_of_ne (fun (e : y = x) => nd.1 (e ▸ hy))).mpr (h y (.tail _ hy))
    rw [List.length_erase_of_mem hx] at this
    have := List.length_pos_of_mem hx
    simp only [List.length_cons]; lia
theorem ints_snoc {vs : List Value} {ms : List Int} (h : IntsAre vs ms) {k : Int} (hk : ∃ r, ms = r ++ [k]) : ∃ us t, vs = us ++ [.int k t] ∧ ∀ r, ms = r ++ [k] → IntsAre us r := by
  induction h with
  | nil => obtain ⟨r, e⟩ := hk; simp at e
  | cons i t h ih =>
    obtain ⟨r, e⟩ := hk
    cases r with
    | nil =>
      simp at e
      obtain ⟨rfl, rfl⟩ := e
      cases h
      refine ⟨[], t, rfl, fun r e => ?_⟩
      cases r with
      | nil => exact .nil
      | cons a r => simp at e
    | cons a r =>
      simp only [List.cons_append, List.cons.injEq] at e
      obtain ⟨us, t', e1, e2⟩ := ih ⟨r, e.2⟩
      refine ⟨.int i t :: us, t', by rw [e1]; rfl, fun r' e' => ?_⟩
      cases r' with
      | nil => simp at e'; obtain ⟨_, rfl⟩ := e'; simp at e
      | cons b r' =>
        simp only [List.cons_append, List.cons.injEq] at e'
        obtain ⟨rfl, e'⟩ := e'
        exact .cons _ _ (e2 r' e')
set_option maxHeartbeats 4000000
theorem due_ok {prog : Program} {w : World} {P : Params} {h₀ : Heap} (B : Base P h₀) {A : Around} {E : Value → Shared → Prop} {s : Shared} {n : Nat} {t2 : Tok} {l : Addr} {vs : List Value} {S U : List Nat} {Q : Value → Shared → Prop}
    (room : A.depth < 899) (hH : Hands h₀ [listR l vs] s) (hv : IntsAre vs (asI S)) (hn : 1 ≤ n) (hn3 : n ≤ 3) (hU : ∀ x, Clos n S x → x ∈ U) (hU64 : U.length < 64) (hS : S.length < 64) (hT : ∀ x ∈ U, (bagL n x 0).length ≤ 64)
    (h : ∀ s' l' vs' D, Md NoX s s' → s.heap.get? l' = none → Hands h₀ [listR l' vs'] s' → IntsAre vs' (asI D) → D.Pairwise (· < ·) → (∀ x, x ∈ D ↔ Clos n S x) → Q (.ref l') s') :
    wpAny (model prog w) A (call (.ref 211) [.ref l, .int n t2]) Q E s := by
  refine enter (X := NoX) hH (fn_due B) (Nat.lt_trans room (by decide)) (by decide +kernel) (by kernel_rfl) (binds := [("sizes", .ref l), ("width", .int n t2)]) (by kernel_rfl) (names := ["sizes", "width"]) rfl (by decide +kernel) ?_
  intro L s1 F
  have S1 := sc_due B L
  have k204 := fn_bag B
  have hvl := hv.length
  rw [asI_len] at hvl
  refine x_assign ?_
  refine ev_list ?_
  kfm_turns
  refine nl_list (by assumption) (by simp) ?_; intro l0 s2 hl0 F2
  kfm_turns
  refine op_listcopy (by assumption) (by kqd_in) (by lia) ?_; intro l1 s3 hl1 F3
  kfm_turns
  refine x_while (fun k s' => E6 fun lf lw fs ws us vs => s.heap.get? lf = none ∧ s.heap.get? lw = none ∧ IntsAre us (asI fs) ∧ IntsAre vs (asI ws) ∧ fs.Nodup ∧ (∀ x ∈ fs, Clos n S x) ∧ (∀ x ∈ ws, Clos n S x) ∧
      (∀ x ∈ S, x ∈ fs ∨ x ∈ ws) ∧ (∀ x ∈ fs, ∀ p ∈ bagL n x 0, p ∈ fs ∨ p ∈ ws) ∧ k = (U.length - fs.length) * 65 + ws.length ∧ ws.length ≤ 64 + 64 * fs.length ∧
      Fm h₀ NoX s (fenv (fnOf 211) 211 L) [("sizes", .ref l), ("width", .int n t2), ("found", .ref lf), ("waiting", .ref lw)] [listR lw vs, listR lf us] s') (U.length * 65 + S.length)
      ⟨l0, l1, [], S, [], vs, hl0, hl1, .nil, hv, .nil, (fun _ h => nomatch h), fun x hx => .base hx, fun x hx => .inr hx, (fun _ h => nomatch h), by simp, by simp; lia, ?_⟩ ?_
  · exact Fm.sub (by assumption) (by k_subL)
  intro k s4
  (repeat (first | (with_reducible refine WithL.in fun _ _ _ _ => ?_) | (with_reducible refine WithE.in fun _ _ _ => ?_)))
  rintro ⟨lf, lw, fs, ws, us, vs4, hlf, hlw, hus, hvs, hnd, hfs, hws, hS1, hcl, hk, hwz, F4⟩
  have hfU : fs.length ≤ U.length := sub_len hnd fun x hx => hU x (hfs x hx)
  have hfl := hus.length
  have hwl := hvs.length
  rw [asI_len] at hfl hwl
  have wlf : Wr NoX s lf := .inr hlf
  have wlw : Wr NoX s lw := .inr hlw
  refine PyProof.Rows.isTrue_plain ?_
  kfm_turns
  refine truthy_list (by assumption) (by kqd_in) (by lia) ?_; intro s5 F5
  refine if_bool (fun c => ?_) (fun c => ?_)
  · obtain ⟨ws', y, rfl⟩ : ∃ ws' y, ws = ws' ++ [y] := by
      rcases List.eq_nil_or_concat ws with rfl | ⟨r, y, e⟩
      · cases hvs; simp at c
      · exact ⟨r, y, by simpa using e⟩
    obtain ⟨us5, t5, rfl, e5⟩ := ints_snoc hvs (k := y) ⟨asI ws', by simp [asI]⟩
    have hi5 := e5 (asI ws') (by simp [asI])
    simp only [List.length_append, List.length_cons, List.length_nil] at hwl hwz hk
    refine x_assign ?_
    refine ev_meth (pl := _) ?_
    kfm_turns
    refine meth_list (by assumption) (by kqd_in) PySem.F.slot_list_pop PySem.F.type_list_pop ?_
    kfm_turns
    refine pop_list (by assumption) (by kd_subs) wlw (by lia) ?_; intro s6 F6
    kfm_turns
    refine x_if ?_
    kfm_turns
    refine op_notin (by assumption) (by kqd_in) hus ?_
    rw [asI_any]
    kfm_turns
    refine if_bool (fun c => ?_) (fun c => ?_)
    · have hy : y ∉ fs := by simpa using c
      refine x_expr ?_
      refine ev_meth (pl := _) ?_
      kfm_turns
      refine meth_list (by assumption) (by kqd_in) PySem.F.slot_list_append PySem.F.type_list_append ?_
      kfm_turns
      refine app_list (by assumption) (by kd_subs) wlf (by lia) ?_; intro s7 F7
      kfm_turns
      refine bag_ok B (show A.depth + 1 < 900 by lia) (Fm.base (by assumption)) hn hn3 (Nat.le_trans (hT y (hU y (hws y (by simp)))) (by decide)) ?_
      intro s8 l8 vs8 m8 hl8 H8 hi8
      rename_i F7' _
      have F8 := F7.got m8 hl8 H8
      have hl8v := hi8.length
      rw [asI_len] at hl8v
      have := hT y (hU y (hws y (by simp)))
      have hfU' : (fs ++ [y]).length ≤ U.length := sub_len (by rw [List.nodup_append]; exact ⟨hnd, by simp, by intro a ha b hb e; simp at hb; subst hb; exact hy (e ▸ ha)⟩) fun x hx => by
        rcases List.mem_append.mp hx with hx | hx
        · exact hU x (hfs x hx)
        · rw [List.mem_singleton.mp hx]; exact hU y (hws y (by simp))
      simp only [List.length_append, List.length_cons, List.length_nil] at hfU'
      refine op_iaddL (by assumption) (by kd_subs) (by kqd_in) wlw (by lia) ?_; intro s9 F9
      kfm_turns
      refine ⟨(U.length - (fs ++ [y]).length) * 65 + (ws' ++ bagL n y 0).length, ?_, lf, lw, fs ++ [y], ws' ++ bagL n y 0, _, _, hlf, hlw, ?_, ?_, ?_, ?_, ?_, ?_, ?_, rfl, ?_, Fm.locsub (Fm.sub (by assumption) (by k_subL)) (by k_subL)⟩
      · simp only [List.length_append, List.length_cons, List.length_nil]; lia
      · have : asI (fs ++ [y]) = asI fs ++ [(y : Int)] := by simp [asI]
        rw [this]; exact ints_app hus (.cons _ _ .nil)
      · have : asI (ws' ++ bagL n y 0) = asI ws' ++ asI (bagL n y 0) := by simp [asI]
        rw [this]; exact ints_app hi5 hi8
      · rw [List.nodup_append]; exact ⟨hnd, by simp, by intro a ha b hb e; simp at hb; subst hb; exact hy (e ▸ ha)⟩
      · intro x hx
        rcases List.mem_append.mp hx with hx | hx
        · exact hfs x hx
        · rw [List.mem_singleton.mp hx]; exact hws y (by simp)
      · intro x hx
        rcases List.mem_append.mp hx with hx | hx
        · exact hws x (by simp [hx])
        · exact .step (hws y (by simp)) hx
      · intro x hx
        rcases hS1 x hx with h1 | h1
        · exact .inl (by simp [h1])
        · rcases List.mem_append.mp h1 with h1 | h1
          · exact .inr (by simp [h1])
          · exact .inl (by simp at h1; simp [h1])
      · intro x hx p hp
        rcases List.mem_append.mp hx with hx | hx
        · rcases hcl x hx p hp with h1 | h1
          · exact .inl (by simp [h1])
          · rcases List.mem_append.mp h1 with h1 | h1
            · exact .inr (by simp [h1])
            · exact .inl (by simp at h1; simp [h1])
        · rw [List.mem_singleton.mp hx] at hp
          exact .inr (by simp [hp])
      · simp only [List.length_append, List.length_cons, List.length_nil]; lia
    · have hy : y ∈ fs := by simpa using c
      kfm_turns
      refine ⟨(U.length - fs.length) * 65 + ws'.length, by lia, lf, lw, fs, ws', _, _, hlf, hlw, hus, hi5, hnd, hfs, fun x hx => hws x (by simp [hx]), ?_, ?_, rfl, by lia, Fm.locsub (Fm.sub (by assumption) (by k_subL)) (by k_subL)⟩
      · intro x hx
        rcases hS1 x hx with h1 | h1
        · exact .inl h1
        · rcases List.mem_append.mp h1 with h1 | h1
          · exact .inr h1
          · exact .inl (by simp at h1; exact h1 ▸ hy)
      · intro x hx p hp
        rcases hcl x hx p hp with h1 | h1
        · exact .inl h1
        · rcases List.mem_append.mp h1 with h1 | h1
          · exact .inr h1
          · exact .inl (by simp at h1; exact h1 ▸ hy)
  · have hw0 : ws = [] := by
      rcases vs4 with _ | ⟨a, b⟩
      · rcases ws with _ | ⟨a, b⟩
        · rfl
        · simp at hwl
      · simp at c
    subst hw0
    kfm_turns
    refine op_sorted (by assumption) (by kqd_in) hus (by lia) ?_
    intro a s6 vs' ns' ha F6 hi hp hs
    obtain ⟨D, rfl, hD⟩ : ∃ D : List Nat, ns' = asI D ∧ D.Perm fs := by
      refine ⟨ns'.map Int.toNat, ?_, ?_⟩
      · rw [asI, List.map_map]
        refine (List.map_id _).symm.trans (List.map_congr_left fun x hx => ?_)
        obtain ⟨y, _, e⟩ := List.mem_map.mp (hp.subset hx)
        show x = ((x.toNat : Nat) : Int)
        lia
      · have := hp.map Int.toNat
        refine this.trans (List.Perm.of_eq ?_)
        rw [asI, List.map_map]
        refine (List.map_congr_left fun x hx => ?_).trans (List.map_id _)
        simp
    refine h _ a vs' D F6.mod ha (F6.hands (by k_subL)) hi ?_ fun x => ⟨fun hx => hfs x (hD.subset hx), fun hx => hD.symm.subset ?_⟩
    · have h1 : D.Pairwise (· ≤ ·) := by
        have := List.pairwise_map.mp hs
        exact this.imp fun h => by lia
      have h2 : D.Pairwise (· ≠ ·) := hD.nodup_iff.mpr hnd
      exact (h1.and h2).imp fun h => by lia
    · induction hx with
      | base hx => exact (hS1 _ hx).resolve_right (fun h => nomatch h)
      | step _ hp ih => exact (hcl _ ih _ hp).resolve_right (fun h => nomatch h)
end
end

section -- G3
open PySem PySem.W
open PyProof.Rows (IntsAre)
set_option Elab.async false
set_option maxRecDepth 100000
set_option linter.unusedVariables false
noncomputable section



/-! _law_drawn -/
/-- x is put together of at most four powers -/
noncomputable def Dr (n x : Nat) : Prop := ∃ es : List Nat, es.length ≤ 4 ∧ (∀ e ∈ es, e ≤ 9) ∧ x = (es.map fun e => 2 ^ (n * e)).sum
theorem mod_pos (a : Int) {b : Nat} (hb : 0 < b) : ∃ k : Nat, a.fmod (b : Int) = (k : Int) ∧ k < b := by
  have h1 := Int.fmod_nonneg_of_pos a (show (0 : Int) < b by lia)
  have h2 := Int.fmod_lt_of_pos a (show (0 : Int) < b by lia)
  exact ⟨(a.fmod b).toNat, by lia, by lia⟩
theorem ints_get {vs : List Value} {ns : List Int} (h : IntsAre vs ns) : ∀ {i : Nat} {v : Value}, vs[i]? = some v → ∃ i t, v = .int i t := by
  induction h with
  | nil => intro i v e; simp at e
  | cons n t _ ih =>
    intro i v e
    cases i with
    | zero => simp at e; exact ⟨n, t, e.symm⟩
    | succ i => exact ih (by simpa using e)
theorem nl_three {M : Model} {A : Around} {E : Value → Shared → Prop} {h₀ : Heap} {X : Addr → Prop} {s₀ s : Shared} {env : Env} {loc : List (Str × Value)} {rs : List Rg} {a b c : Int} {t u v : Tok} {Q : Value → Shared → Prop} (F : Fm h₀ X s₀ env loc rs s)
    (h : ∀ l s' cs ms, s₀.heap.get? l = none → IntsAre cs ms → cs.length = 3 → Fm h₀ X s₀ env loc (listR l cs :: rs) s' → Q (.ref l) s') : wpAny M A (newList [.int a t, .int b u, .int c v]) Q E s :=
  nl_list F (by simp) fun l s' hl F' => h l s' _ _ hl (.cons _ _ (.cons _ _ (.cons _ _ .nil))) rfl F'
set_option maxHeartbeats 4000000
theorem drawn_ok {prog : Program} {w : World} {P : Params} {h₀ : Heap} (B : Base P h₀) {A : Around} {E : Value → Shared → Prop} {s : Shared} {l : Addr} {vs : List Value} {ns : List Int} {Q : Value → Shared → Prop}
    (room : A.depth < 900) (hh : A.handled = none) (hb : Kp h₀ s.heap) (hl : h₀.IsList l vs.toArray) (hi : IntsAre vs ns) (hz : vs.length ≤ 63)
    (h : ∀ s' T lz us S n t, Md NoX s s' → s.heap.get? T = none → s.heap.get? lz = none → Hands h₀ [tupR T [.int (n : Nat) t, .ref lz], listR lz us] s' → IntsAre us (asI S) → S.length = 3 → 1 ≤ n → n ≤ 3 → (∀ x ∈ S, Dr n x) → Q (.ref T) s') :
    wpAny (model prog w) A (call (.ref 197) [.ref l]) Q E s := by
  refine enter (X := NoX) (Hands.nil hb) (fn_drawn B) (Nat.lt_trans room (by decide)) (by decide +kernel) (by kernel_rfl) (binds := [("script", .ref l)]) (by kernel_rfl) (names := ["script"]) rfl (by decide +kernel) ?_
  intro L s1 F
  have S1 := sc_drawn B L
  have hb1 : ∀ {s' : Shared} {rs : List Rg} {loc : List (Str × Value)}, Fm h₀ NoX s (fenv (fnOf 197) 197 L) loc rs s' → s'.heap.IsList l vs.toArray := fun F => by
    obtain ⟨o, e, r⟩ := hl
    exact ⟨o, F.base _ _ e, r⟩
  refine x_assign ?_
  refine ev_list ?_
  kfm_turns
  refine ev_slc ?_
  refine ep_some ?_
  kfm_turns
  refine ep_none ?_
  refine ep_some ?_
  kfm_turns
  refine nl_slc (by assumption) ?_; intro a0 s01 ha0 F01
  refine sub_slc F01 (hb1 F01) (by kqd_in) (.int _ _) .none (.int _ _) (by decide) (by lia) ?_; intro b0 s02 hb0' F02
  obtain ⟨ms0, hm0⟩ := ints_pick hi (some 0) none (some 3)
  refine op_sum (by exact hh) F02 (by kqd_in) hm0 ?_; intro i0 t0 s03 F03
  kfm_turns
  refine ev_slc ?_
  refine ep_some ?_
  kfm_turns
  refine ep_none ?_
  refine ep_some ?_
  kfm_turns
  refine nl_slc (by assumption) ?_; intro a1 s11 ha1 F11
  refine sub_slc F11 (hb1 F11) (by kqd_in) (.int _ _) .none (.int _ _) (by decide) (by lia) ?_; intro b1 s12 hb1' F12
  obtain ⟨ms1, hm1⟩ := ints_pick hi (some 1) none (some 3)
  refine op_sum (by exact hh) F12 (by kqd_in) hm1 ?_; intro i1 t1 s13 F13
  kfm_turns
  refine ev_slc ?_
  refine ep_some ?_
  kfm_turns
  refine ep_none ?_
  refine ep_some ?_
  kfm_turns
  refine nl_slc (by assumption) ?_; intro a2 s21 ha2 F21
  refine sub_slc F21 (hb1 F21) (by kqd_in) (.int _ _) .none (.int _ _) (by decide) (by lia) ?_; intro b2 s22 hb2' F22
  obtain ⟨ms2, hm2⟩ := ints_pick hi (some 2) none (some 3)
  refine op_sum (by exact hh) F22 (by kqd_in) hm2 ?_; intro i2 t2 s23 F23
  kfm_turns
  refine nl_three (by assumption) ?_; intro lc s4 cs ms hlc hcs hc3 F4
  replace F4 := F4.sub (rs' := [listR lc cs]) (by k_subL)
  clear F01 F02 F03 F11 F12 F13 F21 F22 F23
  kfm_turns
  refine op_sum (by exact hh) (by assumption) (by kqd_in) hcs ?_; intro i5 t5 s5 F5
  kfm_turns
  refine op_mod (by decide) (by assumption) ?_; intro _ _ _
  obtain ⟨w3, ew, hw3⟩ := mod_pos i5 (b := 3) (by decide)
  rw [show i5.fmod 3 = (w3 : Int) from ew]
  kfm_turns
  obtain ⟨n, en, hn1, hn3⟩ : ∃ n : Nat, (1 : Int) + w3 = (n : Int) ∧ 1 ≤ n ∧ n ≤ 3 := ⟨1 + w3, by lia, by lia, by lia⟩
  rename_i F55
  rw [en] at F55
  refine ev_list ?_
  kfm_turns
  refine nl_list (by assumption) (by simp) ?_; intro lz s6 hlz F6
  kfm_turns
  refine x_for ?_
  kfm_turns
  rename_i F66
  refine it_list (by assumption) (by kqd_in) ?_; intro I s7 hI hIl F7
  refine ⟨fun k s' => E3 fun us S tw => k + S.length = 3 ∧ IntsAre us (asI S) ∧ (∀ x ∈ S, Dr n x) ∧
      Fm h₀ NoX s (fenv (fnOf 197) 197 L) [("script", .ref l), ("cells", .ref lc), ("width", .int n tw), ("sizes", .ref lz)] [liR I lc S.length, listR lz us, listR lc cs] s', 3,
      ⟨[], [], _, rfl, .nil, (fun _ h => nomatch h), F7⟩, ?_⟩
  intro k s8
  (repeat (first | (with_reducible refine WithL.in fun _ _ _ _ => ?_) | (with_reducible refine WithE.in fun _ _ _ => ?_)))
  rintro ⟨us, S, tw, hk, hus, hS, F8⟩
  have hul := hus.length
  rw [asI_len] at hul
  have wlz : Wr NoX s lz := .inr hlz
  rcases k with _ | k
  · have eS : S.length = cs.length := by lia
    rw [eS] at F8
    refine nd_list (by exact hh) F8 (by kqd_in) hIl .hit hI ?_; intro s9 F9
    kfm_turns
    refine ev_tup ?_
    kfm_turns
    refine nl_tup (by assumption) (by simp) ?_; intro T s10 hT F10
    exact h _ T lz us S n _ F10.mod hT hlz (F10.hands (by k_subL)) hus (by lia) hn1 hn3 hS
  · refine nx_list (by exact hh) F8 (by kqd_in) hIl (by lia) .hit hI ?_; intro v s9 hv F9
    obtain ⟨ci, ct, rfl⟩ : ∃ i t, v = .int i t := ints_get hcs hv
    kfm_turns
    refine op_fdiv (by decide) (PyProof.noPylong_of_log2 (by decide +kernel)) (by assumption) ?_; intro _ _ _
    kfm_turns
    refine x_for ?_
    kfm_turns
    refine op_mod (by decide) (by assumption) ?_; intro _ _ _
    obtain ⟨c5, ec, hc5⟩ := mod_pos ci (b := 5) (by decide)
    rw [show ci.fmod 5 = (c5 : Int) from ec]
    refine op_range (by assumption) ?_; intro rg s11 hrg F11
    refine it_rng (by assumption) (by kqd_in) (by lia) ?_; intro J s12 hJ F12
    refine ⟨fun j s' => E5 fun (x : Nat) (rest i0 : Int) (t1 t2 : Tok) => j ≤ c5 ∧ (∃ es : List Nat, es.length + j = c5 ∧ (∀ e ∈ es, e ≤ 9) ∧ x = (es.map fun e => 2 ^ (n * e)).sum) ∧
        Fm h₀ NoX s (fenv (fnOf 197) 197 L) [("script", .ref l), ("cells", .ref lc), ("width", .int n tw), ("sizes", .ref lz), ("cell", .int ci ct), ("rest", .int rest t1), ("size", .int x t2)] [riR J i0 j 1, liR I lc (S.length + 1), listR lz us, listR lc cs] s', c5,
        ⟨0, _, _, _, _, Nat.le_refl _, ⟨[], by simp, (fun _ h => nomatch h), rfl⟩, F12.sub (by k_subL)⟩, ?_⟩
    intro j s13
    (repeat (first | (with_reducible refine WithL.in fun _ _ _ _ => ?_) | (with_reducible refine WithE.in fun _ _ _ => ?_)))
    rintro ⟨x, rest, i0, t1, t2, hj, ⟨es, he1, he2, he3⟩, F13⟩
    rcases j with _ | j
    · refine nd_rng (by exact hh) F13 (by lia) .hit hJ ?_; intro s14 F14
      kfm_turns
      refine ev_meth (pl := _) ?_
      kfm_turns
      refine meth_list (by assumption) (by kqd_in) PySem.F.slot_list_append PySem.F.type_list_append ?_
      kfm_turns
      refine app_list (by assumption) (by kd_subs) wlz (by lia) ?_; intro s15 F15
      kfm_turns
      refine ⟨k, by lia, us ++ [.int x t2], S ++ [x], tw, by simp; lia, ?_, ?_, ?_⟩
      · have : asI (S ++ [x]) = asI S ++ [(x : Int)] := by simp [asI]
        rw [this]; exact ints_app hus (.cons _ _ .nil)
      · intro y hy
        rcases List.mem_append.mp hy with hy | hy
        · exact hS y hy
        · rw [List.mem_singleton.mp hy]; exact ⟨es, by lia, he2, he3⟩
      · rw [List.length_append]; exact Fm.locsub F15 (by k_subL)
    · refine nx_rng (by exact hh) F13 (by lia) .hit hJ ?_; intro t5 s14 F14
      kfm_turns
      refine op_mod (by decide) (by assumption) ?_; intro _ _ _
      obtain ⟨e10, ee, he10⟩ := mod_pos rest (b := 10) (by decide)
      rw [show rest.fmod 10 = (e10 : Int) from ee]
      refine op_mul (by assumption) ?_ (.of_right (PyProof.Rows.intBits_le (by simp; lia))); intro _ _ _
      rw [show (n : Int) * (e10 : Int) = ((n * e10 : Nat) : Int) by push_cast; rfl]
      have h27 : n * e10 ≤ 27 := Nat.le_trans (Nat.mul_le_mul hn3 (show e10 ≤ 9 by lia)) (by decide)
      refine op_lsh (by lia) (by lia) (by decide) (by assumption) ?_; intro _ _ _
      rw [shl1]
      kfm_turns
      refine op_ifdiv (by decide) (PyProof.noPylong_of_log2 (by decide +kernel)) (by assumption) ?_; intro _ _ _
      kfm_turns
      rename_i F15
      rw [show ((j + 1 : Nat) : Int) - 1 = j by lia, ← Int.natCast_add] at F15
      refine ⟨j, by lia, x + 2 ^ (n * e10), _, _, _, _, by lia, ⟨e10 :: es, by simp; lia, ?_, ?_⟩, Fm.locsub F15 (by k_subL)⟩
      · intro y hy
        rcases List.mem_cons.mp hy with rfl | hy
        · lia
        · exact he2 y hy
      · rw [List.map_cons, List.sum_cons, ← he3, Nat.add_comm]
end
end

section -- C1
open PySem PySem.W
open PyProof.Rows (IntsAre)
set_option Elab.async false
set_option maxRecDepth 100000
set_option linter.unusedVariables false

/-! dicts -/
section
variable {prog : Program} {w : World} {K : Type} [DecidableEq K] {knd : KeyKind prog w K} {A : Around} {E : Value → Shared → Prop} {h₀ : Heap} {X : Addr → Prop} {s₀ s : Shared} {env : Env} {loc : List (Str × Value)} {rs rs' : List Rg}
  {d : Addr} {kvs : List (K × Value)} {k : K} {key v : Value}

noncomputable def dicR (knd : KeyKind prog w K) (a : Addr) (kvs : List (K × Value)) : Rg :=
  ⟨(· = a), fun h => h.DictOf knd a kvs ∧ (a == sysModules) = false, fun _ _ k ⟨⟨o, es, ep, ho, r⟩, z⟩ => ⟨⟨o, es, ep, k a o rfl ho, r⟩, z⟩⟩

theorem Fm.dic (F : Fm h₀ X s₀ env loc rs s) (hm : dicR knd d kvs ∈ rs) : s.heap.DictOf knd d kvs := (F.rg _ hm).1
theorem Fm.dic1 (F : Fm h₀ X s₀ env loc rs s) (hm : dicR knd d kvs ∈ rs) : (d == sysModules) = false := (F.rg _ hm).2
theorem Fm.dicNd (F : Fm h₀ X s₀ env loc rs s) (hm : dicR knd d kvs ∈ rs) : (kvs.map (·.1)).Nodup := let ⟨_, _, _, _, _, _, _, _, n⟩ := F.dic hm; n

theorem ev_dicE (knd : KeyKind prog w K) {pos : Pos} {Q : Value → Shared → Prop} (h3 : ∃ o, h₀.get? 3 = some o) (F : Fm h₀ X s₀ env loc rs s)
    (h : ∀ a s', s₀.heap.get? a = none → Fm h₀ X s₀ env loc (dicR knd a [] :: rs) s' → Q (.ref a) s') : wpAny (model prog w) A (eval (.Dict [] [] pos) env) Q E s := by
  refine wpAny_Dict_empty (h _ _ (F.mod.none_of (get?_size _)) (F.alloc s.toks rfl (fun a e => e) ⟨Heap.DictOf.new _, ?_⟩))
  obtain ⟨o, e⟩ := h3
  have := Heap.lt_size (F.base 3 o e)
  rw [beq_eq_false_iff_ne]
  exact Nat.ne_of_gt (Nat.lt_trans (show 1 < 3 by decide) this)

theorem sub_dic {value slice : Expr} {Q : Value → Shared → Prop} (F : Fm h₀ X s₀ env loc rs s) (hm : dicR knd d kvs ∈ rs) (hk : knd.is k key = true) (hv : valueAt kvs k = some v)
    (h : ∀ s', Fm h₀ X s₀ env loc rs s' → Q v s')
    (hs : subscripted slice false (.ref d) key = operate [.ref d, key] (getItem (.ref d) key)) (hg : ∀ r, PySem.letTemporaryGo value (.ref d) r = pure () := by intro _; with_unfolding_all rfl) :
    wpAny (model prog w) A (PyProof.Rows.subscriptTail value slice (.ref d) key) Q E s :=
  PyProof.Rows.subscriptTail_builtin (F.dic hm).typeIs slot_dict_getitem.lookup (wpAny_getItem_of hk (F.dic hm).mapOf hv (h _ (F.toks _))) hs hg
theorem get_dic {Q : Value → Shared → Prop} (F : Fm h₀ X s₀ env loc rs s) (hm : dicR knd d kvs ∈ rs) (hk : knd.is k key = true) (hv : valueAt kvs k = some v)
    (h : ∀ s', Fm h₀ X s₀ env loc rs s' → Q v s') : wpAny (model prog w) A (getItem (.ref d) key) Q E s :=
  wpAny_getItem_of hk (F.dic hm).mapOf hv (h _ (F.toks _))
theorem set_dic {Q : Unit → Shared → Prop} (F : Fm h₀ X s₀ env loc rs s) (up : UpdR (dicR knd d kvs) (dicR knd d (stored kvs k v)) rs rs') (hw : Wr X s₀ d) (hk : knd.is k key = true) (hz : kvs.length ≤ 2 ^ 20)
    (h : ∀ s', Fm h₀ X s₀ env loc rs' s' → Q () s') : wpAny (model prog w) A (setItem (.ref d) key v) Q E s := by
  refine wpAny_setItem_pairs (hsz := by rw [sizeLine_eq]; lia) hk (F.dic up.mem) fun h' hd hs => h _ ?_
  have hd' := hd
  obtain ⟨o, _, _, ho, _⟩ := hd'
  exact F.ch1 up (.same hs ho) hw ⟨hd, F.dic1 up.mem⟩
theorem del_dic {Q : Unit → Shared → Prop} (F : Fm h₀ X s₀ env loc rs s) (up : UpdR (dicR knd d kvs) (dicR knd d (without kvs k)) rs rs') (hw : Wr X s₀ d) (hk : knd.is k key = true) (hz : kvs.length ≤ 2 ^ 20) (hv : (valueAt kvs k).isSome = true)
    (h : ∀ s', Fm h₀ X s₀ env loc rs' s' → Q () s') : wpAny (model prog w) A (delItem (.ref d) key) Q E s := by
  have hD := F.dic up.mem
  unfold delItem
  try with_reducible refine wpAny_holding ?_
  refine wpAny_bind (wpAny_sequenceKey hD.typeIs (by decide) ?_)
  refine wpAny_bind (wpAny_callSpecial?_slot (name := Str.ofString "__delitem__") hD.typeIs PySem.F.slot_dict_delitem
    (call_meetsIn PySem.F.slot_dict_delitem hD.typeIs PySem.F.entry_dict_delitem (PySem.F.args_dict_delitem_2 _ _) (meets_dict_delitem_pairs knd d hk) ⟨kvs, hD, by rw [sizeLine_eq]; lia, hv, fun h' hmm hs => ?_⟩))
  have hd' := hmm
  obtain ⟨o, _, _, ho, _⟩ := hd'
  exact wpAny_pure (h _ (F.ch1 up (.same hs ho) hw ⟨hmm, F.dic1 up.mem⟩))
theorem in_dic {Q : Value → Shared → Prop} (F : Fm h₀ X s₀ env loc rs s) (hm : dicR knd d kvs ∈ rs) (hk : knd.is k key = true)
    (h : ∀ s', Fm h₀ X s₀ env loc rs s' → Q (.bool (valueAt kvs k).isSome) s') : wpAny (model prog w) A (compareOp .In key (.ref d)) Q E s :=
  wpAny_in_of hk (F.dic1 hm) (F.dic hm).mapOf (h _ (F.toks _))
theorem meth_dic {name : Str} {id : String} {pl : Sem Bool} {Q : Value × List Value → Shared → Prop} (F : Fm h₀ X s₀ env loc rs s) (hm : dicR knd d kvs ∈ rs) (slot : Slot "dict" name id) (hty : typeOf (.builtin id) = pure (.type "method_descriptor"))
    (h : Q (.builtin id, [.ref d]) s) : wpAny (model prog w) A (getMethod (.ref d) name pl) Q E s :=
  getMethod_builtin (F.dic hm).typeIs PySem.F.plainAttrs_dict slot hty (F.dic hm).mapOf.noDict h
theorem get1_dic {Q : Value → Shared → Prop} (F : Fm h₀ X s₀ env loc rs s) (hm : dicR knd d kvs ∈ rs) (hk : knd.is k key = true)
    (h : ∀ s', Fm h₀ X s₀ env loc rs s' → Q ((valueAt kvs k).getD .none) s') : wpAny (model prog w) A (call (.builtin "dict.get") [.ref d, key]) Q E s :=
  call_meetsIn PySem.F.slot_dict_get (F.dic hm).typeIs PySem.F.entry_dict_get (PySem.F.args_dict_get_2 _ _) (meets_dict_get knd d hk (F.dic1 hm)) ⟨_, (F.dic hm).mapOf, h _ (F.toks _)⟩
theorem get2_dic {dflt : Value} {Q : Value → Shared → Prop} (F : Fm h₀ X s₀ env loc rs s) (hm : dicR knd d kvs ∈ rs) (hk : knd.is k key = true)
    (h : ∀ s', Fm h₀ X s₀ env loc rs s' → Q ((valueAt kvs k).getD dflt) s') : wpAny (model prog w) A (call (.builtin "dict.get") [.ref d, key, dflt]) Q E s :=
  call_meetsIn PySem.F.slot_dict_get (F.dic hm).typeIs PySem.F.entry_dict_get (PySem.F.args_dict_get_3 _ _ _) (meets_dict_get_default knd d hk (F.dic1 hm) dflt) ⟨_, (F.dic hm).mapOf, h _ (F.toks _)⟩

/-! walking a dict's keys, its values -/
noncomputable def kiR (I d : Addr) (i n ep : Nat) : Rg := ⟨(· = I), fun h => h.IsKeyIter I d i n ep, fun _ _ k x => x.at fun o e => k I o rfl e⟩
noncomputable def viR (I d : Addr) (i n ep : Nat) : Rg := ⟨(· = I), fun h => h.IsValIter I d i n ep, fun _ _ k x => x.at fun o e => k I o rfl e⟩
noncomputable def vvR (a d : Addr) : Rg := ⟨(· = a), fun h => h.IsValuesView a d, fun _ _ k ⟨o, ho, r⟩ => ⟨o, k a o rfl ho, r⟩⟩
/-- a dict at an epoch -/
noncomputable def dipR (knd : KeyKind prog w K) (a : Addr) (kvs : List (K × Value)) (ep : Nat) : Rg :=
  ⟨(· = a), fun h => h.DictAt knd a kvs ep ∧ (a == sysModules) = false, fun _ _ k ⟨x, z⟩ => ⟨x.at' fun o e => k a o rfl e, z⟩⟩

/-- a region said anew: the heap as it is -/
theorem Fm.reR {r r' : Rg} (F : Fm h₀ X s₀ env loc rs s) (u : UpdR r r' rs rs') (hf : r'.foot = r.foot) (hh : r.holds s.heap → r'.holds s.heap) : Fm h₀ X s₀ env loc rs' s := by
  have sub : ∀ q ∈ rs', ∃ q0 ∈ rs, q.foot = q0.foot := fun q hq => (u.mem' q hq).elim (fun e => ⟨r, u.mem, e ▸ hf⟩) fun e => ⟨q, e, rfl⟩
  refine ⟨F.mod, F.base, F.fk, F.cnd, F.lnd, F.ns, F.lw, F.vd, fun q hq => (u.mem' q hq).elim (fun e => e ▸ hh (F.rg r u.mem)) (F.rg q), fun q hq a f => ?_, ?_, F.cc⟩
  · obtain ⟨q0, h0, e⟩ := sub q hq
    exact F.rd q0 h0 a (e ▸ f)
  · have key : ∀ {l l' : List Rg}, UpdR r r' l l' → (l.Pairwise fun r q => ∀ a, r.foot a → ¬ q.foot a) → l'.Pairwise fun r q => ∀ a, r.foot a → ¬ q.foot a := by
      intro l l' u
      induction u with
      | hit => intro hp; rw [List.pairwise_cons] at hp ⊢; exact ⟨fun q hq a f => hp.1 q hq a (hf ▸ f), hp.2⟩
      | @skip q0 l l' u ih =>
        intro hp
        rw [List.pairwise_cons] at hp ⊢
        refine ⟨fun q hq a f => ?_, ih hp.2⟩
        rcases u.mem' q hq with rfl | hq
        · rw [hf]; exact hp.1 r u.mem a f
        · exact hp.1 q hq a f
    exact key u F.rp
theorem Fm.dicAt (F : Fm h₀ X s₀ env loc rs s) (hm : dicR knd d kvs ∈ rs) : ∃ ep, ∀ rs', UpdR (dicR knd d kvs) (dipR knd d kvs ep) rs rs' → Fm h₀ X s₀ env loc rs' s := by
  obtain ⟨ep, x⟩ := (F.dic hm).dictAt
  exact ⟨ep, fun rs' u => F.reR u rfl fun z => ⟨x, z.2⟩⟩
theorem sub_dip {value slice : Expr} {ep : Nat} {Q : Value → Shared → Prop} (F : Fm h₀ X s₀ env loc rs s) (hm : dipR knd d kvs ep ∈ rs) (hk : knd.is k key = true) (hv : valueAt kvs k = some v)
    (h : ∀ s', Fm h₀ X s₀ env loc rs s' → Q v s')
    (hs : subscripted slice false (.ref d) key = operate [.ref d, key] (getItem (.ref d) key)) (hg : ∀ r, PySem.letTemporaryGo value (.ref d) r = pure () := by intro _; with_unfolding_all rfl) :
    wpAny (model prog w) A (PyProof.Rows.subscriptTail value slice (.ref d) key) Q E s :=
  PyProof.Rows.subscriptTail_builtin (F.rg _ hm).1.dictOf.typeIs slot_dict_getitem.lookup (wpAny_getItem_of hk (F.rg _ hm).1.dictOf.mapOf hv (h _ (F.toks _))) hs hg
section
variable {I : Addr} {i ep : Nat} {Q : Option Value → Shared → Prop}
theorem it_dip {Q : Value → Shared → Prop} (F : Fm h₀ X s₀ env loc rs s) (hm : dipR knd d kvs ep ∈ rs)
    (h : ∀ I s', s₀.heap.get? I = none → I ≠ d → Fm h₀ X s₀ env loc (kiR I d 0 kvs.length ep :: rs) s' → Q (.ref I) s') : wpAny (model prog w) A (pyIter (.ref d)) Q E s := by
  obtain ⟨x, z⟩ := F.rg _ hm
  refine wpAny_pyIter_dict z x (h _ _ (F.mod.none_of (get?_size _)) (fun e => ?_) (F.alloc s.toks rfl (fun a e => e) ⟨_, Heap.get?_push_size _ rfl, rfl, rfl⟩))
  have := x.lt_size
  rw [← e] at this
  exact absurd this (Nat.lt_irrefl _)
theorem nx_dip (hh : A.handled = none) (F : Fm h₀ X s₀ env loc rs s) (hm : dipR knd d kvs ep ∈ rs) (hne : I ≠ d) (hi : i < kvs.length) (u : UpdR (kiR I d i kvs.length ep) (kiR I d (i + 1) kvs.length ep) rs rs') (hn : s₀.heap.get? I = none)
    (h : ∀ v k x s', kvs[i]? = some (k, x) → knd.is k v = true → Fm h₀ X s₀ env loc rs' s' → Q (some v) s') : wpAny (model prog w) A (pyNext (.ref I)) Q E s :=
  nx_item F (Walks.dictKeys (knd := knd) hh I d hne.symm kvs ep) ⟨F.rg _ u.mem, (F.rg _ hm).1⟩ hi u rfl rfl (.inr hn) (fun h' x => ⟨x.1, let ⟨o, e, _⟩ := x.1; ⟨o, e⟩⟩) fun v s' e F' => let ⟨k, x, e1, e2⟩ := e; h v k x s' e1 e2 F'
theorem nd_dip (hh : A.handled = none) (F : Fm h₀ X s₀ env loc rs s) (hm : dipR knd d kvs ep ∈ rs) (hne : I ≠ d) (u : RemR (kiR I d kvs.length kvs.length ep) rs rs') (hn : s₀.heap.get? I = none)
    (h : ∀ s', Fm h₀ X s₀ env loc rs' s' → Q none s') : wpAny (model prog w) A (pyNext (.ref I)) Q E s :=
  nx_done F (Walks.dictKeys (knd := knd) hh I d hne.symm kvs ep) ⟨F.rg _ u.mem, (F.rg _ hm).1⟩ u rfl hn h
theorem call_values {Q : Value → Shared → Prop} (F : Fm h₀ X s₀ env loc rs s) (hm : dicR knd d kvs ∈ rs)
    (h : ∀ a s', s₀.heap.get? a = none → Fm h₀ X s₀ env loc (vvR a d :: rs) s' → Q (.ref a) s') : wpAny (model prog w) A (call (.builtin "dict.values") [.ref d]) Q E s :=
  call_meetsIn PySem.F.slot_dict_values (F.dic hm).typeIs PySem.F.entry_dict_values (PySem.F.args_dict_values_1 _) (meets_dict_values knd d (F.dic1 hm))
    ⟨⟨_, F.dic hm⟩, h _ _ (F.mod.none_of (get?_size _)) (F.alloc s.toks rfl (fun a e => e) ⟨_, Heap.get?_push_size _ rfl, rfl, rfl⟩)⟩
theorem it_vv {a : Addr} {Q : Value → Shared → Prop} (F : Fm h₀ X s₀ env loc rs s) (hv : vvR a d ∈ rs) (hm : dipR knd d kvs ep ∈ rs)
    (h : ∀ I s', s₀.heap.get? I = none → I ≠ d → Fm h₀ X s₀ env loc (viR I d 0 kvs.length ep :: rs) s' → Q (.ref I) s') : wpAny (model prog w) A (pyIter (.ref a)) Q E s := by
  obtain ⟨x, z⟩ := F.rg _ hm
  refine wpAny_pyIter_values (F.rg _ hv) x (h _ _ (F.mod.none_of (get?_size _)) (fun e => ?_) (F.alloc s.toks rfl (fun a e => e) ⟨_, Heap.get?_push_size _ rfl, rfl, rfl⟩))
  have := x.lt_size
  rw [← e] at this
  exact absurd this (Nat.lt_irrefl _)
theorem nx_vv (hh : A.handled = none) (F : Fm h₀ X s₀ env loc rs s) (hm : dipR knd d kvs ep ∈ rs) (hne : I ≠ d) (hi : i < kvs.length) (u : UpdR (viR I d i kvs.length ep) (viR I d (i + 1) kvs.length ep) rs rs') (hn : s₀.heap.get? I = none)
    (h : ∀ v k s', kvs[i]? = some (k, v) → Fm h₀ X s₀ env loc rs' s' → Q (some v) s') : wpAny (model prog w) A (pyNext (.ref I)) Q E s :=
  nx_item F (Walks.dictValues (knd := knd) hh I d hne.symm kvs ep) ⟨F.rg _ u.mem, (F.rg _ hm).1⟩ hi u rfl rfl (.inr hn) (fun h' x => ⟨x.1, let ⟨o, e, _⟩ := x.1; ⟨o, e⟩⟩) fun v s' e F' => let ⟨k, e1⟩ := e; h v k s' e1 F'
theorem nd_vv (hh : A.handled = none) (F : Fm h₀ X s₀ env loc rs s) (hm : dipR knd d kvs ep ∈ rs) (hne : I ≠ d) (u : RemR (viR I d kvs.length kvs.length ep) rs rs') (hn : s₀.heap.get? I = none)
    (h : ∀ s', Fm h₀ X s₀ env loc rs' s' → Q none s') : wpAny (model prog w) A (pyNext (.ref I)) Q E s :=
  nx_done F (Walks.dictValues (knd := knd) hh I d hne.symm kvs ep) ⟨F.rg _ u.mem, (F.rg _ hm).1⟩ u rfl hn h
end
end

/-! strs -/
section
variable {prog : Program} {w : World} {A : Around} {E : Value → Shared → Prop} {h₀ : Heap} {X : Addr → Prop} {s₀ s : Shared} {env : Env} {loc : List (Str × Value)} {rs rs' : List Rg} {x y : Str} {t u : Tok}
theorem op_eqS {Q : Value → Shared → Prop} (h : Q (.bool (x == y)) s) : wpAny (model prog w) A (compareOp .Eq (.str x t) (.str y u)) Q E s := PyProof.Rows.eq_str h
theorem op_addS {Q : Value → Shared → Prop} (F : Fm h₀ X s₀ env loc rs s) (hz : x.length + y.length ≤ 2 ^ 20) (h : ∀ t' s', Fm h₀ X s₀ env loc rs s' → Q (.str (x ++ y) t') s') : wpAny (model prog w) A (binaryOp .Add (.str x t) (.str y u)) Q E s :=
  PyProof.Rows.add_str (fun t' k => h t' _ (F.toks k)) (by rw [sizeLine_eq]; lia)
theorem op_iaddS {Q : Value → Shared → Prop} (F : Fm h₀ X s₀ env loc rs s) (hz : x.length + y.length ≤ 2 ^ 20) (h : ∀ t' s', Fm h₀ X s₀ env loc rs s' → Q (.str (x ++ y) t') s') : wpAny (model prog w) A (inplaceOp .Add (.str x t) (.str y u)) Q E s :=
  PyProof.Rows.iadd_str (fun t' k => h t' _ (F.toks k)) (by rw [sizeLine_eq]; lia)
theorem it_str {Q : Value → Shared → Prop} (ha : x.cps.all (· < 128) = true) (F : Fm h₀ X s₀ env loc rs s) (h : ∀ I s', s₀.heap.get? I = none → Fm h₀ X s₀ env loc (siR I x t 0 :: rs) s' → Q (.ref I) s') :
    wpAny (model prog w) A (pyIter (.str x t)) Q E s :=
  wpAny_pyIter_ascii ha (h _ _ (F.mod.none_of (get?_size _)) (F.alloc s.toks rfl (fun a e => e) ⟨_, Heap.get?_push_size _ rfl, rfl, rfl⟩))
theorem nx_str {I : Addr} {i : Nat} {Q : Option Value → Shared → Prop} (hh : A.handled = none) (F : Fm h₀ X s₀ env loc rs s) (hi : i < x.cps.size) (up : UpdR (siR I x t i) (siR I x t (i + 1)) rs rs') (hn : s₀.heap.get? I = none)
    (h : ∀ c t' s', x.cps[i]? = some c → Fm h₀ X s₀ env loc rs' s' → Q (some (.str ⟨#[c]⟩ t')) s') : wpAny (model prog w) A (pyNext (.ref I)) Q E s :=
  nx_item F (Walks.strAscii hh I x t) (F.rg _ up.mem) hi up rfl rfl (.inr hn) (fun h' y => ⟨y, let ⟨o, e, _⟩ := y; ⟨o, e⟩⟩) fun v s' e F' => let ⟨c, u', e1, e2⟩ := e; e2 ▸ h c u' s' e1 F'
theorem nd_str {I : Addr} {Q : Option Value → Shared → Prop} (hh : A.handled = none) (F : Fm h₀ X s₀ env loc rs s) (up : RemR (siR I x t x.cps.size) rs rs') (hn : s₀.heap.get? I = none)
    (h : ∀ s', Fm h₀ X s₀ env loc rs' s' → Q none s') : wpAny (model prog w) A (pyNext (.ref I)) Q E s :=
  nx_done F (Walks.strAscii hh I x t) (F.rg _ up.mem) up rfl hn h
/-- x[i:j] -/
theorem slc_str {value slice : Expr} {a : Addr} {i j : Int} {ti tj : Tok} {ops : List Value} {Q : Value → Shared → Prop} (F : Fm h₀ X s₀ env loc rs s) (hm : slcR a (.int i ti) (.int j tj) .none ∈ rs) (hz : x.length ≤ 2 ^ 20)
    (h : ∀ t' s', Fm h₀ X s₀ env loc rs s' → Q (.str (Txt.slice x (some i) (some j)) t') s')
    (hs : subscripted slice false (.str x t) (.ref a) = operate ops (getItem (.str x t) (.ref a)) := by with_unfolding_all rfl) :
    wpAny (model prog w) A (PyProof.Rows.subscriptTail value slice (.str x t) (.ref a)) Q E s := by
  refine PyProof.Rows.tail_any (typeIs_str _ _ _) PySem.F.slot_str_getitem.lookup (wpAny_getItem_str_slice (l := some (i, ti)) (u := some (j, tj)) (st := none) (F.rg _ hm) rfl
    (post_val_or_str ⟨Nat.le_trans (Txt.slice_le x _ _) (by rw [sizeLine_eq]; lia), fun t' k => h t' _ (F.toks k)⟩)) hs
theorem x_augSub {M : Model} {o i : Expr} {pos' : Pos} {op : Operator} {value : Expr} {pos : Pos} {rest : List Stmt} {Q : Flow → Shared → Prop}
    (h : wpAny M A (eval o env) (fun ov s₁ => wpAny M A (eval i env) (fun iv s₂ => wpAny M A (getItem ov iv) (fun old s₃ =>
          wpAny M A (eval value env) (fun v s₄ => wpAny M A (inplaceOp op old v) (fun new s₅ =>
            wpAny M A (setItem ov iv new) (fun _ s₆ => wpAny M A (execs rest env) Q E s₆) E s₅) E s₄) E s₃) E s₂) E s₁) E s)
    (hi : ∀ ov iv new, augStore i ov iv new = (do holding [new, ov, iv] (setItem ov iv new); release [new, ov, iv] []; pure .next) := by intros; with_unfolding_all rfl) :
    wpAny M A (execs (.AugAssign (.Subscript o i pos') op value pos :: rest) env) Q E s := wpAny_execs_cons (wpAny_AugAssign_SubscriptAny h hi)
theorem get_list {l : Addr} {xs : List Value} {k : Int} {u : Tok} {v : Value} {Q : Value → Shared → Prop} (F : Fm h₀ X s₀ env loc rs s) (hm : listR l xs ∈ rs) (h0 : 0 ≤ k) (hk : k < 2 ^ 63) (hx : xs[k.toNat]? = some v) (h : Q v s) :
    wpAny (model prog w) A (getItem (.ref l) (.int k u)) Q E s := wpAny_getItem_list (F.list hm) h0 hk (by simpa using hx) h
end
end

section -- N1
open PySem PySem.W
set_option linter.unusedVariables false

/-! words: plain lists of signs -/
noncomputable def mkS (l : List Nat) : Str := ⟨l.toArray⟩
theorem mkS_app (a b : List Nat) : mkS a ++ mkS b = mkS (a ++ b) := by
  show Str.append _ _ = _
  simp [Str.append, mkS]
theorem mkS_inj {a b : List Nat} (h : mkS a = mkS b) : a = b := by
  have := congrArg (fun x : Str => x.cps.toList) h
  simpa [mkS] using this
theorem mkS_len (l : List Nat) : (mkS l).length = l.length := by simp [mkS, Str.length]
noncomputable def bal : List Nat → Int
  | [] => 0
  | c :: r => (if c = 49 then 1 else -1) + bal r
theorem bal_app : ∀ a b : List Nat, bal (a ++ b) = bal a + bal b
  | [], b => by simp [bal]
  | c :: r, b => by simp only [List.cons_append, bal, bal_app r b]; lia
/-- a word that is whole only at its end -/
structure Prim (u : List Nat) : Prop where
  ne : u ≠ []
  tot : bal u = 0
  pos : ∀ v r, u = v ++ r → v ≠ [] → r ≠ [] → 0 < bal v
  asc : ∀ c ∈ u, c < 128

/-- digits grown so far that p has a place, and p told once more -/
noncomputable def grow (ds : List Nat) (p : Nat) : List Nat := ds ++ List.replicate (p + 1 - ds.length) 0
noncomputable def bump (ds : List Nat) (p : Nat) : List Nat := (grow ds p).modify p (· + 1)
theorem grow_len (ds : List Nat) (p : Nat) : p < (grow ds p).length := by simp [grow]; lia
theorem bump_len (ds : List Nat) (p m : Nat) (h : ds.length ≤ m) (hp : p < m) : (bump ds p).length ≤ m := by simp [bump, grow]; lia

/-- where the reader of a word stands -/
inductive Rd (W : Nat → List Nat) (ps : List Nat) : List Nat → List Nat → List Nat → Prop
  | fresh {ds rest : List Nat} : ps = ds ++ rest → Rd W ps ds [] (rest.flatMap W)
  | within {ds rest piece r : List Nat} {p : Nat} : ps = ds ++ p :: rest → W p = piece ++ r → piece ≠ [] → r ≠ [] → Rd W ps ds piece (r ++ rest.flatMap W)

theorem Rd.step {W : Nat → List Nat} {ps ds piece todo : List Nat} {c : Nat} (hW : ∀ p ∈ ps, Prim (W p)) (h : Rd W ps ds piece (c :: todo)) :
    ∃ p ∈ ps, (∃ rest r, ps = ds ++ p :: rest ∧ W p = piece ++ c :: r ∧ todo = r ++ rest.flatMap W) ∧
      ((bal (piece ++ [c]) = 0 ∧ W p = piece ++ [c] ∧ Rd W ps (ds ++ [p]) [] todo) ∨ (0 < bal (piece ++ [c]) ∧ Rd W ps ds (piece ++ [c]) todo)) := by
  have key : ∃ p rest r, ps = ds ++ p :: rest ∧ W p = piece ++ c :: r ∧ todo = r ++ rest.flatMap W := by
    generalize e : c :: todo = L at h
    cases h with
    | fresh hps =>
      rename_i rest
      cases rest with
      | nil => simp at e
      | cons p rest =>
        rw [List.flatMap_cons] at e
        have hp := (hW p (by rw [hps]; simp)).ne
        cases hq : W p with
        | nil => exact absurd hq hp
        | cons a r =>
          rw [hq, List.cons_append] at e
          injection e with e1 e2
          exact ⟨p, rest, r, hps, by rw [hq, e1]; rfl, e2⟩
    | within hps hw hp hr =>
      rename_i rest r p
      cases r with
      | nil => exact absurd rfl hr
      | cons a r =>
        rw [List.cons_append] at e
        injection e with e1 e2
        exact ⟨p, rest, r, hps, by rw [hw, e1], e2⟩
  obtain ⟨p, rest, r, h1, h2, h3⟩ := key
  have hm : p ∈ ps := by rw [h1]; simp
  refine ⟨p, hm, ⟨rest, r, h1, h2, h3⟩, ?_⟩
  have P := hW p hm
  have e2 : W p = (piece ++ [c]) ++ r := by rw [h2]; simp
  cases r with
  | nil =>
    refine .inl ⟨?_, by simpa using e2, ?_⟩
    · have := P.tot; rw [e2, List.append_nil] at this; exact this
    · rw [h3, List.nil_append]; exact .fresh (by rw [h1]; simp)
  | cons a r =>
    refine .inr ⟨P.pos _ _ e2 (by simp) (by simp), ?_⟩
    rw [h3]; exact .within h1 e2 (by simp) (by simp)
theorem Rd.stop {W : Nat → List Nat} {ps ds piece : List Nat} (hW : ∀ p ∈ ps, Prim (W p)) (h : Rd W ps ds piece []) : ds = ps := by
  generalize e : ([] : List Nat) = L at h
  cases h with
  | fresh hps =>
    rename_i rest
    cases rest with
    | nil => simpa using hps.symm
    | cons p rest =>
      have hp := (hW p (by rw [hps]; simp)).ne
      rw [List.flatMap_cons] at e
      exact absurd (List.append_eq_nil_iff.mp e.symm).1 hp
  | within _ _ _ hr => exact absurd (List.append_eq_nil_iff.mp e.symm).1 hr

theorem fmap_congr {α β : Type} {f g : α → Option β} : ∀ {l : List α}, (∀ x ∈ l, f x = g x) → l.filterMap f = l.filterMap g
  | [], _ => rfl
  | x :: r, h => by rw [List.filterMap_cons, List.filterMap_cons, h x (.head _), fmap_congr fun y hy => h y (.tail _ hy)]
theorem slice_inner (L : List Nat) (a b : Nat) : Txt.slice (mkS (a :: L ++ [b])) (some 1) (some (-1)) = mkS L := by
  have hl : (mkS (a :: L ++ [b])).length = L.length + 2 := by rw [mkS_len]; simp
  have e1 : Builtin.Str.strSliceIndices (some 1) (some (-1)) 1 (L.length + 2) = (List.range L.length).map (· + 1) := by
    unfold Builtin.Str.strSliceIndices sliceRange
    simp only [show (1 : Int) > 0 by decide, if_true]
    have h1 : max 0 (min (if (1 : Int) < 0 then 1 + ((L.length + 2 : Nat) : Int) else 1) ((L.length + 2 : Nat) : Int)) = 1 := by
      rw [if_neg (by decide)]; lia
    have h2 : max 0 (min (if (-1 : Int) < 0 then -1 + ((L.length + 2 : Nat) : Int) else -1) ((L.length + 2 : Nat) : Int)) = L.length + 1 := by
      rw [if_pos (by decide)]; lia
    rw [h1, h2]
    have h3 : (if (1 : Int) < (L.length : Int) + 1 then ((L.length : Int) + 1 - 1 + 1 - 1) / 1 else 0).toNat = L.length := by
      split
      · simp
      · simp; lia
    rw [h3]
    refine List.map_congr_left fun k _ => ?_
    lia
  unfold Txt.slice
  rw [hl, e1]
  rw [if_neg (by simp)]
  unfold mkS
  congr 2
  have : ∀ k ∈ List.range L.length, (mkS (a :: L ++ [b])).cps[k + 1]? = L[k]? := by
    intro k hk
    have := List.mem_range.mp hk
    simp [mkS, this, List.getElem?_append_left this]
  rw [List.filterMap_map]
  have e2 : (List.range L.length).filterMap ((fun x => (mkS (a :: L ++ [b])).cps[x]?) ∘ (· + 1)) = (List.range L.length).filterMap (fun k => L[k]?) := by
    refine fmap_congr fun k hk => ?_
    exact this k hk
  rw [show (fun x => (⟨(a :: L ++ [b]).toArray⟩ : Str).cps[x]?) = (fun x => (mkS (a :: L ++ [b])).cps[x]?) from rfl, e2]
  have key : ∀ (l pre : List Nat), (List.range l.length).filterMap (fun k => (pre ++ l)[pre.length + k]?) = l := by
    intro l
    induction l with
    | nil => intro _; rfl
    | cons x r ih =>
      intro pre
      rw [List.length_cons, List.range_succ_eq_map, List.filterMap_cons]
      simp only [Nat.add_zero]
      have : (pre ++ x :: r)[pre.length]? = some x := by simp
      rw [this]
      simp only [List.filterMap_map]
      congr 1
      refine Eq.trans (fmap_congr fun k _ => ?_) (ih (pre ++ [x]))
      simp [Nat.add_comm, Nat.add_left_comm]
  simpa using key L []
end

section -- G4
open PySem PySem.W
open PyProof.Rows (IntsAre)
set_option Elab.async false
set_option maxRecDepth 100000
set_option linter.unusedVariables false
noncomputable section



/-! _law_digits -/
theorem ints_grow {vs : List Value} {ds : List Nat} (h : IntsAre vs (asI ds)) (t : Tok) : IntsAre (vs ++ [.int 0 t]) (asI (ds ++ [0])) := by
  have : asI (ds ++ [0]) = asI ds ++ [((0 : Nat) : Int)] := by simp [asI]
  rw [this]; exact ints_app h (.cons _ _ .nil)
theorem ints_at {vs : List Value} {ns : List Int} (h : IntsAre vs ns) : ∀ {i : Nat} {n : Int}, ns[i]? = some n → ∃ t, vs[i]? = some (.int n t) := by
  induction h with
  | nil => intro i n e; simp at e
  | cons n t _ ih =>
    intro i m e
    cases i with
    | zero => simp at e; subst e; exact ⟨t, rfl⟩
    | succ i => exact ih (by simpa using e)
theorem ints_set {vs : List Value} {ns : List Int} (h : IntsAre vs ns) {m : Int} {t : Tok} : ∀ {i : Nat}, IntsAre (vs.set i (.int m t)) (ns.set i m) := by
  induction h with
  | nil => intro i; exact .nil
  | cons n u h ih =>
    intro i
    cases i with
    | zero => exact .cons _ _ h
    | succ i => exact .cons _ _ ih
set_option maxHeartbeats 4000000
theorem ldigits_ok {prog : Program} {w : World} {P : Params} {h₀ : Heap} (B : Base P h₀) {A : Around} {E : Value → Shared → Prop} {s : Shared} {d : Addr} {kvs : List (Str × Value)} {W : Nat → List Nat} {ps : List Nat} {a b m : Nat} {t1 : Tok} {Q : Value → Shared → Prop}
    (room : A.depth < 900) (hh : A.handled = none) (H : Hands h₀ [dicR (strKind prog w) d kvs] s) (hW : ∀ p ∈ ps, Prim (W p)) (hv : ∀ p ∈ ps, ∃ t, valueAt kvs (mkS (W p)) = some (.int (p : Nat) t))
    (hz : (ps.flatMap W).length < 2 ^ 19) (hp : ∀ p ∈ ps, p < m) (hm : m < 2 ^ 10)
    (h : ∀ s' l vs, Md NoX s s' → s.heap.get? l = none → Hands h₀ [listR l vs] s' → IntsAre vs (asI (ps.foldl bump [])) → Q (.ref l) s') :
    wpAny (model prog w) A (call (.ref 218) [.str (mkS (a :: ps.flatMap W ++ [b])) t1, .ref d]) Q E s := by
  refine enter (X := NoX) H (fn_ldigits B) (Nat.lt_trans room (by decide)) (by decide +kernel) (by kernel_rfl) (binds := [("word", .str (mkS (a :: ps.flatMap W ++ [b])) t1), ("worths", .ref d)]) (by kernel_rfl) (names := ["word", "worths"]) rfl (by decide +kernel) ?_
  intro L s1 F
  have S := sc_ldigits B L
  refine x_assign ?_
  refine ev_list ?_
  kfm_turns
  refine nl_list (by assumption) (by simp) ?_; intro l s2 hl F2
  have wl : Wr NoX s l := .inr hl
  kfm_turns
  refine x_for ?_
  kfm_turns
  refine ev_slc ?_
  refine ep_some ?_
  kfm_turns
  refine ep_some ?_
  kfm_turns
  refine ep_none ?_
  refine nl_slc (by assumption) ?_; intro a0 s3 ha0 F3
  refine slc_str F3 (by kqd_in) (by rw [mkS_len, List.length_append, List.length_cons, List.length_singleton]; lia) ?_; intro t3 s4 F4
  rw [slice_inner]
  have e0 : (Str.ofString "" : Str) = mkS [] := by decide +kernel
  rw [e0] at F4
  have hasc : (mkS (ps.flatMap W)).cps.all (· < 128) = true := by
    rw [← Array.all_toList, List.all_eq_true]
    intro c hc
    obtain ⟨p, hp, hc⟩ := List.mem_flatMap.mp (show c ∈ ps.flatMap W by simpa [mkS] using hc)
    exact decide_eq_true ((hW p hp).asc c hc)
  refine it_str hasc F4 ?_; intro I s5 hI F5
  refine ⟨fun k s' => E6 fun (ds piece todo : List Nat) (vs : List Value) (t4 t5 : Tok) => k = todo.length ∧ Rd W ps ds piece todo ∧ ps.flatMap W = ds.flatMap W ++ piece ++ todo ∧ IntsAre vs (asI (ds.foldl bump [])) ∧ (ds.foldl bump []).length ≤ m ∧ (piece = [] → bal piece = 0) ∧
      Fm h₀ NoX s (fenv (fnOf 218) 218 L) [("word", .str (mkS (a :: ps.flatMap W ++ [b])) t1), ("worths", .ref d), ("digits", .ref l), ("depth", .int (bal piece) t4), ("piece", .str (mkS piece) t5)] [siR I (mkS (ps.flatMap W)) t3 (ds.flatMap W ++ piece).length, listR l vs, dicR (strKind prog w) d kvs] s', (ps.flatMap W).length,
      ⟨[], [], ps.flatMap W, [], _, _, rfl, .fresh rfl, by simp, .nil, Nat.zero_le _, fun _ => rfl, by have := F5.sub (rs' := [siR I (mkS (ps.flatMap W)) t3 0, listR l [], dicR (strKind prog w) d kvs]) (by k_subL); exact this⟩, ?_⟩
  intro k s6
  (repeat (first | (with_reducible refine WithL.in fun _ _ _ _ => ?_) | (with_reducible refine WithE.in fun _ _ _ => ?_)))
  rintro ⟨ds, piece, todo, vs, t4, t5, hk, hrd, hfl, hvs, hml, hb0, F6⟩
  have hsz : (mkS (ps.flatMap W)).cps.size = (ps.flatMap W).length := by simp [mkS]
  have hlen := congrArg List.length hfl
  rw [List.length_append] at hlen
  cases todo with
  | nil =>
    rw [List.length_nil, Nat.add_zero] at hlen
    rw [← hlen, ← hsz] at F6
    refine nd_str (by exact hh) F6 .hit hI ?_; intro s7 F7
    kfm_turns
    have : ds = ps := hrd.stop hW
    exact h _ l vs F7.mod hl (F7.hands (by k_subL)) (this ▸ hvs)
  | cons c todo =>
    rw [List.length_cons] at hlen hk
    refine nx_str (by exact hh) F6 (by lia) .hit hI ?_; intro c' t7 s7 hc F7
    have ec : c' = c := by
      have e1 : (mkS (ps.flatMap W)).cps[(ds.flatMap W ++ piece).length]? = some c := by
        rw [hfl]; simp [mkS]
      rw [e1] at hc; exact (Option.some.inj hc).symm
    subst ec
    obtain ⟨p, hpm, ⟨rest, r, hps, hwp, htd⟩, hbr⟩ := hrd.step hW
    kfm_turns
    have hpl : piece.length ≤ (ps.flatMap W).length := by rw [hlen]; simp; lia
    refine op_iaddS (by assumption) (by rw [mkS_len]; show piece.length + 1 ≤ _; lia) ?_; intro t8 s8 F8
    rw [show mkS piece ++ (⟨#[c']⟩ : Str) = mkS (piece ++ [c']) from mkS_app piece [c']]
    kfm_turns
    rename_i F9
    refine wpAny_mono (Q := fun v s' => ∃ t, v = .int (if c' = 49 then 1 else -1) t ∧ Fm h₀ NoX s (fenv (fnOf 218) 218 L) [("word", .str (mkS (a :: ps.flatMap W ++ [b])) t1), ("worths", .ref d), ("digits", .ref l), ("depth", .int (bal piece) t4), ("piece", .str (mkS (piece ++ [c'])) t8), ("sign", .str (mkS [c']) t7)]
        [siR I (mkS (ps.flatMap W)) t3 ((ds.flatMap W ++ piece).length + 1), listR l vs, dicR (strKind prog w) d kvs] s') ?_ ?_ fun _ _ x => x
    · refine PyProof.Rows.IfExp_ ?_
      kfm_turns
      refine op_eqS ?_
      kfm_turns
      refine if_bool (fun e => ?_) (fun e => ?_)
      · have : c' = 49 := by
          have e1 : (mkS [c']) = mkS [49] := (eq_of_beq e).trans (by decide +kernel)
          simpa using mkS_inj e1
        rw [if_pos this]
        kfm_turns
        exact ⟨_, rfl, by assumption⟩
      · have : c' ≠ 49 := fun q => by
          subst q
          exact absurd e (by decide +kernel)
        rw [if_neg this]
        kfm_turns
        exact ⟨_, rfl, by assumption⟩
    clear F9
    rintro v s10 ⟨t10, rfl, F10⟩
    kfm_turns
    have eb : bal piece + (if c' = 49 then 1 else -1) = bal (piece ++ [c']) := by rw [bal_app]; simp [bal]
    rename_i F11
    rw [eb] at F11
    clear F10
    refine x_if ?_
    kfm_turns
    have hbal : bal (piece ++ [c']) = 0 ∨ 0 < bal (piece ++ [c']) := hbr.imp (fun x => x.1) fun x => x.1
    refine if_bool (fun e => ?_) (fun e => ?_)
    · have e1 : bal (piece ++ [c']) = 0 := eq_of_beq e
      have hbr' := hbr.resolve_right fun x => by lia
      obtain ⟨-, hwp2, hrd2⟩ := hbr'
      clear hbr hbal
      obtain ⟨tp, hvp⟩ := hv p hpm
      rw [hwp2] at hvp
      have hpm2 := hp p hpm
      have hgm : (grow (ds.foldl bump []) p).length ≤ m := by simp [grow]; lia
      kfm_turns
      refine x_while (fun j s' => E2 fun (gs : List Nat) (us : List Value) => j = p + 1 - gs.length ∧ grow gs p = grow (ds.foldl bump []) p ∧ gs.length ≤ m ∧ IntsAre us (asI gs) ∧
        Fm h₀ NoX s (fenv (fnOf 218) 218 L) [("word", .str (mkS (a :: ps.flatMap W ++ [b])) t1), ("worths", .ref d), ("digits", .ref l), ("depth", .int (bal (piece ++ [c'])) _), ("piece", .str (mkS (piece ++ [c'])) t8), ("sign", .str (mkS [c']) t7)]
          [siR I (mkS (ps.flatMap W)) t3 ((ds.flatMap W ++ piece).length + 1), listR l us, dicR (strKind prog w) d kvs] s') (p + 1 - (ds.foldl bump []).length) ⟨_, vs, rfl, rfl, hml, hvs, by assumption⟩ ?_
      intro j s12
      (repeat (first | (with_reducible refine WithL.in fun _ _ _ _ => ?_) | (with_reducible refine WithE.in fun _ _ _ => ?_)))
      rintro ⟨gs, us, hj, hg, hgl, hus, F12⟩
      have hul := hus.length
      rw [asI_len] at hul
      kfm_turns
      refine op_len (by assumption) (by kqd_in) (by lia) ?_; intro _ _ _
      kfm_turns
      refine sub_dic (by assumption) (by kqd_in) (strKind_is _ _ _ _) hvp ?_ (by with_unfolding_all rfl); intro _ _
      kfm_turns
      refine if_dec (fun e => ?_) (fun e => ?_)
      · refine x_expr ?_
        refine ev_meth (pl := _) ?_
        kfm_turns
        refine meth_list (by assumption) (by kqd_in) PySem.F.slot_list_append PySem.F.type_list_append ?_
        kfm_turns
        refine app_list (by assumption) (by kd_subs) wl (by lia) ?_; intro s13 F13
        kfm_turns
        refine ⟨p + 1 - (gs ++ [0]).length, by simp; lia, gs ++ [0], _, rfl, ?_, by simp; lia, ints_grow hus _, F13⟩
        rw [← hg]
        unfold grow
        rw [List.append_assoc]
        congr 1
        rw [List.length_append, List.length_singleton, show p + 1 - gs.length = (p + 1 - (gs.length + 1)) + 1 by lia, List.replicate_succ]
        rfl
      · have egs : gs = grow (ds.foldl bump []) p := by
          rw [← hg]; unfold grow
          rw [show p + 1 - gs.length = 0 by lia]; simp
        kfm_turns
        refine x_augSub ?_
        kfm_turns
        refine sub_dic (by assumption) (by kqd_in) (strKind_is _ _ _ _) hvp ?_ (by with_unfolding_all rfl); intro _ _
        have hpg : p < gs.length := by lia
        have e2' : (((ds ++ [p]).flatMap W) ++ []).length = (ds.flatMap W ++ piece).length + 1 := by
          rw [List.append_nil, List.flatMap_append, List.flatMap_singleton, hwp2]; simp; lia
        obtain ⟨tu, hu⟩ := ints_at hus (i := p) (n := ((gs[p] : Nat) : Int)) (by simp [asI, hpg])
        refine get_list (by assumption) (by kqd_in) (by lia) (by lia) (by rw [Int.toNat_natCast]; exact hu) ?_
        kfm_turns
        refine set_list (by assumption) (by kd_subs) wl (by lia) (by lia) (by lia) ?_; intro s14 F14
        kfm_turns
        rename_i F15
        rw [Int.toNat_natCast, e0, e1.trans (show (0 : Int) = bal [] from rfl)] at F15
        have hds' : (ds ++ [p]).foldl bump [] = gs.modify p (· + 1) := by rw [List.foldl_append, egs]; rfl
        refine ⟨todo.length, by lia, ds ++ [p], [], todo, us.set p (.int (gs[p] + 1) _), _, _, rfl, hrd2, ?_, ?_, ?_, fun _ => rfl, by rw [e2']; exact Fm.locsub F15 (by k_subL)⟩
        · rw [hfl, List.flatMap_append, List.flatMap_singleton, hwp2]; simp
        · rw [hds']
          have : asI (gs.modify p (· + 1)) = (asI gs).set p ((gs[p] : Int) + 1) := by
            apply List.ext_getElem?
            intro i
            rw [asI, List.getElem?_map, List.getElem?_modify, List.getElem?_set]
            by_cases hi : p = i
            · subst hi; simp [hpg]
            · simp [asI, hi]
          rw [this]; exact ints_set hus
        · rw [hds', List.length_modify]; exact hgl
    · have e1 : bal (piece ++ [c']) ≠ 0 := fun q => by rw [q] at e; exact absurd e (by decide)
      have hbr' := hbr.resolve_left fun x => e1 x.1
      have e2 : (ds.flatMap W ++ (piece ++ [c'])).length = (ds.flatMap W ++ piece).length + 1 := by simp; lia
      kfm_turns
      refine ⟨todo.length, by lia, ds, piece ++ [c'], todo, vs, _, _, rfl, hbr'.2, by rw [hfl]; simp, hvs, hml, (fun q => by simp at q), by rw [e2]; exact Fm.locsub (by assumption) (by k_subL)⟩
end
end

section -- O1
open PySem PySem.W PyProof.Rows
set_option Elab.async false
set_option maxRecDepth 100000
set_option linter.unusedVariables false
noncomputable section

/-! objects of own classes -/
theorem allN_split {h : Heap} {L x : Addr} {o : Obj} (hx : h.get? x = some o) (hne : x ≠ L) : ∃ pre post, allN h L = pre ++ (x, o) :: post ∧ (∀ p ∈ pre, p.1 ≠ x) ∧ ∀ p ∈ post, p.1 ≠ x := by
  obtain ⟨pre, post, e⟩ := List.append_of_mem (allN_mem.mpr ⟨hx, hne⟩)
  have nd : ((allN h L).map (·.1)).Nodup := by
    unfold allN
    have : (List.range h.objs.size).Nodup := List.nodup_range
    generalize List.range h.objs.size = r at this
    induction r with
    | nil => exact List.nodup_nil
    | cons a r ih =>
      rw [List.nodup_cons] at this
      rw [List.filterMap_cons]
      have sub : ∀ p ∈ List.filterMap (fun a => if a = L then none else (h.get? a).map fun o => (a, o)) r, p.1 ∈ r := by
        intro p hp
        obtain ⟨b, hb, e⟩ := List.mem_filterMap.mp hp
        split at e
        · cases e
        · obtain ⟨o', _, e2⟩ := Option.map_eq_some_iff.mp e
          cases e2; exact hb
      split
      · exact ih this.2
      · rename_i q hq
        have : q.1 = a := by
          split at hq
          · cases hq
          · obtain ⟨o', _, e2⟩ := Option.map_eq_some_iff.mp hq
            cases e2; rfl
        rw [List.map_cons, List.nodup_cons]
        refine ⟨fun hm => ?_, ih (by assumption : _ ∧ _).2⟩
        obtain ⟨p, hp, e⟩ := List.mem_map.mp hm
        have := sub p hp
        rw [e] at this
        simp_all
  rw [e, List.map_append, List.map_cons, List.nodup_append] at nd
  refine ⟨pre, post, e, fun p hp q => ?_, fun p hp q => ?_⟩
  · exact nd.2.2 p.1 (List.mem_map.mpr ⟨p, hp, rfl⟩) x (.head _) q
  · exact (List.nodup_cons.mp nd.2.1).1 (List.mem_map.mpr ⟨p, hp, q⟩)

section
variable {prog : Program} {w : World} {A : Around} {E : Value → Shared → Prop} {h₀ : Heap} {X : Addr → Prop} {s₀ s : Shared} {env : Env} {loc : List (Str × Value)} {rs rs' : List Rg}

/-- one object changed by a rule of the library over Fr and News -/
theorem Fm.backUpd {m : Str → Option Value} {h' : Heap} {t : Nat} {x : Addr} {o o' : Obj} {pre post : List (Addr × Obj)} {r r' : Rg} (F : Fm h₀ X s₀ env loc rs s) (hv : ∀ p ∈ loc, VarAt env s.heap m p.1 p.2)
    (e : allN s.heap env.locals = pre ++ (x, o) :: post) (F' : Fr H0 env.locals h' m) (N' : News H0 env.locals h' (pre ++ (x, o') :: post)) (u : UpdR r r' rs rs') (hf : r'.foot = r.foot) (hx : r.foot x) (hw : Wr X s₀ x)
    (hh : (∀ b o, b ≠ x → r.foot b → s.heap.get? b = some o → h'.get? b = some o) → h'.get? x = some o' → r'.holds h') : Fm h₀ X s₀ env loc rs' { s with heap := h', toks := t } := by
  have hxs : s.heap.get? x = some o ∧ x ≠ env.locals := allN_mem.mp (by rw [e]; simp)
  have vx : ¬ vf env x := (F.rd r u.mem x hx).2.2
  have ex : h'.get? x = some o' := (N' (x, o') (by simp)).1
  have k : ∀ b o, b ≠ env.locals → b ≠ x → s.heap.get? b = some o → h'.get? b = some o := fun b o1 hb hbx e1 => by
    have := allN_mem.mpr ⟨e1, hb⟩
    rw [e] at this
    rcases List.mem_append.mp this with h1 | h1
    · exact (N' (b, o1) (by simp [h1])).1
    · rcases List.mem_cons.mp h1 with h1 | h1
      · cases h1; exact absurd rfl hbx
      · exact (N' (b, o1) (by simp [h1])).1
  have nL : ∀ c, c ∈ env.cells.map (·.2) → c ≠ env.locals := fun c hc e => (List.nodup_cons.mp F.cnd).1 (e ▸ hc)
  obtain ⟨oL, _, _, eL, _⟩ := F'.ns
  have md : Md (fun a => a = env.locals ∨ a = x) s { s with heap := h', toks := t } := ⟨fun b o hb e => k b o (fun q => hb (.inl q)) (fun q => hb (.inr q)) e, fun b o e => if q : b = env.locals then ⟨oL, q ▸ eL⟩ else if q2 : b = x then ⟨o', q2 ▸ ex⟩ else ⟨o, k b o q q2 e⟩, rfl, rfl⟩
  have off := fun q (hq : q ∈ rs) (hne : ¬ q.foot x) a o (f : q.foot a) (e : s.heap.get? a = some o) => k a o (fun z => (F.rd q hq a f).2.2 (by rw [z]; exact .head _)) (fun z => hne (z ▸ f)) e
  refine ⟨F.mod.trans md fun b e => e.elim (fun e => .inr (e ▸ F.lw)) fun e => e ▸ hw, md.base F.base fun a e => e.elim (fun e => e ▸ (F.vd _ (.head _)).1) fun e => e ▸ (F.rd r u.mem x hx).1, F.fk, F.cnd, F.lnd, ⟨m, F'.ns, fun p hp => ?_⟩, F.lw, ?_, ?_, ?_, ?_, ?_⟩
  · cases hv p hp with
    | loc hk hd hm => exact .loc hk hd hm
    | cel c hk hd hc ho => exact .cel c hk hd hc (cell_keeps ho fun o e => k _ o (nL _ (List.mem_map.mpr ⟨(p.1, c), mem_of_lookup hc, rfl⟩)) (fun z => vx (z ▸ .tail _ (List.mem_map.mpr ⟨(p.1, c), mem_of_lookup hc, rfl⟩))) e)
  · intro a v; obtain ⟨h1, o, e⟩ := F.vd a v; exact ⟨h1, md.dom a o e⟩
  · have key : ∀ {l l' : List Rg}, UpdR r r' l l' → (l.Pairwise fun r q => ∀ a, r.foot a → ¬ q.foot a) → (∀ q ∈ l, q ∈ rs) → ∀ q ∈ l', q.holds h' := by
      intro l l' u
      induction u with
      | hit =>
        intro hp hq q hm
        rcases List.mem_cons.mp hm with rfl | hm
        · refine hh (fun b o hb f e => k b o (fun z => (F.rd r (hq r (.head _)) b f).2.2 (by rw [z]; exact .head _)) hb e) ex
        · exact q.stable _ _ (off q (hq q (.tail _ hm)) fun f => (List.pairwise_cons.mp hp).1 q hm x hx f) (F.rg q (hq q (.tail _ hm)))
      | @skip q0 l l' u ih =>
        intro hp hq q hm
        rcases List.mem_cons.mp hm with rfl | hm
        · exact q.stable _ _ (off q (hq q (.head _)) fun f => (List.pairwise_cons.mp hp).1 r u.mem x f hx) (F.rg q (hq q (.head _)))
        · exact ih (List.pairwise_cons.mp hp).2 (fun q hm => hq q (.tail _ hm)) q hm
    exact key u F.rp fun q hq => hq
  · intro q hq a f
    rcases u.mem' q hq with rfl | hq
    · rw [hf] at f; obtain ⟨h1, ⟨o, e⟩, h3⟩ := F.rd r u.mem a f; exact ⟨h1, md.dom a o e, h3⟩
    · obtain ⟨h1, ⟨o, e⟩, h3⟩ := F.rd q hq a f; exact ⟨h1, md.dom a o e, h3⟩
  · have key : ∀ {l l' : List Rg}, UpdR r r' l l' → (l.Pairwise fun r q => ∀ a, r.foot a → ¬ q.foot a) → l'.Pairwise fun r q => ∀ a, r.foot a → ¬ q.foot a := by
      intro l l' u
      induction u with
      | hit => intro hp; rw [List.pairwise_cons] at hp ⊢; exact ⟨fun q hq a f => hp.1 q hq a (hf ▸ f), hp.2⟩
      | @skip q0 l l' u ih =>
        intro hp
        rw [List.pairwise_cons] at hp ⊢
        refine ⟨fun q hq a f => ?_, ih hp.2⟩
        rcases u.mem' q hq with rfl | hq
        · rw [hf]; exact hp.1 r u.mem a f
        · exact hp.1 q hq a f
    exact key u F.rp
  · intro p hp; obtain ⟨v, y⟩ := F.cc p hp; exact ⟨v, cell_keeps y fun o e => k _ o (nL _ (List.mem_map.mpr ⟨p, hp, rfl⟩)) (fun z => vx (z ▸ .tail _ (List.mem_map.mpr ⟨p, hp, rfl⟩))) e⟩
end
end
end

section -- O2
open PySem PySem.W PyProof.Rows
set_option Elab.async false
set_option maxRecDepth 100000
set_option linter.unusedVariables false
noncomputable section

/-! the fields of an object -/
inductive Flds (w : World) : List DictEntry → List (Str × Value) → Prop
  | nil : Flds w [] []
  | cons {x : Str} {t : Tok} {v : Value} {es : List DictEntry} {fs : List (Str × Value)} : Flds w es fs → Flds w (⟨PyData.keyHash w.params x, .str x t, v⟩ :: es) ((x, v) :: fs)
noncomputable def putF (x : Str) (v : Value) : List (Str × Value) → List (Str × Value)
  | [] => [(x, v)]
  | (y, u) :: r => if y = x then (x, v) :: r else (y, u) :: putF x v r
theorem isStr_eq (y : Str) (t : Tok) (x : Str) : (Value.str y t).isStr x = decide (y = x) := by
  show (y == x) = _
  by_cases h : y = x
  · subst h; simp
  · rw [beq_eq_false_iff_ne.mpr h, decide_eq_false h]
theorem Flds.get {w : World} {es : List DictEntry} {fs : List (Str × Value)} (h : Flds w es fs) (x : Str) : getL x es = some (fs.lookup x) := by
  induction h with
  | nil => rfl
  | @cons y t v es fs h ih =>
    unfold getL at ih ⊢
    rw [List.find?_cons, List.lookup_cons]
    dsimp only
    rw [isStr_eq]
    by_cases e : y = x
    · subst e; simp
    · rw [decide_eq_false e, beq_eq_false_iff_ne.mpr (fun q => e q.symm)]
      dsimp only
      rw [← ih]
      rw [List.any_cons, show DictEntry.refKey ⟨PyData.keyHash w.params y, .str y t, v⟩ = false from rfl, Bool.false_or]
theorem Flds.put {w : World} {es : List DictEntry} {fs : List (Str × Value)} (h : Flds w es fs) (x : Str) (t : Tok) (v : Value) : Flds w (putL x (PyData.keyHash w.params x) (.str x t) v es) (putF x v fs) := by
  induction h with
  | nil => exact .cons .nil
  | @cons y u v' es fs h ih =>
    unfold putL putF
    dsimp only
    rw [isStr_eq]
    by_cases e : y = x
    · subst e; simp; exact .cons h
    · rw [decide_eq_false e, if_neg e]
      exact .cons ih
theorem Flds.len {w : World} {es : List DictEntry} {fs : List (Str × Value)} (h : Flds w es fs) : es.length = fs.length := by
  induction h with
  | nil => rfl
  | cons _ ih => simp [ih]
theorem putF_len (x : Str) (v : Value) : ∀ fs, (putF x v fs).length ≤ fs.length + 1
  | [] => Nat.le_refl _
  | (y, u) :: r => by
    unfold putF
    split
    · simp
    · have := putF_len x v r; simp; lia

noncomputable def insR (w : World) (C T dx : Addr) (fs : List (Str × Value)) : Rg :=
  ⟨fun a => a = T ∨ a = dx, fun h => T ≠ dx ∧ h.get? T = some (instObj C dx) ∧ ∃ es n, h.get? dx = some (dictOf es n) ∧ Flds w es fs,
   fun _ _ k ⟨h1, h2, es, n, h3, h4⟩ => ⟨h1, k _ _ (.inl rfl) h2, es, n, k _ _ (.inr rfl) h3, h4⟩⟩

structure FldOk (P : Params) (C : Addr) (name : Str) : Prop where
  g : plainGet (KH P) C name = true
  hd : hasDictIn (KH P) C = true
  fi : findIn (KH P) (.ref C) name = some none
  st : findIn (KH P) (.ref C) "__setattr__" = some (some (.builtin "object.__setattr__"))
  po : plainOver (KH P) C = true
structure MthOk (P : Params) (C f : Addr) (name : Str) : Prop where
  g : plainGet (KH P) C name = true
  hf : findIn (KH P) (.ref C) name = some (some (.ref f))
  ht : isFn (KH P) (.ref f) = true
structure SltOk (P : Params) (C p : Addr) (i : Nat) (name : Str) : Prop where
  g : plainGet (KH P) C name = true
  ic : isClsIn (KH P) C = true
  ha : findIn (KH P) (.ref C) name = some (some (.ref p))
  hn : specialIn (KH P) (.ref p) "__get__" = some (some (.builtin "member_descriptor.__get__"))
  tk : takesIn (KH P) (.ref p) = some true
  hp : slotIn (KH P) p C = some i
  st : findIn (KH P) (.ref C) "__setattr__" = some (some (.builtin "object.__setattr__"))
  po : plainOver (KH P) C = true
  tr : takerIn (KH P) C name = some (some (.ref p))
  hT : typeIn (KH P) (.ref p) = some (.type "member_descriptor")

theorem fld_n2i (P : Params) : FldOk P 151 "_node2info" := ⟨by kernel_rfl, by kernel_rfl, by kernel_rfl, by kernel_rfl, by kernel_rfl⟩
theorem fld_rdy (P : Params) : FldOk P 151 "_ready_nodes" := ⟨by kernel_rfl, by kernel_rfl, by kernel_rfl, by kernel_rfl, by kernel_rfl⟩
theorem fld_out (P : Params) : FldOk P 151 "_npassedout" := ⟨by kernel_rfl, by kernel_rfl, by kernel_rfl, by kernel_rfl, by kernel_rfl⟩
theorem fld_fin (P : Params) : FldOk P 151 "_nfinished" := ⟨by kernel_rfl, by kernel_rfl, by kernel_rfl, by kernel_rfl, by kernel_rfl⟩
theorem slt_node (P : Params) : SltOk P 54 55 0 "node" := ⟨by kernel_rfl, by kernel_rfl, by kernel_rfl, by kernel_rfl, by kernel_rfl, by kernel_rfl, by kernel_rfl, by kernel_rfl, by kernel_rfl, by kernel_rfl⟩
theorem slt_np (P : Params) : SltOk P 54 56 1 "npredecessors" := ⟨by kernel_rfl, by kernel_rfl, by kernel_rfl, by kernel_rfl, by kernel_rfl, by kernel_rfl, by kernel_rfl, by kernel_rfl, by kernel_rfl, by kernel_rfl⟩
theorem slt_succ (P : Params) : SltOk P 54 57 2 "successors" := ⟨by kernel_rfl, by kernel_rfl, by kernel_rfl, by kernel_rfl, by kernel_rfl, by kernel_rfl, by kernel_rfl, by kernel_rfl, by kernel_rfl, by kernel_rfl⟩
theorem mth_gni (P : Params) : MthOk P 151 94 "_get_nodeinfo" := ⟨by kernel_rfl, by kernel_rfl, by kernel_rfl⟩
theorem mth_add (P : Params) : MthOk P 151 101 "add" := ⟨by kernel_rfl, by kernel_rfl, by kernel_rfl⟩
theorem mth_prep (P : Params) : MthOk P 151 106 "prepare" := ⟨by kernel_rfl, by kernel_rfl, by kernel_rfl⟩
theorem mth_rdy (P : Params) : MthOk P 151 113 "get_ready" := ⟨by kernel_rfl, by kernel_rfl, by kernel_rfl⟩
theorem mth_act (P : Params) : MthOk P 151 120 "is_active" := ⟨by kernel_rfl, by kernel_rfl, by kernel_rfl⟩
theorem mth_done (P : Params) : MthOk P 151 134 "done" := ⟨by kernel_rfl, by kernel_rfl, by kernel_rfl⟩
theorem mth_cyc (P : Params) : MthOk P 151 141 "_find_cycle" := ⟨by kernel_rfl, by kernel_rfl, by kernel_rfl⟩

section
variable {prog : Program} {w : World} {A : Around} {E : Value → Shared → Prop} {P : Params} {h₀ : Heap} {X : Addr → Prop} {s₀ s : Shared} {env : Env} {loc : List (Str × Value)} {rs rs' : List Rg} {C T dx : Addr} {fs : List (Str × Value)} {name : Str} {v : Value}

theorem Fm.kin (F : Fm h₀ X s₀ env loc rs s) (B : Base P h₀) : (KH P).In s.heap := B.kin.keeps F.base
theorem ins_at {s : Shared} (h : (insR w C T dx fs).holds s.heap) : ∃ es n, InstAt s.heap T (instObj C dx) C (some (dictOf es n)) ∧ Flds w es fs :=
  let ⟨h1, h2, es, n, h3, h4⟩ := h; ⟨es, n, ⟨h2, rfl, rfl, h3⟩, h4⟩
theorem at_get {expr : Bool} {Q : Value → Shared → Prop} (B : Base P h₀) (F : Fm h₀ X s₀ env loc rs s) (hm : insR w C T dx fs ∈ rs) (O : FldOk P C name) (hl : fs.lookup name = some v) (hh : handedIn v = true)
    (h : ∀ s', Fm h₀ X s₀ env loc rs s' → Q v s') : wpAny (model prog w) A (getAttr (.ref T) name expr) Q E s := by
  obtain ⟨es, n, I, hf⟩ := ins_at (F.rg _ hm)
  exact get_value (F.kin B) I (plainGet_of O.g).1 (findObj_own (attr := none) O.hd O.fi rfl (by rw [lookIn_dict, hf.get, hl])) hh (h _ (F.toks _))
theorem at_set {Q : Unit → Shared → Prop} (B : Base P h₀) (F : Fm h₀ X s₀ env loc rs s) (up : UpdR (insR w C T dx fs) (insR w C T dx (putF name v fs)) rs rs') (hw : ∀ a, (insR w C T dx fs).foot a → Wr X s₀ a) (O : FldOk P C name) (hz : fs.length ≤ 900)
    (h : ∀ s', Fm h₀ X s₀ env loc rs' s' → Q () s') : wpAny (model prog w) A (setAttr (.ref T) name v) Q E s := by
  obtain ⟨h1, h2, es, n, h3, h4⟩ := F.rg _ up.mem
  obtain ⟨m, F0, hv⟩ := F.fr
  have hne : dx ≠ env.locals := fun q => (F.rd _ up.mem dx (.inr rfl)).2.2 (by rw [q]; exact .head _)
  obtain ⟨pre, post, e, p1, p2⟩ := allN_split h3 hne
  have N0 := allN_ok s.heap env.locals
  rw [e] at N0
  have I : InstAt s.heap T (instObj C dx) C (some (dictOf es n)) := ⟨h2, rfl, rfl, h3⟩
  refine set_plain (F.kin B) I O.st (osa_dict (s := { s with toks := s.toks + 1 }) F0 N0 (F.kin B) I rfl O.po (by unfold takerIn; rw [O.fi]; rfl) O.hd (by rw [lookIn_dict, h4.get]; rfl) p1 p2 (putName_dict ..) rfl ?_ fun h' F' N' => ?_)
  · have a := (h4.put name (s.toks + 1) v).len
    have b := putF_len name v fs
    show (putL name _ (.str name (s.toks + 1)) v es).length ≤ 1000
    lia
  · refine h _ (F.backUpd hv e F' N' up rfl (.inr rfl) (hw _ (.inr rfl)) fun k e2 => ⟨h1, ?_, _, _, e2, h4.put name (s.toks + 1) v⟩)
    exact k _ _ h1 (.inl rfl) h2
theorem meth_ins {f : Addr} {pl : Sem Bool} {Q : Value × List Value → Shared → Prop} (B : Base P h₀) (F : Fm h₀ X s₀ env loc rs s) (hm : insR w C T dx fs ∈ rs) (O : MthOk P C f name) (hl : fs.lookup name = none)
    (h : Q (.ref f, [.ref T]) s) : wpAny (model prog w) A (getMethod (.ref T) name pl) Q E s := by
  obtain ⟨es, n, I, hf⟩ := ins_at (F.rg _ hm)
  exact method_fn (F.kin B) I (plainGet_of O.g).1 (plainGet_of O.g).2 O.hf (beq_iff_eq.mp O.ht) (by show (lookIn name (dictOf es n)).map _ = _; rw [lookIn_dict, hf.get, hl]; rfl) h
/-- a slot read, wherever the object lies -/
theorem slt_get {expr : Bool} {Q : Value → Shared → Prop} {x dx p : Addr} {sl : Array (Option Value)} {i : Nat} (B : Base P h₀) (F : Fm h₀ X s₀ env loc rs s) (hx : s.heap.get? x = some ⟨.ref C, some dx, .plain, sl⟩) (hd : ∃ od, s.heap.get? dx = some od) (O : SltOk P C p i name) (hv : (sl[i]?).join = some v) (hh : handedIn v = true)
    (h : ∀ s', Fm h₀ X s₀ env loc rs s' → Q v s') : wpAny (model prog w) A (getAttr (.ref x) name expr) Q E s := by
  obtain ⟨od, hd⟩ := hd
  have I : InstAt s.heap x ⟨.ref C, some dx, .plain, sl⟩ C (some od) := ⟨hx, rfl, rfl, hd⟩
  exact get_bind (F.kin B) I (plainGet_of O.g).1 (findObj_data O.ic O.ha O.hn O.tk) (plainGet_of O.g).2 (wpAny_call (slot_get (s := { s with toks := s.toks + 1 }) (F.kin B) I O.hp hv (handed_on hh (h _ (F.toks _)))))
theorem slt_set {Q : Unit → Shared → Prop} {x dx p : Addr} {sl : Array (Option Value)} {i : Nat} {r r' : Rg} (B : Base P h₀) (F : Fm h₀ X s₀ env loc rs s) (up : UpdR r r' rs rs') (hf : r'.foot = r.foot) (hrx : r.foot x) (hw : Wr X s₀ x)
    (hx : s.heap.get? x = some ⟨.ref C, some dx, .plain, sl⟩) (hd : ∃ od, s.heap.get? dx = some od) (O : SltOk P C p i name) (hi : i < 1000)
    (hh : ∀ h' : Heap, (∀ b o, b ≠ x → r.foot b → s.heap.get? b = some o → h'.get? b = some o) → h'.get? x = some ⟨.ref C, some dx, .plain, (sl ++ Array.replicate (i + 1 - sl.size) none).setIfInBounds i (some v)⟩ → r'.holds h')
    (h : ∀ s', Fm h₀ X s₀ env loc rs' s' → Q () s') : wpAny (model prog w) A (setAttr (.ref x) name v) Q E s := by
  obtain ⟨od, hd⟩ := hd
  have I : InstAt s.heap x ⟨.ref C, some dx, .plain, sl⟩ C (some od) := ⟨hx, rfl, rfl, hd⟩
  obtain ⟨m, F0, hv⟩ := F.fr
  have hne : x ≠ env.locals := fun q => (F.rd _ up.mem x hrx).2.2 (by rw [q]; exact .head _)
  obtain ⟨pre, post, e, p1, p2⟩ := allN_split hx hne
  have N0 := allN_ok s.heap env.locals
  rw [e] at N0
  refine set_plain (F.kin B) I O.st (osa_descr (s := { s with toks := s.toks + 1 }) KF.slot_mset (F.kin B) I O.po O.tr O.hT (slot_set (s := { s with toks := s.toks + 1 }) F0 N0 (F.kin B) I O.hp hi p1 p2 rfl rfl fun h' F' N' => ?_))
  exact h _ (F.backUpd hv e F' N' up hf hrx hw fun k e2 => hh h' k e2)
end
end
end

section -- O3
open PySem PySem.Calls PySem.W PyProof.Rows
set_option Elab.async false
set_option maxRecDepth 100000
set_option linter.unusedVariables false
noncomputable section

section
variable {M : Model} {prog : Program} {w : World} {A : Around} {E : Value → Shared → Prop} {P : Params} {h₀ : Heap} {X : Addr → Prop} {s₀ s : Shared} {env : Env} {loc : List (Str × Value)} {rs rs' : List Rg}

/-! entering a def, as code -/
theorem enter1 {R : Result → Shared → Prop} {fd : FuncData} {f : Addr} {body : List Stmt} {binds : List (Str × Value)} (H : Hands h₀ rs s) (K : FnOk h₀ f fd body)
    (hcell : ∀ x ∈ fd.scope.names, x.2 ≠ .cell) (hclo : fd.closure = []) {names : List Str} (hz : binds.map (·.1) = names) (hk : argChk fd.scope names = true)
    (h : ∀ L s', Fm h₀ X s (fenv fd f L) binds rs s' → wpAny (model prog w) (A.deeper (fenv fd f L)) (execs body (fenv fd f L))
      (fun fl s' => R (.ok (.ret (match fl with | .ret v => v | _ => .none))) s') NoE s') :
    wpAny (model prog w) A.in1 (newFunctionEnv fd.scope fd.globals fd.closure binds (fd.qualname ++ ".<locals>.") (some f) fd.code none fd.builtins)
      (fun env s₂ => s₂.heap.NoLimit ∧ codeAny (model prog w) A (.func body env) R s₂) (fun e s' => R (.error e) s') s := by
  obtain ⟨nd, hb⟩ := arg_of hz hk
  rw [hclo]
  refine wpAny_newFunctionEnv hcell (fun x hx => (hb x hx).1) (fun h' hn hs => ?_) K.fk
  have e0 : s.heap.get? s.heap.objs.size = none := get?_size _
  have kp : Kp s.heap h' := fun b o e => (hs.2 b (fun q => by rw [q, e0] at e; cases e)).trans (Heap.get?_push_of_some _ e)
  have kb : Kp h₀ h' := fun b o e => kp b o (H.base b o e)
  refine ⟨nolim_keeps K.lim kb, codeAny_func ?_⟩
  have b0 : h₀.get? s.heap.objs.size = none := by
    cases q : h₀.get? s.heap.objs.size with
    | none => rfl
    | some o => rw [H.base _ o q] at e0; cases e0
  have hn' := hn
  obtain ⟨oL, _, _, eL, _⟩ := hn'
  refine wpAny_mono (h s.heap.objs.size _ ?_) (fun _ _ x => x) fun _ _ x => x.elim
  refine ⟨(Md.of_kp kp).wide fun _ x => x.elim, kb, K.fk, by simp [fenv, newEnv], nd, ⟨_, hn, fun p hp => ?_⟩, e0, ?_, ?_, ?_, H.rp, fun p hp => nomatch hp⟩
  · exact .loc (hb p hp).1 (hb p hp).2 (bnd_lookup nd p hp)
  · intro a ha
    have : a = s.heap.objs.size := by simpa [fenv, newEnv] using ha
    subst this
    exact ⟨b0, oL, eL⟩
  · intro r hr
    exact r.stable _ _ (fun a o _ e => kp a o e) (H.rg r hr)
  · intro r hr a f
    obtain ⟨h1, o, e⟩ := H.rd r hr a f
    refine ⟨h1, ⟨o, kp a o e⟩, fun v => ?_⟩
    have : a = s.heap.objs.size := by simpa [fenv, newEnv] using v
    rw [this, e0] at e; cases e
theorem enterR {R : Result → Shared → Prop} {fd : FuncData} {f : Addr} {body : List Stmt} {args : List Value} {binds : List (Str × Value)} (H : Hands h₀ rs s) (K : FnOk h₀ f fd body) (room : A.depth < recursionLimit)
    (hcell : ∀ x ∈ fd.scope.names, x.2 ≠ .cell) (hclo : fd.closure = []) (hbind : Looks (model prog w) s.heap (bindArgs fd ⟨args, []⟩) binds) {names : List Str} (hz : binds.map (·.1) = names) (hk : argChk fd.scope names = true)
    (h : ∀ L s', Fm h₀ X s (fenv fd f L) binds rs s' → wpAny (model prog w) (A.deeper (fenv fd f L)) (execs body (fenv fd f L))
      (fun fl s' => R (.ok (.ret (match fl with | .ret v => v | _ => .none))) s') NoE s') :
    codeAny (model prog w) A (.call (.ref f) ⟨args, []⟩) R s := by
  obtain ⟨o, ho, hd⟩ := K.ob
  refine codeAny_call_function room (H.base _ _ ho) hd K.co K.gn K.bd (code_keeps K.cd H.base) (hbind.here ?_)
  exact enter1 H K hcell hclo hz hk h
theorem enterB {fd : FuncData} {f : Addr} {body : List Stmt} {args : List Value} {binds : List (Str × Value)} {Q : Value → Shared → Prop} (H : Hands h₀ rs s) (K : FnOk h₀ f fd body) (room : A.depth < recursionLimit)
    (hcell : ∀ x ∈ fd.scope.names, x.2 ≠ .cell) (hclo : fd.closure = []) (hbind : Looks (model prog w) s.heap (bindArgs fd ⟨args, []⟩) binds) {names : List Str} (hz : binds.map (·.1) = names) (hk : argChk fd.scope names = true)
    (h : ∀ L s', Fm h₀ X s (fenv fd f L) binds rs s' → wpAny (model prog w) (A.deeper (fenv fd f L)) (execs body (fenv fd f L))
      (fun fl s' => Q (match fl with | .ret v => v | _ => .none) s') NoE s') :
    wpAny (model prog w) A (call (.ref f) args) Q E s :=
  wpAny_call (enterR H K room hcell hclo hbind hz hk h)
/-- a def with a tail of arguments: a tuple is made of them -/
theorem enterVR {fd : FuncData} {f : Addr} {body : List Stmt} {args more : List Value} {bs : List (Str × Value)} {va : Str} {R : Result → Shared → Prop} (H : Hands h₀ rs s) (K : FnOk h₀ f fd body) (room : A.depth < recursionLimit)
    (hcell : ∀ x ∈ fd.scope.names, x.2 ≠ .cell) (hclo : fd.closure = []) (hbind : bindArgs fd ⟨args, []⟩ = (newTuple more >>= fun t => pure (bs ++ [(va, t)]))) (hz2 : more.length ≤ 2 ^ 20) {names : List Str} (hz : bs.map (·.1) ++ [va] = names) (hk : argChk fd.scope names = true)
    (h : ∀ L T s1 s', Md NoX s s1 → s.heap.get? T = none → Fm h₀ X s1 (fenv fd f L) (bs ++ [(va, .ref T)]) (tupR T more :: rs) s' → wpAny (model prog w) (A.deeper (fenv fd f L)) (execs body (fenv fd f L))
      (fun fl s' => R (.ok (.ret (match fl with | .ret v => v | _ => .none))) s') NoE s') :
    codeAny (model prog w) A (.call (.ref f) ⟨args, []⟩) R s := by
  obtain ⟨o, ho, hd⟩ := K.ob
  refine codeAny_call_function room (H.base _ _ ho) hd K.co K.gn K.bd (code_keeps K.cd H.base) ?_
  rw [hbind]
  refine wpAny_bind (wpAny_newObj_type ?_ (by show more.toArray.size ≤ sizeLine; rw [List.size_toArray, sizeLine_eq]; lia))
  refine wpAny_pure ?_
  have e0 : s.heap.get? s.heap.objs.size = none := get?_size _
  have b0 : h₀.get? s.heap.objs.size = none := by
    cases q : h₀.get? s.heap.objs.size with
    | none => rfl
    | some o => rw [H.base _ o q] at e0; cases e0
  have m1 : Md NoX s { s with heap := s.heap.push { cls := .type "tuple", data := .seq more.toArray } } := .push (t := s.toks) _
  have H1 : Hands h₀ (tupR s.heap.objs.size more :: rs) { s with heap := s.heap.push { cls := .type "tuple", data := .seq more.toArray } } := by
    refine ⟨fun b o e => m1.kp b o (H.base b o e), ?_, ?_, ?_⟩
    · intro r hr
      rcases List.mem_cons.mp hr with rfl | hr
      · exact ⟨0, Heap.get?_push_size _ rfl⟩
      · exact r.stable _ _ (fun a o _ e => m1.kp a o e) (H.rg r hr)
    · intro r hr a f
      rcases List.mem_cons.mp hr with rfl | hr
      · have : a = s.heap.objs.size := f
        subst this
        exact ⟨b0, _, Heap.get?_push_size _ rfl⟩
      · obtain ⟨h1, o, e⟩ := H.rd r hr a f
        exact ⟨h1, o, m1.kp a o e⟩
    · refine List.pairwise_cons.mpr ⟨fun r hr a f g => ?_, H.rp⟩
      have : a = s.heap.objs.size := f
      subst this
      obtain ⟨h1, o, e⟩ := H.rd r hr _ g
      rw [e0] at e; cases e
  refine enter1 (X := X) (s := { s with heap := s.heap.push { cls := .type "tuple", data := .seq more.toArray } }) H1 K hcell hclo (by rw [List.map_append]; exact hz) hk fun L s' F => ?_
  exact h L _ _ s' m1 e0 F

theorem bind_var1 {fd : FuncData} {a1 va : Arg} (hp : fd.params = { posonlyargs := [], args := [a1], vararg := some va, kwonlyargs := [], kw_defaults := [], kwarg := none, defaults := [] }) (hd : fd.defaults = .none) (x : Value) (ps : List Value) :
    bindArgs fd ⟨x :: ps, []⟩ = (newTuple ps >>= fun t => pure ([(a1.arg, x)] ++ [(va.arg, t)])) := by
  unfold bindArgs
  rw [hp, hd]
  simp [seqItems?, notAStandIn]
theorem bind_var2 {fd : FuncData} {a1 a2 va : Arg} (hne : a1.arg ≠ a2.arg) (hp : fd.params = { posonlyargs := [], args := [a1, a2], vararg := some va, kwonlyargs := [], kw_defaults := [], kwarg := none, defaults := [] }) (hd : fd.defaults = .none) (x y : Value) (ps : List Value) :
    bindArgs fd ⟨x :: y :: ps, []⟩ = (newTuple ps >>= fun t => pure ([(a1.arg, x), (a2.arg, y)] ++ [(va.arg, t)])) := by
  unfold bindArgs
  rw [hp, hd]
  have h1 : (a1.arg == a2.arg) = false := beq_eq_false_iff_ne.mpr hne
  have h2 : (a2.arg == a1.arg) = false := beq_eq_false_iff_ne.mpr fun q => hne q.symm
  simp [seqItems?, notAStandIn, h1, h2, List.lookup_cons]

/-! statements and expressions over attributes -/
theorem x_assignAttr {o : Expr} {attr : Str} {pos' : Pos} {value : Expr} {pos : Pos} {rest : List Stmt} {Q : Flow → Shared → Prop}
    (h : wpAny M A (eval value env) (fun v s₁ => wpAny M A (eval o env) (fun ov s₂ => wpAny M A (setAttr ov attr v) (fun _ s₃ => wpAny M A (execs rest env) Q E s₃) E s₂) E s₁) E s)
    (hs : swapsWith value (some (.Attribute o attr pos')) pos.line env = pure false := by with_unfolding_all rfl) :
    wpAny M A (execs (.Assign [.Attribute o attr pos'] value pos :: rest) env) Q E s := wpAny_execs_cons (plainObj_wpAny_Assign_Attribute h hs)
theorem x_augAttr {o value : Expr} {attr : Str} {tpos pos : Pos} {op : Operator} {rest : List Stmt} {Q : Flow → Shared → Prop}
    (h : wpAny M A (eval o env) (fun ov s₁ => wpAny M A (getAttr ov attr true) (fun old s₂ =>
          wpAny M A (eval value env) (fun v s₃ => wpAny M A (inplaceOp op old v) (fun new s₄ =>
            wpAny M A (setAttr ov attr new) (fun _ s₅ => wpAny M A (execs rest env) Q E s₅) E s₄) E s₃) E s₂) E s₁) E s) :
    wpAny M A (execs (.AugAssign (.Attribute o attr tpos) op value pos :: rest) env) Q E s := wpAny_execs_cons (wpAny_AugAssign_AttributeAny h)
theorem ev_attr {value : Expr} {attr : Str} {pos : Pos} {Q : Value → Shared → Prop}
    (h : wpAny (model prog w) A (eval value env) (fun o s₁ => wpAny (model prog w) A (getAttr o attr true) Q E s₁) E s)
    (he : eval (.Attribute value attr pos) env = (do
      let o ← eval value env
      standAt pos.atName
      let r ← holding [o] (getAttr o attr true)
      letTemporaryGo value o r
      pure r) := by with_unfolding_all rfl) :
    wpAny (model prog w) A (eval (.Attribute value attr pos) env) Q E s := Attribute_any_ h he
theorem ev_walrus {x : Str} {p pos : Pos} {value : Expr} {Q : Value → Shared → Prop}
    (h : wpAny M A (eval value env) (fun v s₁ => wpAny M A (storeName env x v) (fun _ s₂ => Q v s₂) E s₁) E s) : wpAny M A (eval (.NamedExpr (.Name x p) value pos) env) Q E s :=
  wpAny_NamedExpr (wpAny_mono h (fun v s₁ h₁ => wpAny_assign_Name h₁) fun _ _ x => x)
theorem is_none {a : Addr} {Q : Value → Shared → Prop} (h : Q (.bool false) s) : wpAny M A (compareOp .Is (.ref a) .none) Q E s := wpAny_is_other rfl (by simp) h
theorem is_none0 {Q : Value → Shared → Prop} (h : Q (.bool true) s) : wpAny M A (compareOp .Is .none .none) Q E s := wpAny_is_self rfl h
theorem isnot_none {a : Addr} {Q : Value → Shared → Prop} (h : Q (.bool true) s) : wpAny M A (compareOp .IsNot (.ref a) .none) Q E s := wpAny_isNot_other rfl (by simp) h
theorem isnot_none0 {Q : Value → Shared → Prop} (h : Q (.bool false) s) : wpAny M A (compareOp .IsNot .none .none) Q E s := wpAny_isNot_self rfl h

/-! calls of methods and classes -/
section
variable {e : Expr} {rest : List Expr} {pos p : Pos} {f : Addr} {first : List Value} {Q : Value → Shared → Prop} {fd : FuncData} {body : List Stmt}
theorem keeps_fn {f : Addr} {fd : FuncData} {body : List Stmt} (K : FnOk h₀ f fd body) (h : Heap) (k : Kp h₀ h) : ∃ k, (k = Keeper.frame ∨ k = Keeper.machine ∨ k = Keeper.boundFrame) ∧ Looks M h (keeperOf (.ref f)) k := by
  obtain ⟨o, ho, hd⟩ := K.ob
  obtain ⟨c, d, dt, sl⟩ := o
  dsimp only at hd
  subst hd
  exact ⟨.frame, .inl rfl, (Looks.ld (part := none) (k _ _ ho)).andThen .now⟩
theorem cw_mth (K : FnOk h₀ f fd body) (h : wpAny M A (spliced (backTo pos (starEach (e :: rest) env))) (fun vs s₁ => Kp h₀ s₁.heap ∧ wpAny M A (call (.ref f) (first ++ vs)) Q E s₁) E s)
    (he : starEach (e :: rest) env = (false, eval e env) :: starEach rest env := by with_unfolding_all rfl) (hplain : (backTo pos (starEach rest env)).any (·.1) = false := by with_unfolding_all rfl) :
    wpAny M A (callWith pos (.ref f) first (backTo pos (starEach (e :: rest) env)) []) Q E s := by
  rw [he] at h ⊢
  exact callWith_of (by show ((false || (backTo pos (starEach rest env)).any (·.1)) || false) = false; rw [hplain]; rfl) (keeps_fn K) (evalArgs_plain h)
theorem cw_mth0 (F : Fm h₀ X s₀ env loc rs s) (K : FnOk h₀ f fd body) (h : wpAny M A (call (.ref f) (first ++ [])) Q E s) : wpAny M A (callWith pos (.ref f) first (backTo pos (starEach [] env)) []) Q E s :=
  callWith_of rfl (keeps_fn K) (evalArgs_nil3 ⟨F.base, h⟩)
/-- f(*e) -/
theorem cw_star (K : FnOk h₀ f fd body) (h : wpAny M A (eval e env) (fun v s₁ => StarOf M A E v (fun vs s₂ => Kp h₀ s₂.heap ∧ wpAny M A (call (.ref f) (first ++ vs)) Q E s₂) s₁) E s)
    (he : starEach [.Starred e p] env = [(true, eval e env)] := by with_unfolding_all rfl) :
    wpAny M A (callWith pos (.ref f) first (backTo pos (starEach [.Starred e p] env)) []) Q E s := by
  rw [he]
  exact ks_call rfl (keeps_fn K) (ks_lone h)
/-- f(e, .., *r) -/
theorem cw_star2 (K : FnOk h₀ f fd body) (h : wpAny M A (spliced (backTo pos (starEach (e :: rest) env))) (fun vs s₁ => Kp h₀ s₁.heap ∧ wpAny M A (call (.ref f) (first ++ vs)) Q E s₁) E s)
    (he : starEach (e :: rest) env = (false, eval e env) :: starEach rest env := by with_unfolding_all rfl) (hst : (backTo pos (starEach rest env)).any (·.1) = true := by with_unfolding_all rfl) :
    wpAny M A (callWith pos (.ref f) first (backTo pos (starEach (e :: rest) env)) []) Q E s := by
  rw [he] at h ⊢
  exact ks_call (by show (false || (backTo pos (starEach rest env)).any (·.1)) = true; rw [hst]; rfl) (keeps_fn K) (evalArgs_plain h)
theorem a_star {R : List Value → Shared → Prop} (h : wpAny M A (eval e env) (fun v s₁ => StarOf M A E v (fun here s₂ => wpAny M A (spliced (backTo pos (starEach rest env))) (fun vs s₃ => R (here ++ vs) s₃) E s₂) s₁) E s)
    (he : starEach (.Starred e p :: rest) env = (true, eval e env) :: starEach rest env := by with_unfolding_all rfl) :
    wpAny M A (spliced (backTo pos (starEach (.Starred e p :: rest) env))) R E s := items_star h he
/-- *l, a list or a tuple -/
theorem star_list {l : Addr} {xs : List Value} {R : List Value → Shared → Prop} (F : Fm h₀ X s₀ env loc rs s) (hm : listR l xs ∈ rs) (hz : xs.length ≤ 2 ^ 20) (h : ∀ s', Fm h₀ X s₀ env loc rs s' → R xs s') :
    StarOf (model prog w) A E (.ref l) R s := by
  obtain ⟨m, F0, hv⟩ := F.fr
  obtain ⟨n, hl⟩ := F.listE hm
  have hne : l ≠ env.locals := fun q => (F.rd _ hm l rfl).2.2 (by rw [q]; exact .head _)
  exact star_seq (T := "list") (its := xs.toArray) F0 (allN_ok _ _) (allN_mem.mpr ⟨hl, hne⟩) rfl rfl (.inl rfl) rfl (by rw [List.size_toArray, sizeLine_eq]; lia) fun h' F' N' => h _ (F.back hv F' N')
theorem star_tup {l : Addr} {xs : List Value} {R : List Value → Shared → Prop} (F : Fm h₀ X s₀ env loc rs s) (hm : tupR l xs ∈ rs) (hz : xs.length ≤ 2 ^ 20) (h : ∀ s', Fm h₀ X s₀ env loc rs s' → R xs s') :
    StarOf (model prog w) A E (.ref l) R s := by
  obtain ⟨m, F0, hv⟩ := F.fr
  obtain ⟨n, hl⟩ := F.rg _ hm
  have hne : l ≠ env.locals := fun q => (F.rd _ hm l rfl).2.2 (by rw [q]; exact .head _)
  exact star_seq (T := "tuple") (its := xs.toArray) F0 (allN_ok _ _) (allN_mem.mpr ⟨hl, hne⟩) rfl rfl (.inr rfl) rfl (by rw [List.size_toArray, sizeLine_eq]; lia) fun h' F' N' => h _ (F.back hv F' N')
theorem cw_cls {C : Addr} (B : Base P h₀) (hk : keepIn (KH P) (.ref C) = true) (h : wpAny M A (spliced (backTo pos (starEach (e :: rest) env))) (fun vs s₁ => Kp h₀ s₁.heap ∧ wpAny M A (call (.ref C) vs) Q E s₁) E s)
    (he : starEach (e :: rest) env = (false, eval e env) :: starEach rest env := by with_unfolding_all rfl) (hplain : (backTo pos (starEach rest env)).any (·.1) = false := by with_unfolding_all rfl) :
    wpAny M A (callWith pos (.ref C) [] (backTo pos (starEach (e :: rest) env)) []) Q E s := by
  rw [he] at h ⊢
  exact callWith_of (P := fun h => Kp h₀ h) (by show ((false || (backTo pos (starEach rest env)).any (·.1)) || false) = false; rw [hplain]; rfl) (fun h k => keeps_K hk h (B.kin.keeps k)) (evalArgs_plain h)
theorem cw_cls0 {C : Addr} (B : Base P h₀) (hk : keepIn (KH P) (.ref C) = true) (F : Fm h₀ X s₀ env loc rs s) (h : wpAny M A (call (.ref C) []) Q E s) :
    wpAny M A (callWith pos (.ref C) [] (backTo pos (starEach [] env)) []) Q E s :=
  callWith_of (P := fun h => Kp h₀ h) rfl (fun h k => keeps_K hk h (B.kin.keeps k)) (evalArgs_nil3 ⟨F.base, h⟩)
end
end
end
end

section -- S0
open PySem PySem.Calls PySem.W PyProof.Rows
set_option Elab.async false
set_option maxRecDepth 100000
set_option linter.unusedVariables false
noncomputable section



section
variable {M : Model} {prog : Program} {w : World} {A : Around} {E : Value → Shared → Prop} {P : Params} {h₀ : Heap} {X : Addr → Prop} {s₀ s s' : Shared} {env : Env} {loc : List (Str × Value)} {rs rs' rs1 : List Rg}

/-! regions taken apart, put together, handed and got back -/
theorem Fm.split {r r1 r2 : Rg} (F : Fm h₀ X s₀ env loc rs s) (u : UpdR r r2 rs rs') (h1 : ∀ a, r1.foot a → r.foot a) (h2 : ∀ a, r2.foot a → r.foot a) (hd : ∀ a, r1.foot a → ¬ r2.foot a)
    (hh : r.holds s.heap → r1.holds s.heap ∧ r2.holds s.heap) : Fm h₀ X s₀ env loc (r1 :: rs') s := by
  have hr := F.rg r u.mem
  obtain ⟨k1, k2⟩ := hh hr
  refine ⟨F.mod, F.base, F.fk, F.cnd, F.lnd, F.ns, F.lw, F.vd, fun q hq => ?_, fun q hq a f => ?_, ?_, F.cc⟩
  · rcases List.mem_cons.mp hq with rfl | hq
    · exact k1
    · rcases u.mem' q hq with rfl | hq
      · exact k2
      · exact F.rg q hq
  · rcases List.mem_cons.mp hq with rfl | hq
    · exact F.rd r u.mem a (h1 a f)
    · rcases u.mem' q hq with rfl | hq
      · exact F.rd r u.mem a (h2 a f)
      · exact F.rd q hq a f
  · have key : ∀ {l l' : List Rg}, UpdR r r2 l l' → (l.Pairwise fun r q => ∀ a, r.foot a → ¬ q.foot a) → (l'.Pairwise fun r q => ∀ a, r.foot a → ¬ q.foot a) ∧ ∀ q ∈ l', ∀ a, r1.foot a → ¬ q.foot a := by
      intro l l' u
      induction u with
      | hit =>
        intro hp
        rw [List.pairwise_cons] at hp
        refine ⟨List.pairwise_cons.mpr ⟨fun q hq a f => hp.1 q hq a (h2 a f), hp.2⟩, fun q hq a f => ?_⟩
        rcases List.mem_cons.mp hq with rfl | hq
        · exact hd a f
        · exact hp.1 q hq a (h1 a f)
      | @skip q0 l l' u ih =>
        intro hp
        rw [List.pairwise_cons] at hp
        obtain ⟨i1, i2⟩ := ih hp.2
        refine ⟨List.pairwise_cons.mpr ⟨fun q hq a f => ?_, i1⟩, fun q hq a f => ?_⟩
        · rcases u.mem' q hq with rfl | hq
          · exact fun g => hp.1 r u.mem a f (h2 a g)
          · exact hp.1 q hq a f
        · rcases List.mem_cons.mp hq with rfl | hq
          · exact fun g => hp.1 r u.mem a g (h1 a f)
          · exact i2 q hq a f
    obtain ⟨i1, i2⟩ := key u F.rp
    exact List.pairwise_cons.mpr ⟨i2, i1⟩
theorem Fm.merge {r r1 r2 : Rg} (F : Fm h₀ X s₀ env loc rs s) (v : RemR r1 rs rs1) (u : UpdR r2 r rs1 rs') (hf : ∀ a, r.foot a → r1.foot a ∨ r2.foot a)
    (hh : r1.holds s.heap → r2.holds s.heap → (∀ a, r1.foot a → ¬ r2.foot a) → r.holds s.heap) : Fm h₀ X s₀ env loc rs' s := by
  have h2 : r2 ∈ rs := v.sub.subset u.mem
  have off := v.off F.rp
  have G := F.sub v.sub
  refine ⟨F.mod, F.base, F.fk, F.cnd, F.lnd, F.ns, F.lw, F.vd, fun q hq => ?_, fun q hq a f => ?_, ?_, F.cc⟩
  · rcases u.mem' q hq with rfl | hq
    · exact hh (F.rg _ v.mem) (F.rg _ h2) (off _ u.mem)
    · exact G.rg q hq
  · rcases u.mem' q hq with rfl | hq
    · exact (hf a f).elim (F.rd _ v.mem a) (F.rd _ h2 a)
    · exact G.rd q hq a f
  · have key : ∀ {l l' : List Rg}, UpdR r2 r l l' → (l.Pairwise fun r q => ∀ a, r.foot a → ¬ q.foot a) → (∀ q ∈ l, ∀ a, r1.foot a → ¬ q.foot a) → (l'.Pairwise fun r q => ∀ a, r.foot a → ¬ q.foot a) := by
      intro l l' u
      induction u with
      | hit =>
        intro hp ho
        rw [List.pairwise_cons] at hp
        exact List.pairwise_cons.mpr ⟨fun q hq a f => (hf a f).elim (ho q (.tail _ hq) a) (hp.1 q hq a), hp.2⟩
      | @skip q0 l l' u ih =>
        intro hp ho
        rw [List.pairwise_cons] at hp
        refine List.pairwise_cons.mpr ⟨fun q hq a f => ?_, ih hp.2 fun q hq => ho q (.tail _ hq)⟩
        rcases u.mem' q hq with rfl | hq
        · exact fun g => (hf a g).elim (fun g => ho q0 (.head _) a g f) fun g => hp.1 r2 u.mem a f g
        · exact hp.1 q hq a f
    exact key u G.rp off

/-- what a call leaves: the handed regions big have become big' -/
structure Next (h₀ : Heap) (big big' : List Rg) (s s' : Shared) : Prop where
  md : Md (fun a => ∃ r ∈ big, r.foot a) s s'
  hands : Hands h₀ big' s'
  ft : ∀ r ∈ big', ∀ a, r.foot a → (∃ q ∈ big, q.foot a) ∨ s.heap.get? a = none
theorem Fm.next {big big' rest : List Rg} (F : Fm h₀ X s₀ env loc rs s) (hp : rs.Perm (big ++ rest)) (n : Next h₀ big big' s s') (hw : ∀ r ∈ big, ∀ a, r.foot a → Wr X s₀ a) : Fm h₀ X s₀ env loc (big' ++ rest) s' := by
  have G := F.perm hp.symm
  have out : ∀ a, vf env a → ¬ ∃ r ∈ big, r.foot a := fun a v ⟨r, hr, f⟩ => (G.rd r (List.mem_append_left _ hr) a f).2.2 v
  have offr : ∀ q ∈ rest, ∀ a, q.foot a → ¬ ∃ r ∈ big, r.foot a := fun q hq a f ⟨r, hr, g⟩ => (List.pairwise_append.mp G.rp).2.2 r hr q hq a g f
  have b0 : ∀ a, s.heap.get? a = none → h₀.get? a = none := fun a e => by
    cases q : h₀.get? a with
    | none => rfl
    | some o => rw [F.base a o q] at e; cases e
  have m := n.md
  refine ⟨F.mod.trans m fun b ⟨r, hr, f⟩ => hw r hr b f, m.base F.base fun a ⟨r, hr, f⟩ => (G.rd r (List.mem_append_left _ hr) a f).1, F.fk, F.cnd, F.lnd, ?_, F.lw, ?_, ?_, ?_, ?_, fun p hp => let ⟨v, x⟩ := F.cc p hp; ⟨v, cell_keeps x fun o e => m.keep _ o (out _ (.tail _ (List.mem_map.mpr ⟨p, hp, rfl⟩))) e⟩⟩
  · obtain ⟨mm, n, hv⟩ := F.ns
    exact ⟨mm, ns_keeps n fun o e => m.keep _ o (out _ (.head _)) e, fun p hp => (hv p hp).keeps fun a o v e => m.keep a o (out a v) e⟩
  · intro a v
    obtain ⟨h1, o, e⟩ := F.vd a v
    exact ⟨h1, o, m.keep a o (out a v) e⟩
  · intro q hq
    rcases List.mem_append.mp hq with hq | hq
    · exact n.hands.rg q hq
    · exact q.stable _ _ (fun a o f e => m.keep a o (offr q hq a f) e) (G.rg q (List.mem_append_right _ hq))
  · intro q hq a f
    rcases List.mem_append.mp hq with hq | hq
    · obtain ⟨h1, o, e⟩ := n.hands.rd q hq a f
      refine ⟨h1, ⟨o, e⟩, fun v => ?_⟩
      rcases n.ft q hq a f with h2 | h2
      · exact out a v h2
      · obtain ⟨_, o', e'⟩ := F.vd a v
        rw [h2] at e'; cases e'
    · obtain ⟨h1, ⟨o, e⟩, h3⟩ := G.rd q (List.mem_append_right _ hq) a f
      exact ⟨h1, m.dom a o e, h3⟩
  · refine List.pairwise_append.mpr ⟨n.hands.rp, (List.pairwise_append.mp G.rp).2.1, fun r hr q hq a f g => ?_⟩
    rcases n.ft r hr a f with h2 | h2
    · exact offr q hq a g h2
    · obtain ⟨_, ⟨o, e⟩, _⟩ := G.rd q (List.mem_append_right _ hq) a g
      rw [h2] at e; cases e
/-- in a body: what is left of the regions -/
theorem Fm.toNext {big big' : List Rg} (F : Fm h₀ (fun a => ∃ r ∈ big, r.foot a) s env loc rs s') (hs : big'.Sublist rs) (hf : ∀ r ∈ big', ∀ a, r.foot a → (∃ q ∈ big, q.foot a) ∨ s.heap.get? a = none) : Next h₀ big big' s s' :=
  ⟨F.mod, F.hands hs, hf⟩

/-- two new objects of the call's own -/
theorem Fm.backNew2 {m : Str → Option Value} {h' : Heap} {t : Nat} {D D2 : Addr} {o o2 : Obj} {r : Rg} (F : Fm h₀ X s₀ env loc rs s) (hv : ∀ p ∈ loc, VarAt env s.heap m p.1 p.2) (F' : Fr H0 env.locals h' m)
    (N' : News H0 env.locals h' ((D, o) :: (D2, o2) :: allN s.heap env.locals)) (hD : ∀ q ∈ allN s.heap env.locals, q.1 < D2) (hDD : D2 < D) (hr : ∀ a, r.foot a → a = D ∨ a = D2) (hh : r.holds h') :
    s.heap.get? D = none ∧ s.heap.get? D2 = none ∧ Fm h₀ X s₀ env loc (r :: rs) { s with heap := h', toks := t } := by
  have G := F.back (t := t) hv F' fun p hp => N' p (.tail _ (.tail _ hp))
  have n0 : ∀ d, d ≠ env.locals → D2 ≤ d → s.heap.get? d = none := fun d hd hle => by
    cases q : s.heap.get? d with
    | none => rfl
    | some o' => exact absurd (hD (d, o') (allN_mem.mpr ⟨q, hd⟩)) (Nat.not_lt.mpr hle)
  have d1 := n0 D (N' (D, o) (.head _)).2.1 (Nat.le_of_lt hDD)
  have d2 := n0 D2 (N' (D2, o2) (.tail _ (.head _))).2.1 (Nat.le_refl _)
  have b0 : ∀ d, s.heap.get? d = none → h₀.get? d = none := fun d e => by
    cases q : h₀.get? d with
    | none => rfl
    | some o => rw [F.base d o q] at e; cases e
  have fr : ∀ a, r.foot a → s.heap.get? a = none ∧ ∃ o, h'.get? a = some o := fun a f => by
    rcases hr a f with rfl | rfl
    · exact ⟨d1, _, (N' (a, o) (.head _)).1⟩
    · exact ⟨d2, _, (N' (a, o2) (.tail _ (.head _))).1⟩
  refine ⟨d1, d2, ⟨G.mod, G.base, G.fk, G.cnd, G.lnd, G.ns, G.lw, G.vd, ?_, ?_, ?_, G.cc⟩⟩
  · intro q hq; rcases List.mem_cons.mp hq with rfl | hq; exact hh; exact G.rg q hq
  · intro q hq a f
    rcases List.mem_cons.mp hq with rfl | hq
    · refine ⟨b0 a (fr a f).1, (fr a f).2, fun v => ?_⟩
      obtain ⟨_, o', e'⟩ := F.vd a v
      rw [(fr a f).1] at e'; cases e'
    · exact G.rd q hq a f
  · refine List.pairwise_cons.mpr ⟨fun q hq a f g => ?_, G.rp⟩
    obtain ⟨_, ⟨o, e⟩, _⟩ := F.rd q hq a g
    rw [(fr a f).1] at e; cases e
end

/-! the records of the sorter -/
noncomputable def upd {α : Type} (f : Nat → α) (k : Nat) (v : α) : Nat → α := fun x => if x = k then v else f x
theorem upd_same {α : Type} (f : Nat → α) (k : Nat) (v : α) : upd f k v k = v := if_pos rfl
theorem upd_ne {α : Type} (f : Nat → α) {k x : Nat} (v : α) (h : x ≠ k) : upd f k v x = f x := if_neg h
noncomputable def niObj (dx : Addr) (n np sc : Value) : Obj := ⟨.ref 54, some dx, .plain, #[some n, some np, some sc]⟩
noncomputable def slR (x dx : Addr) (sl : Array (Option Value)) : Rg :=
  ⟨fun a => a = x ∨ a = dx, fun h => x ≠ dx ∧ h.get? x = some ⟨.ref 54, some dx, .plain, sl⟩ ∧ ∃ od, h.get? dx = some od,
   fun _ _ k ⟨h1, h2, od, h3⟩ => ⟨h1, k _ _ (.inl rfl) h2, od, k _ _ (.inr rfl) h3⟩⟩
noncomputable def irR (D : List Nat) (info idc succ : Nat → Addr) (np : Nat → Int) : Rg :=
  ⟨fun a => a ∈ D.map info ++ D.map idc, fun h => (D.map info ++ D.map idc).Nodup ∧ ∀ k ∈ D, (∃ t1 t2, h.get? (info k) = some (niObj (idc k) (.int (k : Nat) t1) (.int (np k) t2) (.ref (succ k)))) ∧ ∃ od, h.get? (idc k) = some od,
   fun _ _ k ⟨h1, h2⟩ => ⟨h1, fun x hx => by
     obtain ⟨⟨t1, t2, e⟩, od, e2⟩ := h2 x hx
     exact ⟨⟨t1, t2, k _ _ (List.mem_append_left _ (List.mem_map.mpr ⟨x, hx, rfl⟩)) e⟩, od, k _ _ (List.mem_append_right _ (List.mem_map.mpr ⟨x, hx, rfl⟩)) e2⟩⟩⟩
noncomputable def lsR (D : List Nat) (ad : Nat → Addr) (ct : Nat → List Nat) : Rg :=
  ⟨fun a => a ∈ D.map ad, fun h => (D.map ad).Nodup ∧ ∀ k ∈ D, ∃ vs n, IsL h (ad k) vs.toArray n ∧ IntsAre vs (asI (ct k)),
   fun _ _ k ⟨h1, h2⟩ => ⟨h1, fun x hx => by
     obtain ⟨vs, n, e, r⟩ := h2 x hx
     exact ⟨vs, n, k _ _ (List.mem_map.mpr ⟨x, hx, rfl⟩) e, r⟩⟩⟩
theorem map_inj {D : List Nat} {f : Nat → Addr} (nd : (D.map f).Nodup) {a b : Nat} (ha : a ∈ D) (hb : b ∈ D) (e : f a = f b) : a = b := by
  induction D with
  | nil => cases ha
  | cons x r ih =>
    rw [List.map_cons, List.nodup_cons] at nd
    rcases List.mem_cons.mp ha with ha1 | ha1
    · rcases List.mem_cons.mp hb with hb1 | hb1
      · exact ha1.trans hb1.symm
      · exact absurd (List.mem_map.mpr ⟨b, hb1, ha1 ▸ e.symm⟩) nd.1
    · rcases List.mem_cons.mp hb with hb1 | hb1
      · exact absurd (List.mem_map.mpr ⟨a, ha1, hb1 ▸ e⟩) nd.1
      · exact ih nd.2 ha1 hb1

section
variable {prog : Program} {w : World} {A : Around} {E : Value → Shared → Prop} {P : Params} {h₀ : Heap} {X : Addr → Prop} {s₀ s : Shared} {env : Env} {loc : List (Str × Value)} {rs rs' : List Rg}
  {D : List Nat} {info idc succ : Nat → Addr} {np : Nat → Int} {k : Nat}
theorem ir_node {expr : Bool} {Q : Value → Shared → Prop} (B : Base P h₀) (F : Fm h₀ X s₀ env loc rs s) (hm : irR D info idc succ np ∈ rs) (hk : k ∈ D) (h : ∀ t s', Fm h₀ X s₀ env loc rs s' → Q (.int (k : Nat) t) s') :
    wpAny (model prog w) A (getAttr (.ref (info k)) "node" expr) Q E s := by
  obtain ⟨⟨t1, t2, e⟩, od⟩ := (F.rg _ hm).2 k hk
  exact slt_get B F e od (slt_node P) rfl rfl fun s' F' => h t1 s' F'
theorem ir_np {expr : Bool} {Q : Value → Shared → Prop} (B : Base P h₀) (F : Fm h₀ X s₀ env loc rs s) (hm : irR D info idc succ np ∈ rs) (hk : k ∈ D) (h : ∀ t s', Fm h₀ X s₀ env loc rs s' → Q (.int (np k) t) s') :
    wpAny (model prog w) A (getAttr (.ref (info k)) "npredecessors" expr) Q E s := by
  obtain ⟨⟨t1, t2, e⟩, od⟩ := (F.rg _ hm).2 k hk
  exact slt_get B F e od (slt_np P) rfl rfl fun s' F' => h t2 s' F'
theorem ir_succ {expr : Bool} {Q : Value → Shared → Prop} (B : Base P h₀) (F : Fm h₀ X s₀ env loc rs s) (hm : irR D info idc succ np ∈ rs) (hk : k ∈ D) (h : ∀ s', Fm h₀ X s₀ env loc rs s' → Q (.ref (succ k)) s') :
    wpAny (model prog w) A (getAttr (.ref (info k)) "successors" expr) Q E s := by
  obtain ⟨⟨t1, t2, e⟩, od⟩ := (F.rg _ hm).2 k hk
  exact slt_get B F e od (slt_succ P) rfl rfl fun s' F' => h s' F'
theorem ir_set {v : Int} {t : Tok} {Q : Unit → Shared → Prop} (B : Base P h₀) (F : Fm h₀ X s₀ env loc rs s) (up : UpdR (irR D info idc succ np) (irR D info idc succ (upd np k v)) rs rs') (hk : k ∈ D) (hw : ∀ a, (irR D info idc succ np).foot a → Wr X s₀ a)
    (h : ∀ s', Fm h₀ X s₀ env loc rs' s' → Q () s') : wpAny (model prog w) A (setAttr (.ref (info k)) "npredecessors" (.int v t)) Q E s := by
  obtain ⟨nd, H⟩ := F.rg _ up.mem
  obtain ⟨⟨t1, t2, e⟩, od⟩ := H k hk
  have hf : (irR D info idc succ np).foot (info k) := List.mem_append_left _ (List.mem_map.mpr ⟨k, hk, rfl⟩)
  refine slt_set B F up rfl hf (hw _ hf) e od (slt_np P) (by decide) (fun h' kp e2 => ⟨nd, fun x hx => ?_⟩) h
  rw [List.nodup_append] at nd
  have hne : idc x ≠ info k := fun q => nd.2.2 (info k) (List.mem_map.mpr ⟨k, hk, rfl⟩) (idc x) (List.mem_map.mpr ⟨x, hx, rfl⟩) q.symm
  refine ⟨?_, ?_⟩
  · by_cases q : x = k
    · subst q; rw [upd_same]; exact ⟨t1, t, e2⟩
    · rw [upd_ne _ _ q]
      obtain ⟨⟨u1, u2, e3⟩, _⟩ := H x hx
      exact ⟨u1, u2, kp _ _ (fun z => q (map_inj nd.1 hx hk z)) (List.mem_append_left _ (List.mem_map.mpr ⟨x, hx, rfl⟩)) e3⟩
  · obtain ⟨_, o, e3⟩ := H x hx
    exact ⟨o, kp _ _ hne (List.mem_append_right _ (List.mem_map.mpr ⟨x, hx, rfl⟩)) e3⟩
end
end
end

section -- S1
open PySem PySem.Calls PySem.W PyProof.Rows
set_option Elab.async false
set_option maxRecDepth 100000
set_option linter.unusedVariables false
noncomputable section



theorem fn_niinit {P : Params} {h₀ : Heap} (B : Base P h₀) : FnOk h₀ 50 (fnOf 50) (pm 7 1) :=
  fnOk B 50 (by kernel_rfl) (by kernel_rfl) (by kernel_rfl) (by kernel_rfl) (by kernel_rfl) (by kernel_rfl)
theorem sc_niinit {P : Params} {h₀ : Heap} (B : Base P h₀) (L : Addr) : Sc h₀ (fenv (fnOf 50) 50 L) ["self", "node"] [] :=
  sc_of B (by kernel_rfl) (by kernel_rfl) (by kernel_rfl) (by kernel_rfl)
theorem fn_tsinit {P : Params} {h₀ : Heap} (B : Base P h₀) : FnOk h₀ 87 (fnOf 87) (pm 9 0) :=
  fnOk B 87 (by kernel_rfl) (by kernel_rfl) (by kernel_rfl) (by kernel_rfl) (by kernel_rfl) (by kernel_rfl)
theorem sc_tsinit {P : Params} {h₀ : Heap} (B : Base P h₀) (L : Addr) : Sc h₀ (fenv (fnOf 87) 87 L) ["self", "graph"] [] :=
  sc_of B (by kernel_rfl) (by kernel_rfl) (by kernel_rfl) (by kernel_rfl)
theorem fn_gni {P : Params} {h₀ : Heap} (B : Base P h₀) : FnOk h₀ 94 (fnOf 94) (pm 9 1) :=
  fnOk B 94 (by kernel_rfl) (by kernel_rfl) (by kernel_rfl) (by kernel_rfl) (by kernel_rfl) (by kernel_rfl)
theorem sc_gni {P : Params} {h₀ : Heap} (B : Base P h₀) (L : Addr) : Sc h₀ (fenv (fnOf 94) 94 L) ["self", "node", "result"] [("_NodeInfo", .ref 54)] :=
  sc_of B (by kernel_rfl) (by kernel_rfl) (by kernel_rfl) (by kernel_rfl)
theorem fn_add {P : Params} {h₀ : Heap} (B : Base P h₀) : FnOk h₀ 101 (fnOf 101) (pm 9 2) :=
  fnOk B 101 (by kernel_rfl) (by kernel_rfl) (by kernel_rfl) (by kernel_rfl) (by kernel_rfl) (by kernel_rfl)
theorem sc_add {P : Params} {h₀ : Heap} (B : Base P h₀) (L : Addr) : Sc h₀ (fenv (fnOf 101) 101 L) ["self", "node", "predecessors", "nodeinfo", "pred", "pred_info"] [("len", .builtin "len")] :=
  sc_of B (by kernel_rfl) (by kernel_rfl) (by kernel_rfl) (by kernel_rfl)
theorem fn_prep {P : Params} {h₀ : Heap} (B : Base P h₀) : FnOk h₀ 106 (fnOf 106) (pm 9 3) :=
  fnOk B 106 (by kernel_rfl) (by kernel_rfl) (by kernel_rfl) (by kernel_rfl) (by kernel_rfl) (by kernel_rfl)
theorem sc_prep {P : Params} {h₀ : Heap} (B : Base P h₀) (L : Addr) : Sc h₀ (fenv (fnOf 106) 106 L) ["self", "cycle"] [] :=
  sc_of B (by kernel_rfl) (by kernel_rfl) (by kernel_rfl) (by kernel_rfl)
theorem fn_rdy {P : Params} {h₀ : Heap} (B : Base P h₀) : FnOk h₀ 113 (fnOf 113) (pm 9 4) :=
  fnOk B 113 (by kernel_rfl) (by kernel_rfl) (by kernel_rfl) (by kernel_rfl) (by kernel_rfl) (by kernel_rfl)
theorem sc_rdy {P : Params} {h₀ : Heap} (B : Base P h₀) (L : Addr) : Sc h₀ (fenv (fnOf 113) 113 L) ["self", "result", "n2i", "node"] [("tuple", .type "tuple"), ("len", .builtin "len"), ("_NODE_OUT", .int (-1) 221)] :=
  sc_of B (by kernel_rfl) (by kernel_rfl) (by kernel_rfl) (by kernel_rfl)
theorem fn_act {P : Params} {h₀ : Heap} (B : Base P h₀) : FnOk h₀ 120 (fnOf 120) (pm 9 5) :=
  fnOk B 120 (by kernel_rfl) (by kernel_rfl) (by kernel_rfl) (by kernel_rfl) (by kernel_rfl) (by kernel_rfl)
theorem sc_act {P : Params} {h₀ : Heap} (B : Base P h₀) (L : Addr) : Sc h₀ (fenv (fnOf 120) 120 L) ["self"] [("bool", .type "bool")] :=
  sc_of B (by kernel_rfl) (by kernel_rfl) (by kernel_rfl) (by kernel_rfl)
theorem fn_done {P : Params} {h₀ : Heap} (B : Base P h₀) : FnOk h₀ 134 (fnOf 134) (pm 9 7) :=
  fnOk B 134 (by kernel_rfl) (by kernel_rfl) (by kernel_rfl) (by kernel_rfl) (by kernel_rfl) (by kernel_rfl)
theorem sc_done {P : Params} {h₀ : Heap} (B : Base P h₀) (L : Addr) : Sc h₀ (fenv (fnOf 134) 134 L) ["self", "nodes", "n2i", "node", "nodeinfo", "stat", "successor", "successor_info"] [("_NODE_OUT", .int (-1) 221), ("_NODE_DONE", .int (-2) 224)] :=
  sc_of B (by kernel_rfl) (by kernel_rfl) (by kernel_rfl) (by kernel_rfl)
theorem fn_cyc {P : Params} {h₀ : Heap} (B : Base P h₀) : FnOk h₀ 141 (fnOf 141) (pm 9 8) :=
  fnOk B 141 (by kernel_rfl) (by kernel_rfl) (by kernel_rfl) (by kernel_rfl) (by kernel_rfl) (by kernel_rfl)
theorem sc_cyc {P : Params} {h₀ : Heap} (B : Base P h₀) (L : Addr) : Sc h₀ (fenv (fnOf 141) 141 L) ["self", "n2i", "stack", "itstack", "seen", "node2stacki", "node"] [("set", .type "set"), ("iter", .builtin "iter"), ("len", .builtin "len"), ("StopIteration", .type "StopIteration")] :=
  sc_of B (by kernel_rfl) (by kernel_rfl) (by kernel_rfl) (by kernel_rfl)

set_option maxHeartbeats 4000000
theorem niinit_ok {prog : Program} {w : World} {P : Params} {h₀ : Heap} (B : Base P h₀) {A : Around} {s : Shared} {x dx : Addr} {k : Int} {t : Tok} {R : Result → Shared → Prop}
    (room : A.depth < 900) (H : Hands h₀ [slR x dx #[]] s)
    (h : ∀ s' sc t', Md (slR x dx #[]).foot s s' → s.heap.get? sc = none → Hands h₀ [listR sc [], slR x dx #[some (.int k t), some (.int 0 t'), some (.ref sc)]] s' → R (.ok (.ret .none)) s') :
    codeAny (model prog w) A (.call (.ref 50) ⟨[.ref x, .int k t], []⟩) R s := by
  refine enterR (X := (slR x dx #[]).foot) H (fn_niinit B) (Nat.lt_trans room (by decide)) (by decide +kernel) (by kernel_rfl) (binds := [("self", .ref x), ("node", .int k t)]) (Looks.of_pure (by kernel_rfl)) (names := ["self", "node"]) rfl (by decide +kernel) ?_
  intro L s1 F
  have S := sc_niinit B L
  have hx : ∀ {sl : Array (Option Value)} {rs : List Rg} {loc : List (Str × Value)} {s' : Shared}, Fm h₀ (slR x dx #[]).foot s (fenv (fnOf 50) 50 L) loc rs s' → slR x dx sl ∈ rs → s'.heap.get? x = some ⟨.ref 54, some dx, .plain, sl⟩ ∧ (∃ od, s'.heap.get? dx = some od) ∧ x ≠ dx := fun F hm => let ⟨h1, h2, h3⟩ := F.rg _ hm; ⟨h2, h3, h1⟩
  refine x_assignAttr ?_
  kfm_turns
  have F1 := F
  refine slt_set (r' := slR x dx #[some (.int k t)]) B F1 .hit rfl (.inl rfl) (.inl (.inl rfl)) (hx F1 (.head _)).1 (hx F1 (.head _)).2.1 (slt_node P) (by decide) (fun h' kp e => ⟨(hx F1 (.head _)).2.2, e, ?_⟩) ?_
  · obtain ⟨od, e3⟩ := (hx F1 (.head _)).2.1
    exact ⟨od, kp _ _ (fun q => (hx F1 (.head _)).2.2 q.symm) (.inr rfl) e3⟩
  intro s2 F2
  refine x_assignAttr ?_
  kfm_turns
  rename_i t3 s3 F3
  refine slt_set (r' := slR x dx #[some (.int k t), some (.int 0 t3)]) B F3 .hit rfl (.inl rfl) (.inl (.inl rfl)) (hx F3 (.head _)).1 (hx F3 (.head _)).2.1 (slt_np P) (by decide) (fun h' kp e => ⟨(hx F3 (.head _)).2.2, e, ?_⟩) ?_
  · obtain ⟨od, e3⟩ := (hx F3 (.head _)).2.1
    exact ⟨od, kp _ _ (fun q => (hx F3 (.head _)).2.2 q.symm) (.inr rfl) e3⟩
  intro s4 F4
  refine x_assignAttr ?_
  refine ev_list ?_
  kfm_turns
  refine nl_list F4 (by simp) ?_; intro sc s5 hsc F5
  kfm_turns
  refine slt_set (r' := slR x dx #[some (.int k t), some (.int 0 t3), some (.ref sc)]) B F5 (.skip .hit) rfl (.inl rfl) (.inl (.inl rfl)) (hx F5 (.tail _ (.head _))).1 (hx F5 (.tail _ (.head _))).2.1 (slt_succ P) (by decide) (fun h' kp e => ⟨(hx F5 (.tail _ (.head _))).2.2, e, ?_⟩) ?_
  · obtain ⟨od, e3⟩ := (hx F5 (.tail _ (.head _))).2.1
    exact ⟨od, kp _ _ (fun q => (hx F5 (.tail _ (.head _))).2.2 q.symm) (.inr rfl) e3⟩
  intro s6 F6
  kfm_turns
  exact h _ sc t3 F6.mod hsc (F6.hands (List.Sublist.refl _))
theorem makes54 (P : Params) : makesIn (KH P) 54 = true := by kernel_rfl
theorem find54 (P : Params) : findIn (KH P) (.ref 54) "__init__" = some (some (.ref 50)) := by kernel_rfl
theorem typ50 (P : Params) : typeIn (KH P) (.ref 50) = some (.type "function") := by kernel_rfl
theorem mk_ni {prog : Program} {w : World} {P : Params} {h₀ : Heap} (B : Base P h₀) {A : Around} {E : Value → Shared → Prop} {X : Addr → Prop} {s₀ s : Shared} {env : Env} {loc : List (Str × Value)} {rs : List Rg} {k : Int} {t : Tok} {Q : Value → Shared → Prop}
    (room : A.depth < 899) (F : Fm h₀ X s₀ env loc rs s)
    (h : ∀ x dx sc t' s', s₀.heap.get? x = none → s₀.heap.get? dx = none → s₀.heap.get? sc = none → Fm h₀ X s₀ env loc (listR sc [] :: slR x dx #[some (.int k t), some (.int 0 t'), some (.ref sc)] :: rs) s' → Q (.ref x) s') :
    wpAny (model prog w) A (call (.ref 54) [.int k t]) Q E s := by
  obtain ⟨m, F0, hv⟩ := F.fr
  refine wpAny_call (make_K F0 (allN_ok _ _) (F.kin B) (makes54 P) (find54 P) (typ50 P) fun x dx h' F' N' hl hlt => ?_)
  have hne : x ≠ dx := Nat.ne_of_gt hlt
  obtain ⟨d1, d2, G⟩ := F.backNew2 (t := s.toks) (r := slR x dx #[]) hv F' N' hl hlt (fun a f => f) ⟨hne, (N' _ (.head _)).1, _, (N' _ (.tail _ (.head _))).1⟩
  refine niinit_ok B (by rw [depth_under_make]; lia) (G.hands (by exact (List.Sublist.cons_cons _ (List.nil_sublist _)))) ?_
  intro s' sc t' md hsc H
  refine ⟨rfl, ?_⟩
  have hsc' : s.heap.get? sc = none := by
    cases q : s.heap.get? sc with
    | none => rfl
    | some o =>
      have : ∃ o', h'.get? sc = some o' := by
        by_cases e : sc = env.locals
        · obtain ⟨oL, _, _, eL, _⟩ := F'.ns
          exact ⟨oL, e ▸ eL⟩
        · exact ⟨o, (N' (sc, o) (.tail _ (.tail _ (allN_mem.mpr ⟨q, e⟩)))).1⟩
      obtain ⟨o', e'⟩ := this
      have e2 : h'.get? sc = none := hsc
      rw [e2] at e'; cases e'
  refine h x dx sc t' s' (F.mod.none_of d1) (F.mod.none_of d2) (F.mod.none_of hsc') (G.next (big := [slR x dx #[]]) (big' := [listR sc [], slR x dx #[some (.int k t), some (.int 0 t'), some (.ref sc)]]) (.refl _) ⟨md.wide fun a f => .inl ⟨_, .head _, f⟩, H, fun r hr a f => ?_⟩ fun r hr a f => ?_)
  · rcases List.mem_cons.mp hr with rfl | hr
    · exact .inr (by rw [show a = sc from f]; exact hsc)
    · rw [List.mem_singleton.mp hr] at f
      exact .inl ⟨_, .head _, f⟩
  · rw [List.mem_singleton.mp hr] at f
    rcases f with rfl | rfl
    · exact .inr (F.mod.none_of d1)
    · exact .inr (F.mod.none_of d2)
end
end

section -- S2
open PySem PySem.Calls PySem.W PyProof.Rows
set_option Elab.async false
set_option maxRecDepth 100000
set_option linter.unusedVariables false
noncomputable section



noncomputable def tsF (d : Addr) (rv : Value) (po nf : Int) (t1 t2 : Tok) : List (Str × Value) := [("_node2info", .ref d), ("_ready_nodes", rv), ("_npassedout", .int po t1), ("_nfinished", .int nf t2)]
theorem ts_n2i (d : Addr) (rv : Value) (po nf : Int) (t1 t2 : Tok) : (tsF d rv po nf t1 t2).lookup ("_node2info" : Str) = some (.ref d) := by kernel_rfl
theorem ts_rdy (d : Addr) (rv : Value) (po nf : Int) (t1 t2 : Tok) : (tsF d rv po nf t1 t2).lookup ("_ready_nodes" : Str) = some rv := by kernel_rfl
theorem ts_out (d : Addr) (rv : Value) (po nf : Int) (t1 t2 : Tok) : (tsF d rv po nf t1 t2).lookup ("_npassedout" : Str) = some (.int po t1) := by kernel_rfl
theorem ts_fin (d : Addr) (rv : Value) (po nf : Int) (t1 t2 : Tok) : (tsF d rv po nf t1 t2).lookup ("_nfinished" : Str) = some (.int nf t2) := by kernel_rfl
theorem ts_prdy (d : Addr) (rv v : Value) (po nf : Int) (t1 t2 : Tok) : putF "_ready_nodes" v (tsF d rv po nf t1 t2) = tsF d v po nf t1 t2 := by kernel_rfl
theorem ts_pout (d : Addr) (rv : Value) (po nf v : Int) (t1 t2 t : Tok) : putF "_npassedout" (.int v t) (tsF d rv po nf t1 t2) = tsF d rv v nf t t2 := by kernel_rfl
theorem ts_pfin (d : Addr) (rv : Value) (po nf v : Int) (t1 t2 t : Tok) : putF "_nfinished" (.int v t) (tsF d rv po nf t1 t2) = tsF d rv po v t1 t := by kernel_rfl
theorem Base.three {P : Params} {h₀ : Heap} (B : Base P h₀) : ∃ o, h₀.get? 3 = some o := by
  obtain ⟨mg, mb, ⟨o, _, _, e, _⟩, _⟩ := B.g
  exact ⟨o, e⟩

set_option maxHeartbeats 4000000
theorem tsinit_ok {prog : Program} {w : World} {P : Params} {h₀ : Heap} (B : Base P h₀) {A : Around} {s : Shared} {T dx : Addr} {R : Result → Shared → Prop}
    (room : A.depth < 900) (H : Hands h₀ [insR w 151 T dx []] s)
    (h : ∀ s' d t1 t2, Md (insR w 151 T dx []).foot s s' → s.heap.get? d = none → Hands h₀ [dicR (intKind prog w) d [], insR w 151 T dx (tsF d .none 0 0 t1 t2)] s' → R (.ok (.ret .none)) s') :
    codeAny (model prog w) A (.call (.ref 87) ⟨[.ref T], []⟩) R s := by
  refine enterR (X := (insR w 151 T dx []).foot) H (fn_tsinit B) (Nat.lt_trans room (by decide)) (by decide +kernel) (by kernel_rfl) (binds := [("self", .ref T), ("graph", .none)]) (Looks.of_peek (B.kin.keeps H.base) (by kernel_rfl)) (names := ["self", "graph"]) rfl (by decide +kernel) ?_
  intro L s1 F
  have S := sc_tsinit B L
  have hw : ∀ fs a, (insR w 151 T dx fs).foot a → Wr (insR w 151 T dx []).foot s a := fun fs a f => .inl f
  refine x_assignAttr ?_
  refine ev_dicE (intKind prog w) B.three F ?_; intro d s2 hd F2
  kfm_turns
  refine at_set B F2 (.skip .hit) (hw _) (fld_n2i P) (by simp) ?_; intro s3 F3
  refine x_assignAttr ?_
  kfm_turns
  refine at_set B F3 (.skip .hit) (hw _) (fld_rdy P) (by simp [putF]) ?_; intro s4 F4
  refine x_assignAttr ?_
  kfm_turns
  refine at_set B (by assumption) (.skip .hit) (hw _) (fld_out P) (by simp [putF]; split <;> simp) ?_; intro s5 F5
  refine x_assignAttr ?_
  kfm_turns
  rename_i t6 s6 F6
  refine at_set B F6 (.skip .hit) (hw _) (fld_fin P) (Nat.le_trans (putF_len ..) (Nat.le_trans (Nat.succ_le_succ (putF_len ..)) (Nat.le_trans (Nat.succ_le_succ (Nat.succ_le_succ (putF_len ..))) (by decide)))) ?_; intro s7 F7
  refine x_if ?_
  kfm_turns
  refine isnot_none0 ?_
  kfm_turns
  exact h _ d _ _ F7.mod hd (F7.hands (List.Sublist.refl _))
theorem makes151 (P : Params) : makesIn (KH P) 151 = true := by kernel_rfl
theorem find151 (P : Params) : findIn (KH P) (.ref 151) "__init__" = some (some (.ref 87)) := by kernel_rfl
theorem typ87 (P : Params) : typeIn (KH P) (.ref 87) = some (.type "function") := by kernel_rfl
theorem mk_ts {prog : Program} {w : World} {P : Params} {h₀ : Heap} (B : Base P h₀) {A : Around} {E : Value → Shared → Prop} {X : Addr → Prop} {s₀ s : Shared} {env : Env} {loc : List (Str × Value)} {rs : List Rg} {Q : Value → Shared → Prop}
    (room : A.depth < 899) (F : Fm h₀ X s₀ env loc rs s)
    (h : ∀ T dx d t1 t2 s', s₀.heap.get? T = none → s₀.heap.get? dx = none → s₀.heap.get? d = none → Fm h₀ X s₀ env loc (dicR (intKind prog w) d [] :: insR w 151 T dx (tsF d .none 0 0 t1 t2) :: rs) s' → Q (.ref T) s') :
    wpAny (model prog w) A (call (.ref 151) []) Q E s := by
  obtain ⟨m, F0, hv⟩ := F.fr
  refine wpAny_call (make_K F0 (allN_ok _ _) (F.kin B) (makes151 P) (find151 P) (typ87 P) fun x dx h' F' N' hl hlt => ?_)
  have hne : x ≠ dx := Nat.ne_of_gt hlt
  obtain ⟨d1, d2, G⟩ := F.backNew2 (t := s.toks) (r := insR w 151 x dx []) hv F' N' hl hlt (fun a f => f) ⟨hne, (N' _ (.head _)).1, [], 0, (N' _ (.tail _ (.head _))).1, .nil⟩
  refine tsinit_ok B (by rw [depth_under_make]; lia) (G.hands (by exact (List.Sublist.cons_cons _ (List.nil_sublist _)))) ?_
  intro s' d t1 t2 md hd H
  refine ⟨rfl, ?_⟩
  have hd' : s.heap.get? d = none := by
    cases q : s.heap.get? d with
    | none => rfl
    | some o =>
      have : ∃ o', h'.get? d = some o' := by
        by_cases e : d = env.locals
        · obtain ⟨oL, _, _, eL, _⟩ := F'.ns
          exact ⟨oL, e ▸ eL⟩
        · exact ⟨o, (N' (d, o) (.tail _ (.tail _ (allN_mem.mpr ⟨q, e⟩)))).1⟩
      obtain ⟨o', e'⟩ := this
      have e2 : h'.get? d = none := hd
      rw [e2] at e'; cases e'
  refine h x dx d t1 t2 s' (F.mod.none_of d1) (F.mod.none_of d2) (F.mod.none_of hd') (G.next (big := [insR w 151 x dx []]) (big' := [dicR (intKind prog w) d [], insR w 151 x dx (tsF d .none 0 0 t1 t2)]) (.refl _) ⟨md.wide fun a f => .inl ⟨_, .head _, f⟩, H, fun r hr a f => ?_⟩ fun r hr a f => ?_)
  · rcases List.mem_cons.mp hr with rfl | hr
    · exact .inr (by rw [show a = d from f]; exact hd)
    · rw [List.mem_singleton.mp hr] at f
      exact .inl ⟨_, .head _, f⟩
  · rw [List.mem_singleton.mp hr] at f
    rcases f with rfl | rfl
    · exact .inr (F.mod.none_of d1)
    · exact .inr (F.mod.none_of d2)
end
end

open PySem PySem.Calls PySem.W PyProof.Rows

local macro_rules | `(tactic| kpc_turns) => `(tactic| first
    | (with_reducible (show wpAny _ _ (eval _ _) _ _ _; first
        | refine ev_meth (pl := _) ?_
        | refine ev_walrus ?_
        | refine ev_attr ?_))
    | (with_reducible (show wpAny _ _ (execs _ _) _ _ _; first
        | refine x_assignAttr ?_
        | refine x_augAttr ?_))
    | (with_reducible (show wpAny _ _ (callWith _ _ _ _ _) _ _ _; first
        | refine cw_mth (by assumption) ?_
        | refine cw_mth0 (by assumption) (by assumption) ?_)))
local macro_rules | `(tactic| kd_subs) => `(tactic| (repeat (first | (with_reducible exact UpdR.hit) | (with_reducible exact RemR.hit) | (with_reducible exact RemL.nil) | (with_reducible apply UpdR.skip) | (with_reducible apply RemR.skip) | (with_reducible apply RemL.cons))))

section -- S3
open PySem PySem.Calls PySem.W PyProof.Rows
set_option Elab.async false
set_option maxRecDepth 100000
set_option linter.unusedVariables false
noncomputable section



section
variable {M : Model} {A : Around} {E : Value → Shared → Prop} {s : Shared} {env : Env}
theorem as_sub {o i : Expr} {pos : Pos} {v : Value} {Q : Unit → Shared → Prop}
    (h : wpAny M A (eval o env) (fun ov s₁ => wpAny M A (eval i env) (fun iv s₂ => wpAny M A (setItem ov iv v) Q E s₂) E s₁) E s) : wpAny M A (assign (.Subscript o i pos) env v) Q E s := by
  rw [assign_Subscript]
  exact wpAny_bind (wpAny_holding (wpAny_mono h (fun ov s₁ h₁ => wpAny_bind (wpAny_holding (wpAny_mono h₁ (fun iv s₂ h₂ => wpAny_bind (wpAny_standAt (wpAny_bind (wpAny_holding (wpAny_mono h₂ (fun _ s₃ h₃ => wpAny_releaseD h₃) fun _ _ x => x))))) fun _ _ x => x))) fun _ _ x => x))
theorem x_assign2 {t₁ t₂ value : Expr} {pos : Pos} {rest : List Stmt} {Q : Flow → Shared → Prop}
    (h : wpAny M A (eval value env) (fun v s₁ => wpAny M A (assign t₁ env v) (fun _ s₂ => wpAny M A (assign t₂ env v) (fun _ s₃ => wpAny M A (execs rest env) Q E s₃) E s₂) E s₁) E s)
    (he : (assignEach [t₁, t₂] env).map (·.2) = [assign t₁ env, assign t₂ env] := by with_unfolding_all rfl)
    (hw : swappedStores [t₁, t₂] value env = pure none := by with_unfolding_all rfl) :
    wpAny M A (execs (.Assign [t₁, t₂] value pos :: rest) env) Q E s := wpAny_execs_cons (wpAny_Assign_two h he hw)
end

/-- the sorter's table of nodes -/
noncomputable def nk (D : List Nat) (info : Nat → Addr) : List (Int × Value) := D.map fun (k : Nat) => ((k : Int), Value.ref (info k))
theorem nk_in {D : List Nat} {info : Nat → Addr} {k : Nat} (h : k ∈ D) : valueAt (nk D info) (k : Int) = some (.ref (info k)) := by
  induction D with
  | nil => cases h
  | cons x r ih =>
    unfold valueAt nk
    rw [List.map_cons, List.find?_cons]
    by_cases e : x = k
    · subst e; simp
    · have : decide ((x : Int) = (k : Int)) = false := decide_eq_false fun q => e (by lia)
      dsimp only
      rw [this]
      exact ih ((List.mem_cons.mp h).resolve_left fun q => e q.symm)
theorem nk_off {D : List Nat} {info : Nat → Addr} {k : Nat} (h : k ∉ D) : valueAt (nk D info) (k : Int) = none := by
  induction D with
  | nil => rfl
  | cons x r ih =>
    unfold valueAt nk
    rw [List.map_cons, List.find?_cons]
    rw [List.mem_cons, not_or] at h
    have : decide ((x : Int) = (k : Int)) = false := decide_eq_false fun q => h.1 (by lia)
    dsimp only
    rw [this]
    exact ih h.2
theorem nk_len (D : List Nat) (info : Nat → Addr) : (nk D info).length = D.length := by simp [nk]
theorem nk_new {D : List Nat} {info : Nat → Addr} {k : Nat} {x : Addr} (h : k ∉ D) : stored (nk D info) (k : Int) (.ref x) = nk (D ++ [k]) (upd info k x) := by
  have : ¬ ((nk D info).any fun kv => decide (kv.1 = (k : Int))) = true := by
    rw [List.any_eq_true]
    rintro ⟨p, hp, e⟩
    obtain ⟨y, hy, rfl⟩ := List.mem_map.mp hp
    have e2 : (y : Int) = (k : Int) := of_decide_eq_true e
    have : y = k := by lia
    exact h (this ▸ hy)
  unfold stored
  rw [if_neg this]
  unfold nk
  rw [List.map_append]
  congr 1
  · refine List.map_congr_left fun y hy => ?_
    rw [upd_ne _ _ fun (e : y = k) => h (e ▸ hy)]
  · simp [upd_same]

theorem sub_int {prog : Program} {w : World} {A : Around} {E : Value → Shared → Prop} {h₀ : Heap} {X : Addr → Prop} {s₀ s : Shared} {env : Env} {loc : List (Str × Value)} {rs : List Rg} {value slice : Expr} {d : Addr} {kvs : List (Int × Value)} {k : Int} {t : Tok} {v : Value} {Q : Value → Shared → Prop}
    (F : Fm h₀ X s₀ env loc rs s) (hm : dicR (intKind prog w) d kvs ∈ rs) (hv : valueAt kvs k = some v) (h : ∀ s', Fm h₀ X s₀ env loc rs s' → Q v s')
    (hs : subscripted slice false (.ref d) (.int k t) = operate [.ref d, .int k t] (getItem (.ref d) (.int k t)) := by with_unfolding_all rfl) (hg : ∀ r, PySem.letTemporaryGo value (.ref d) r = pure () := by intro _; with_unfolding_all rfl) :
    wpAny (model prog w) A (PyProof.Rows.subscriptTail value slice (.ref d) (.int k t)) Q E s :=
  sub_dic F hm (intKind_is _ _ _ _) hv h hs hg

set_option maxHeartbeats 4000000
section
variable {prog : Program} {w : World} {P : Params} {h₀ : Heap} {A : Around} {E : Value → Shared → Prop} {s : Shared} {T dx d : Addr} {fs : List (Str × Value)} {D : List Nat} {info idc succ : Nat → Addr} {np : Nat → Int} {sl : Nat → List Nat} {k : Nat} {t : Tok} {Q : Value → Shared → Prop}
theorem gni_hit (B : Base P h₀) (room : A.depth < 898) (hf : fs.lookup ("_node2info" : Str) = some (.ref d)) (H : Hands h₀ [dicR (intKind prog w) d (nk D info), insR w 151 T dx fs] s) (hk : k ∈ D)
    (h : ∀ s', Md NoX s s' → Q (.ref (info k)) s') : wpAny (model prog w) A (call (.ref 94) [.ref T, .int (k : Nat) t]) Q E s := by
  refine enter (X := NoX) H (fn_gni B) (Nat.lt_trans room (by decide)) (by decide +kernel) (by kernel_rfl) (binds := [("self", .ref T), ("node", .int (k : Nat) t)]) (by kernel_rfl) (names := ["self", "node"]) rfl (by decide +kernel) ?_
  intro L s1 F
  have S := sc_gni B L
  refine x_if ?_
  kfm_turns
  refine at_get B F (by kqd_in) (fld_n2i P) hf rfl ?_; intro s2 F2
  refine meth_dic F2 (by kqd_in) PySem.F.slot_dict_get PySem.F.type_dict_get ?_
  kfm_turns
  refine get1_dic F2 (by kqd_in) (intKind_is _ _ _ _) ?_; intro s3 F3
  rw [nk_in hk, Option.getD_some]
  kfm_turns
  refine is_none ?_
  kfm_turns
  exact h _ (Fm.mod (by assumption))
theorem gni_new (B : Base P h₀) (room : A.depth < 898) (hf : fs.lookup ("_node2info" : Str) = some (.ref d)) (H : Hands h₀ [dicR (intKind prog w) d (nk D info), insR w 151 T dx fs] s) (hk : k ∉ D) (hz : D.length ≤ 2 ^ 19)
    (h : ∀ s' x dx' sc t', s.heap.get? x = none → s.heap.get? dx' = none → s.heap.get? sc = none →
      Next h₀ [dicR (intKind prog w) d (nk D info), insR w 151 T dx fs] [listR sc [], slR x dx' #[some (.int (k : Nat) t), some (.int 0 t'), some (.ref sc)], dicR (intKind prog w) d (nk (D ++ [k]) (upd info k x)), insR w 151 T dx fs] s s' → Q (.ref x) s') :
    wpAny (model prog w) A (call (.ref 94) [.ref T, .int (k : Nat) t]) Q E s := by
  refine enter (X := (· = d)) H (fn_gni B) (Nat.lt_trans room (by decide)) (by decide +kernel) (by kernel_rfl) (binds := [("self", .ref T), ("node", .int (k : Nat) t)]) (by kernel_rfl) (names := ["self", "node"]) rfl (by decide +kernel) ?_
  intro L s1 F
  have S := sc_gni B L
  have wd : Wr (· = d) s d := .inl rfl
  refine x_if ?_
  kfm_turns
  refine at_get B F (by kqd_in) (fld_n2i P) hf rfl ?_; intro s2 F2
  refine meth_dic F2 (by kqd_in) PySem.F.slot_dict_get PySem.F.type_dict_get ?_
  kfm_turns
  refine get1_dic F2 (by kqd_in) (intKind_is _ _ _ _) ?_; intro s3 F3
  rw [nk_off hk, Option.getD_none]
  kfm_turns
  refine is_none0 ?_
  kfm_turns
  refine x_assign2 ?_
  kfm_turns
  refine cw_cls B (by kernel_rfl) ?_
  kfm_turns
  refine mk_ni B (show A.depth + 1 < 899 by lia) (by assumption) ?_
  intro x dx' sc t' s5 hx hdx hsc F5
  refine as_sub ?_
  kfm_turns
  refine at_get B F5 (by kqd_in) (fld_n2i P) hf rfl ?_; intro s6 F6
  kfm_turns
  refine set_dic F6 (.skip (.skip .hit)) wd (intKind_is _ _ _ _) (by rw [nk_len]; lia) ?_; intro s7 F7
  rw [nk_new hk] at F7
  refine as_name ?_
  kfm_turns
  refine h _ x dx' sc t' hx hdx hsc ⟨(Fm.mod (by assumption)).wide fun a f => .inl ⟨_, .head _, f⟩, Fm.hands (by assumption) (List.Sublist.refl _), fun r hr a f => ?_⟩
  rcases List.mem_cons.mp hr with rfl | hr
  · exact .inr (by rw [show a = sc from f]; exact hsc)
  rcases List.mem_cons.mp hr with rfl | hr
  · rcases f with rfl | rfl
    · exact .inr hx
    · exact .inr hdx
  rcases List.mem_cons.mp hr with rfl | hr
  · exact .inl ⟨_, .head _, f⟩
  · rw [List.mem_singleton.mp hr] at f; exact .inl ⟨_, .tail _ (.head _), f⟩
end
end
end

section -- S4
open PySem PySem.Calls PySem.W PyProof.Rows
set_option Elab.async false
set_option maxRecDepth 100000
set_option linter.unusedVariables false
noncomputable section

theorem RemR.perm {r : Rg} {l l' : List Rg} (u : RemR r l l') : l.Perm (r :: l') := by
  induction u with
  | hit => exact .refl _
  | skip _ ih => exact (ih.cons _).trans (List.Perm.swap _ _ _)
theorem RemL.perm {l m rest : List Rg} (h : RemL l m rest) : l.Perm (m ++ rest) := by
  induction h with
  | nil => exact .refl _
  | cons u _ ih => exact u.perm.trans (ih.cons _)
theorem Fm.nx {h₀ : Heap} {X : Addr → Prop} {s₀ s s' : Shared} {env : Env} {loc : List (Str × Value)} {rs big big' rest : List Rg} (F : Fm h₀ X s₀ env loc rs s) (n : Next h₀ big big' s s') (u : RemL rs big rest) (hw : ∀ r ∈ big, ∀ a, r.foot a → Wr X s₀ a) : Fm h₀ X s₀ env loc (big' ++ rest) s' :=
  F.next u.perm n hw



/-! a new node's record joins the others -/
section
variable {prog : Program} {w : World} {P : Params} {h₀ : Heap} {X : Addr → Prop} {A : Around} {E : Value → Shared → Prop} {s₀ s : Shared} {env : Env} {loc : List (Str × Value)} {rs rs' rs1 : List Rg} {D : List Nat} {info idc succ : Nat → Addr} {np : Nat → Int} {sl : Nat → List Nat} {k : Nat}
theorem map_upd {D : List Nat} {f : Nat → Addr} {k : Nat} {x : Addr} (h : k ∉ D) : D.map (upd f k x) = D.map f := List.map_congr_left fun y hy => upd_ne _ _ fun (e : y = k) => h (e ▸ hy)
theorem Fm.irNew {x dx sc : Addr} {t1 t2 : Tok} {n : Int} (F : Fm h₀ X s₀ env loc rs s) (hk : k ∉ D) (v : RemR (slR x dx #[some (.int (k : Nat) t1), some (.int n t2), some (.ref sc)]) rs rs1)
    (u : UpdR (irR D info idc succ np) (irR (D ++ [k]) (upd info k x) (upd idc k dx) (upd succ k sc) (upd np k n)) rs1 rs') : Fm h₀ X s₀ env loc rs' s := by
  have em : (D ++ [k]).map (upd info k x) = D.map info ++ [x] := by rw [List.map_append, map_upd hk]; simp [upd_same]
  have ed : (D ++ [k]).map (upd idc k dx) = D.map idc ++ [dx] := by rw [List.map_append, map_upd hk]; simp [upd_same]
  refine F.merge v u (fun a f => ?_) fun ⟨h1, h2, h3⟩ ⟨g1, g2⟩ dj => ⟨?_, fun y hy => ?_⟩
  · have f' : a ∈ (D ++ [k]).map (upd info k x) ++ (D ++ [k]).map (upd idc k dx) := f
    rw [em, ed] at f'
    simp only [List.mem_append, List.mem_singleton] at f'
    rcases f' with (f' | f') | f' | f'
    · exact .inr (List.mem_append_left _ f')
    · exact .inl (.inl f')
    · exact .inr (List.mem_append_right _ f')
    · exact .inl (.inr f')
  · rw [em, ed]
    have x1 : x ∉ D.map info ++ D.map idc := fun q => dj x (.inl rfl) q
    have x2 : dx ∉ D.map info ++ D.map idc := fun q => dj dx (.inr rfl) q
    rw [List.mem_append, not_or] at x1 x2
    rw [List.nodup_append] at g1 ⊢
    refine ⟨?_, ?_, ?_⟩
    · rw [List.nodup_append]; exact ⟨g1.1, by simp, fun a ha b hb e => x1.1 (by simp at hb; rw [← hb, ← e]; exact ha)⟩
    · rw [List.nodup_append]; exact ⟨g1.2.1, by simp, fun a ha b hb e => x2.2 (by simp at hb; rw [← hb, ← e]; exact ha)⟩
    · intro a ha b hb e
      simp only [List.mem_append, List.mem_singleton] at ha hb
      rcases ha with ha | ha <;> rcases hb with hb | hb
      · exact g1.2.2 a ha b hb e
      · exact x2.1 (by rw [← hb, ← e]; exact ha)
      · exact x1.2 (by rw [← ha, e]; exact hb)
      · exact h1 (by rw [← ha, e, hb])
  · rcases List.mem_append.mp hy with hy | hy
    · have hne : y ≠ k := fun e => hk (e ▸ hy)
      rw [upd_ne _ _ hne, upd_ne _ _ hne, upd_ne _ _ hne, upd_ne _ _ hne]
      exact g2 y hy
    · rw [List.mem_singleton.mp hy, upd_same, upd_same, upd_same, upd_same]
      exact ⟨⟨t1, t2, h2⟩, h3⟩
theorem Fm.lsNew {ad : Nat → Addr} {ct : Nat → List Nat} {l : Addr} {vs : List Value} {ns : List Nat} (F : Fm h₀ X s₀ env loc rs s) (hk : k ∉ D) (v : RemR (listR l vs) rs rs1) (hi : IntsAre vs (asI ns))
    (u : UpdR (lsR D ad ct) (lsR (D ++ [k]) (upd ad k l) (upd ct k ns)) rs1 rs') : Fm h₀ X s₀ env loc rs' s := by
  have em : (D ++ [k]).map (upd ad k l) = D.map ad ++ [l] := by rw [List.map_append, map_upd hk]; simp [upd_same]
  refine F.merge v u (fun a f => ?_) fun ⟨n, h2⟩ ⟨g1, g2⟩ dj => ⟨?_, fun y hy => ?_⟩
  · have f' : a ∈ (D ++ [k]).map (upd ad k l) := f
    rw [em, List.mem_append, List.mem_singleton] at f'
    exact f'.elim .inr .inl
  · rw [em, List.nodup_append]
    exact ⟨g1, by simp, fun a ha b hb e => dj l rfl (by simp at hb; show l ∈ D.map ad; rw [← hb, ← e]; exact ha)⟩
  · rcases List.mem_append.mp hy with hy | hy
    · have hne : y ≠ k := fun e => hk (e ▸ hy)
      rw [upd_ne _ _ hne, upd_ne _ _ hne]
      exact g2 y hy
    · rw [List.mem_singleton.mp hy, upd_same, upd_same]
      exact ⟨vs, n, h2, hi⟩
/-- one list taken out, put back -/
theorem Fm.lsOut {ad : Nat → Addr} {ct : Nat → List Nat} (F : Fm h₀ X s₀ env loc rs s) (hk : k ∈ D) (u : UpdR (lsR D ad ct) (lsR (D.filter (· ≠ k)) ad ct) rs rs') :
    ∃ vs, IntsAre vs (asI (ct k)) ∧ Fm h₀ X s₀ env loc (listR (ad k) vs :: rs') s := by
  obtain ⟨g1, g2⟩ := F.rg _ u.mem
  obtain ⟨vs, n, h1, h2⟩ := g2 k hk
  have ne : ∀ y ∈ D.filter (· ≠ k), y ≠ k ∧ y ∈ D := fun y hy => by
    obtain ⟨a, b⟩ := List.mem_filter.mp hy
    exact ⟨by simpa using b, a⟩
  refine ⟨vs, h2, F.split u (fun a f => ?_) (fun a f => ?_) (fun a f g => ?_) fun _ => ⟨⟨n, h1⟩, ?_, fun y hy => g2 y (ne y hy).2⟩⟩
  · rw [show a = ad k from f]; exact List.mem_map.mpr ⟨k, hk, rfl⟩
  · obtain ⟨y, hy, rfl⟩ := List.mem_map.mp f
    exact List.mem_map.mpr ⟨y, (ne y hy).2, rfl⟩
  · obtain ⟨y, hy, e⟩ := List.mem_map.mp g
    have f' : a = ad k := f
    exact (ne y hy).1 (map_inj g1 (ne y hy).2 hk (e.trans f'))
  · exact g1.sublist (List.filter_sublist.map _)
theorem Fm.lsIn {ad : Nat → Addr} {ct : Nat → List Nat} {vs : List Value} {ns : List Nat} (F : Fm h₀ X s₀ env loc rs s) (hk : k ∈ D) (hnd : D.Nodup) (v : RemR (listR (ad k) vs) rs rs1) (hi : IntsAre vs (asI ns))
    (u : UpdR (lsR (D.filter (· ≠ k)) ad ct) (lsR D ad (upd ct k ns)) rs1 rs') : Fm h₀ X s₀ env loc rs' s := by
  refine F.merge v u (fun a f => ?_) fun ⟨n, h2⟩ ⟨g1, g2⟩ dj => ⟨?_, fun y hy => ?_⟩
  · obtain ⟨y, hy, rfl⟩ := List.mem_map.mp f
    by_cases e : y = k
    · subst e; exact .inl rfl
    · exact .inr (List.mem_map.mpr ⟨y, List.mem_filter.mpr ⟨hy, by simpa using e⟩, rfl⟩)
  · have key : ∀ {l : List Nat}, l.Nodup → (∀ a ∈ l, ∀ b ∈ l, ad a = ad b → a = b) → (l.map ad).Nodup := by
      intro l hl hi
      induction l with
      | nil => exact List.nodup_nil
      | cons x r ih =>
        rw [List.nodup_cons] at hl
        rw [List.map_cons, List.nodup_cons]
        refine ⟨fun hm => ?_, ih hl.2 fun a ha b hb => hi a (.tail _ ha) b (.tail _ hb)⟩
        obtain ⟨y, hy, e⟩ := List.mem_map.mp hm
        exact hl.1 (hi y (.tail _ hy) x (.head _) e ▸ hy)
    refine key hnd fun a ha b hb e => ?_
    by_cases ea : a = k
    · by_cases eb : b = k
      · exact ea.trans eb.symm
      · exact (dj (ad k) rfl (List.mem_map.mpr ⟨b, List.mem_filter.mpr ⟨hb, by simpa using eb⟩, by rw [← e, ea]⟩)).elim
    · by_cases eb : b = k
      · exact (dj (ad k) rfl (List.mem_map.mpr ⟨a, List.mem_filter.mpr ⟨ha, by simpa using ea⟩, by rw [e, eb]⟩)).elim
      · exact map_inj g1 (List.mem_filter.mpr ⟨ha, by simpa using ea⟩) (List.mem_filter.mpr ⟨hb, by simpa using eb⟩) e
  · by_cases e : y = k
    · subst e; rw [upd_same]; exact ⟨vs, n, h2, hi⟩
    · rw [upd_ne _ _ e]; exact g2 y (List.mem_filter.mpr ⟨hy, by simpa using e⟩)
end
end
end

section -- S5
open PySem PySem.Calls PySem.W PyProof.Rows
set_option Elab.async false
set_option maxRecDepth 100000
set_option linter.unusedVariables false
noncomputable section



noncomputable def addS (sl : Nat → List Nat) (k : Nat) (ps : List Nat) : Nat → List Nat := fun x => if x = k then [] else sl x ++ List.replicate (ps.count x) k
theorem addS_nil (sl : Nat → List Nat) (k : Nat) : addS sl k [] = upd sl k [] := by
  funext x
  unfold addS upd
  split
  · rfl
  · simp
theorem addS_snoc (sl : Nat → List Nat) {k p : Nat} (ps : List Nat) (h : p ≠ k) : upd (addS sl k ps) p (addS sl k ps p ++ [k]) = addS sl k (ps ++ [p]) := by
  funext x
  by_cases e : x = p
  · subst e
    rw [upd_same]
    unfold addS
    rw [if_neg h, if_neg h, List.count_append, List.count_singleton_self, List.replicate_succ', List.append_assoc]
  · rw [upd_ne _ _ e]
    unfold addS
    have : (p == x) = false := beq_eq_false_iff_ne.mpr fun q => e q.symm
    rw [List.count_append, List.count_singleton, this]
    simp

theorem bind_add (x y : Value) (ps : List Value) : bindArgs (fnOf 101) ⟨x :: y :: ps, []⟩ = (newTuple ps >>= fun t => pure (([("self", x), ("node", y)] : List (Str × Value)) ++ [(("predecessors" : Str), t)])) :=
  bind_var2 (a1 := { arg := "self", annotation := none, pos := ⟨58, 12, 58, 16⟩ }) (a2 := { arg := "node", annotation := none, pos := ⟨58, 18, 58, 22⟩ }) (va := { arg := "predecessors", annotation := none, pos := ⟨58, 25, 58, 37⟩ }) (by decide) (by kernel_rfl) (by kernel_rfl) x y ps

theorem op_lenT {prog : Program} {w : World} {A : Around} {E : Value → Shared → Prop} {h₀ : Heap} {X : Addr → Prop} {s₀ s : Shared} {env : Env} {loc : List (Str × Value)} {rs : List Rg} {l : Addr} {xs : List Value} {Q : Value → Shared → Prop} (F : Fm h₀ X s₀ env loc rs s) (hm : tupR l xs ∈ rs) (hz : xs.length < 2 ^ 62) (h : ∀ t s', Fm h₀ X s₀ env loc rs s' → Q (.int xs.length t) s') :
    wpAny (model prog w) A (call (.builtin "len") [.ref l]) Q E s :=
  PyProof.Rows.len_tuple (F.tup hm) (by simp; lia) (by simpa using h _ _ (F.toks _))
theorem upd_upd {α : Type} (f : Nat → α) (k : Nat) (a b : α) : upd (upd f k a) k b = upd f k b := by
  funext x; unfold upd; split <;> rfl
set_option maxHeartbeats 4000000
section
variable {prog : Program} {w : World} {P : Params} {h₀ : Heap} {A : Around} {s : Shared} {T dx d : Addr} {po nf : Int} {t1 t2 : Tok} {D ps : List Nat} {info idc succ : Nat → Addr} {np : Nat → Int} {sl : Nat → List Nat} {k : Nat} {t : Tok} {vs : List Value} {R : Result → Shared → Prop}
theorem add_ok (B : Base P h₀) (room : A.depth < 890) (hh : A.handled = none)
    (H : Hands h₀ [dicR (intKind prog w) d (nk D info), insR w 151 T dx (tsF d .none po nf t1 t2), irR D info idc succ np, lsR D succ sl] s)
    (hnd : D.Nodup) (hk : k ∉ D) (hps : ∀ p ∈ ps, p ∈ D) (hvs : IntsAre vs (asI ps)) (hz : D.length ≤ 2 ^ 19) (hz2 : ps.length ≤ 2 ^ 10) (hz3 : ∀ p ∈ D, (sl p).length ≤ 2 ^ 18)
    (h : ∀ s' info' idc' succ', Next h₀ [dicR (intKind prog w) d (nk D info), insR w 151 T dx (tsF d .none po nf t1 t2), irR D info idc succ np, lsR D succ sl]
      [dicR (intKind prog w) d (nk (D ++ [k]) info'), insR w 151 T dx (tsF d .none po nf t1 t2), irR (D ++ [k]) info' idc' succ' (upd np k ps.length), lsR (D ++ [k]) succ' (addS sl k ps)] s s' → R (.ok (.ret .none)) s') :
    codeAny (model prog w) A (.call (.ref 101) ⟨.ref T :: .int (k : Nat) t :: vs, []⟩) R s := by
  have hvl := hvs.length
  rw [asI_len] at hvl
  refine enterVR (X := fun a => ∃ r ∈ [dicR (intKind prog w) d (nk D info), insR w 151 T dx (tsF d .none po nf t1 t2), irR D info idc succ np, lsR D succ sl], r.foot a) H (fn_add B) (Nat.lt_trans room (by decide)) (by decide +kernel) (by kernel_rfl) (bind_add _ _ _) (by lia) (names := ["self", "node", "predecessors"]) rfl (by decide +kernel) ?_
  intro L Tp s0 s1 md0 hTp F
  simp only [List.cons_append, List.nil_append] at F
  have S := sc_add B L
  have k94 := fn_gni B
  refine x_if ?_
  kfm_turns
  refine at_get B F (by kqd_in) (fld_rdy P) (ts_rdy ..) rfl ?_; intro s2 F2
  kfm_turns
  refine isnot_none0 ?_
  kfm_turns
  refine meth_ins B F2 (by kqd_in) (mth_gni P) (by kernel_rfl) ?_
  kfm_turns
  refine gni_new (T := T) B (show A.depth + 1 < 898 by lia) (ts_n2i ..) (F2.hands (by k_subL)) hk hz ?_
  intro s3 x dx' sc t' hx hdx hsc n3
  have F3 := F2.nx n3 (by kd_subs) fun r hr a f => .inl ⟨r, by
    rcases List.mem_cons.mp hr with rfl | hr
    · exact .head _
    · rw [List.mem_singleton.mp hr]; exact .tail _ (.head _), f⟩
  simp only [List.cons_append, List.nil_append] at F3
  have F4 := F3.irNew hk (by kd_subs) (by kd_subs)
  have F5 := F4.lsNew hk (by kd_subs) (ns := []) .nil (by kd_subs)
  have e1 : upd info k x k = x := upd_same ..
  have hwI : ∀ a, (irR (D ++ [k]) (upd info k x) (upd idc k dx') (upd succ k sc) (upd np k 0)).foot a → Wr (fun a => ∃ r ∈ [dicR (intKind prog w) d (nk D info), insR w 151 T dx (tsF d .none po nf t1 t2), irR D info idc succ np, lsR D succ sl], r.foot a) s0 a := by
    intro a f
    have f' : a ∈ (D ++ [k]).map (upd info k x) ++ (D ++ [k]).map (upd idc k dx') := f
    rw [List.map_append, List.map_append, map_upd hk, map_upd hk] at f'
    simp only [List.map_cons, List.map_nil, upd_same, List.mem_append, List.mem_singleton] at f'
    rcases f' with (f' | rfl) | f' | rfl
    · exact .inl ⟨irR D info idc succ np, by simp, List.mem_append_left _ f'⟩
    · exact .inr (F2.mod.none_of hx)
    · exact .inl ⟨irR D info idc succ np, by simp, List.mem_append_right _ f'⟩
    · exact .inr (F2.mod.none_of hdx)
  have hwL : ∀ a, a ∈ (D ++ [k]).map (upd succ k sc) → Wr (fun a => ∃ r ∈ [dicR (intKind prog w) d (nk D info), insR w 151 T dx (tsF d .none po nf t1 t2), irR D info idc succ np, lsR D succ sl], r.foot a) s0 a := by
    intro a f'
    rw [List.map_append, map_upd hk] at f'
    simp only [List.map_cons, List.map_nil, upd_same, List.mem_append, List.mem_singleton] at f'
    rcases f' with f' | rfl
    · exact .inl ⟨lsR D succ sl, by simp, f'⟩
    · exact .inr (F2.mod.none_of hsc)
  clear F4 F3 n3
  generalize upd info k x = info' at F5 e1 hwI
  generalize upd idc k dx' = idc' at F5 hwI
  generalize upd succ k sc = succ' at F5 hwI hwL
  subst e1
  kfm_turns
  have hkD : k ∈ D ++ [k] := by simp
  have hkn : (D ++ [k]).Nodup := by rw [List.nodup_append]; exact ⟨hnd, by simp, fun a ha b hb e => hk (by simp at hb; rw [← hb, ← e]; exact ha)⟩
  refine ir_np B (by assumption) (by kqd_in) hkD ?_; intro _ _ _
  rw [upd_same]
  kfm_turns
  refine op_lenT (by assumption) (by kqd_in) (by lia) ?_; intro _ _ _
  kfm_turns
  refine ir_set B (by assumption) (by kd_subs) hkD hwI ?_; intro s6 F6
  rw [upd_upd, hvl, show (0 : Int) + (ps.length : Int) = ps.length by lia] at F6
  refine x_for ?_
  kfm_turns
  refine it_tup (by assumption) (by kqd_in) ?_; intro I s7 hI hIT F7
  refine ⟨fun j s' => E2 fun dn rest => ps = dn ++ rest ∧ j = rest.length ∧
    Fm h₀ _ s0 (fenv (fnOf 101) 101 L) [("self", .ref T), ("node", .int (k : Nat) t), ("predecessors", .ref Tp), ("nodeinfo", .ref (info' k))]
      [tiR I Tp dn.length, dicR (intKind prog w) d (nk (D ++ [k]) info'), insR w 151 T dx (tsF d .none po nf t1 t2), tupR Tp vs, irR (D ++ [k]) info' idc' succ' (upd np k ps.length), lsR (D ++ [k]) succ' (addS sl k dn)] s', ps.length,
    ⟨[], ps, rfl, rfl, by rw [addS_nil]; exact F7⟩, ?_⟩
  intro j s8
  (repeat (first | (with_reducible refine WithL.in fun _ _ _ _ => ?_) | (with_reducible refine WithE.in fun _ _ _ => ?_)))
  rintro ⟨dn, rest, hdr, hj, F8⟩
  cases rest with
  | nil =>
    rw [List.append_nil] at hdr
    subst hdr
    rw [show tiR I Tp ps.length = tiR I Tp vs.length by rw [hvl]] at F8
    refine nd_tup (by exact hh) F8 (by kqd_in) hIT .hit hI ?_; intro s9 F9
    kfm_turns
    refine h _ info' idc' succ' ⟨Md.trans (md0.wide fun _ x => x.elim) F9.mod fun b y => .inl y, F9.hands (by k_subL), fun r hr a f => ?_⟩
    rcases List.mem_cons.mp hr with rfl | hr
    · exact .inl ⟨_, .head _, f⟩
    rcases List.mem_cons.mp hr with rfl | hr
    · exact .inl ⟨_, .tail _ (.head _), f⟩
    rcases List.mem_cons.mp hr with rfl | hr
    · exact (hwI a f).imp (fun x => x) fun x => md0.none_of x
    · rw [List.mem_singleton.mp hr] at f
      exact (hwL a f).imp (fun x => x) fun x => md0.none_of x
  | cons p rest =>
    have hpD : p ∈ D := hps p (by rw [hdr]; simp)
    have hpk : p ≠ k := fun e => hk (e ▸ hpD)
    have hpD2 : p ∈ D ++ [k] := List.mem_append_left _ hpD
    have hlen : ps.length = dn.length + (rest.length + 1) := by rw [hdr]; simp
    rw [List.length_cons] at hj
    refine nx_tup (by exact hh) F8 (by kqd_in) hIT (by lia) .hit hI ?_; intro v s9 hv F9
    obtain ⟨tp, hp⟩ := ints_at hvs (i := dn.length) (n := (p : Int)) (by rw [asI, List.getElem?_map, hdr]; simp)
    rw [hp] at hv
    cases hv
    kfm_turns
    refine meth_ins B (by assumption) (by kqd_in) (mth_gni P) (by kernel_rfl) ?_
    kfm_turns
    refine gni_hit (T := T) (dx := dx) B (show A.depth + 1 < 898 by lia) (ts_n2i ..) (Fm.hands (by assumption) (by k_subL)) hpD2 ?_
    intro s10 m10
    have F10 := Fm.keep (by assumption) m10
    kfm_turns
    refine ir_succ B (by assumption) (by kqd_in) hpD2 ?_; intro s11 F11
    obtain ⟨us, hus, F12⟩ := F11.lsOut hpD2 (by kd_subs)
    have hul := hus.length
    rw [asI_len] at hul
    have hct := List.count_le_length (a := p) (l := dn)
    have hsl := hz3 p hpD
    have hul2 : us.length < 2 ^ 20 := by rw [hul]; unfold addS; rw [if_neg hpk, List.length_append, List.length_replicate]; lia
    refine meth_list F12 (.head _) PySem.F.slot_list_append PySem.F.type_list_append ?_
    kfm_turns
    refine app_list (by assumption) .hit (hwL _ (List.mem_map.mpr ⟨p, hpD2, rfl⟩)) hul2 ?_; intro s13 F13
    have F14 := F13.lsIn (ns := addS sl k dn p ++ [k]) hpD2 hkn .hit (by
      have : asI (addS sl k dn p ++ [k]) = asI (addS sl k dn p) ++ [(k : Int)] := by simp [asI]
      rw [this]; exact ints_app hus (.cons _ _ .nil)) (by kd_subs)
    rw [addS_snoc _ _ hpk] at F14
    kfm_turns
    refine ⟨rest.length, by lia, dn ++ [p], rest, by rw [hdr]; simp, rfl, ?_⟩
    rw [show (dn ++ [p]).length = dn.length + 1 by simp]
    exact Fm.locsub (by assumption) (by k_subL)
end
end
end

section -- S6
open PySem PySem.Calls PySem.W PyProof.Rows
set_option Elab.async false
set_option maxRecDepth 100000
set_option linter.unusedVariables false
noncomputable section



theorem meets_bool_new_list (l : Addr) (xs : List Value) (hfit : xs.length < 2 ^ 62) :
    Meets (Builtin.«bool.__new__» ⟨[.type "bool", .ref l], []⟩) (fun _ R s => s.heap.IsList l xs.toArray ∧ R (.ok (.ret (.bool (!xs.isEmpty)))) { s with toks := s.toks + 1 + 1 }) :=
  Meets.of_wp fun prog w A R s hs => by
    obtain ⟨hp, g, d, tk, os⟩ := s
    obtain ⟨hl, hs⟩ := hs
    have f1 := F.conv_sub_bool
    have hs' : R (.ok (.ret (.bool (!xs.toArray.isEmpty)))) ⟨hp, g, d, tk + 1 + 1, os⟩ := by simpa using hs
    repeat (any_goals (first | assumption | (with_reducible refine wpAny_truthy_list hl (by simp; lia) ?_) | wp_step))
    all_goals first | exact ⟨_, rfl, hs'⟩ | exact hs' | skip
section
variable {prog : Program} {w : World} {A : Around} {E : Value → Shared → Prop} {h₀ : Heap} {X : Addr → Prop} {s₀ s : Shared} {env : Env} {loc : List (Str × Value)} {rs rs' : List Rg} {l : Addr} {xs : List Value} {Q : Value → Shared → Prop}
theorem op_boolL (F : Fm h₀ X s₀ env loc rs s) (hm : listR l xs ∈ rs) (hz : xs.length < 2 ^ 62) (h : ∀ s', Fm h₀ X s₀ env loc rs s' → Q (.bool (!xs.isEmpty)) s') : wpAny (model prog w) A (call (.type "bool") [.ref l]) Q E s :=
  call_bool_1 (meets_bool_new_list l xs hz) ⟨F.list hm, ⟨rfl, h _ (F.toks _)⟩⟩
theorem op_tupleL (F : Fm h₀ X s₀ env loc rs s) (hm : listR l xs ∈ rs) (hz : xs.length ≤ 2 ^ 20) (h : ∀ a s', s₀.heap.get? a = none → Fm h₀ X s₀ env loc (tupR a xs :: rs) s' → Q (.ref a) s') : wpAny (model prog w) A (call (.type "tuple") [.ref l]) Q E s := by
  refine call_tuple_list (F.list hm) (fun h' hk => ?_) (by rw [List.size_toArray, sizeLine_eq]; lia)
  have G := F.keep (.of_kp (t := s.toks) hk)
  exact h _ _ (G.mod.none_of (get?_size _)) (G.alloc s.toks rfl (fun a e => e) ⟨0, Heap.get?_push_size _ rfl⟩)
theorem op_clear (F : Fm h₀ X s₀ env loc rs s) (up : UpdR (listR l xs) (listR l []) rs rs') (hw : Wr X s₀ l) (hz : xs.length ≤ 2 ^ 20) (h : ∀ s', Fm h₀ X s₀ env loc rs' s' → Q .none s') : wpAny (model prog w) A (call (.builtin "list.clear") [.ref l]) Q E s := by
  obtain ⟨n, hl⟩ := F.listE up.mem
  exact call_meets PySem.F.slot_list_clear ⟨_, hl, rfl⟩ PySem.F.entry_list_clear (PySem.F.args_list_clear_1 _) (AutoSeq1.list_clear_list_0 l xs.toArray n (by rw [List.size_toArray, sizeLine_eq]; lia)) ⟨hl, h _ (F.updL up hw hl rfl)⟩
end
end
end

section -- S7
open PySem PySem.Calls PySem.W PyProof.Rows
set_option Elab.async false
set_option maxRecDepth 100000
set_option linter.unusedVariables false
noncomputable section



noncomputable def setAll (np : Nat → Int) (R : List Nat) (v : Int) : Nat → Int := fun k => if k ∈ R then v else np k
theorem setAll_nil (np : Nat → Int) (v : Int) : setAll np [] v = np := by funext k; simp [setAll]
theorem setAll_snoc (np : Nat → Int) (R : List Nat) (p : Nat) (v : Int) : upd (setAll np R v) p v = setAll np (R ++ [p]) v := by
  funext k
  unfold upd setAll
  by_cases e : k = p
  · subst e; simp
  · rw [if_neg e]
    by_cases e2 : k ∈ R <;> simp [e, e2]

set_option maxHeartbeats 4000000
section
variable {prog : Program} {w : World} {P : Params} {h₀ : Heap} {A : Around} {E : Value → Shared → Prop} {s : Shared} {T dx d rl : Addr} {po nf : Int} {t1 t2 : Tok} {D R : List Nat} {info idc succ : Nat → Addr} {np : Nat → Int} {vs : List Value} {Q : Value → Shared → Prop}
theorem act_ok (B : Base P h₀) (room : A.depth < 890) (H : Hands h₀ [insR w 151 T dx (tsF d (.ref rl) po po t1 t2), listR rl vs] s) (hz : vs.length < 2 ^ 62)
    (h : ∀ s', Md NoX s s' → Q (.bool (!vs.isEmpty)) s') : wpAny (model prog w) A (call (.ref 120) [.ref T]) Q E s := by
  refine enter (X := NoX) H (fn_act B) (Nat.lt_trans room (by decide)) (by decide +kernel) (by kernel_rfl) (binds := [("self", .ref T)]) (by kernel_rfl) (names := ["self"]) rfl (by decide +kernel) ?_
  intro L s1 F
  have S := sc_act B L
  refine x_if ?_
  kfm_turns
  refine at_get B F (by kqd_in) (fld_rdy P) (ts_rdy ..) rfl ?_; intro s2 F2
  kfm_turns
  refine is_none ?_
  kfm_turns
  refine BoolOp_or ?_
  kfm_turns
  refine at_get B (by assumption) (by kqd_in) (fld_fin P) (ts_fin ..) rfl ?_; intro s3 F3
  kfm_turns
  refine at_get B (by assumption) (by kqd_in) (fld_out P) (ts_out ..) rfl ?_; intro s4 F4
  kfm_turns
  rw [show decide (po < po) = false by simp]
  kfm_turns
  refine BoolOp_one ?_
  kfm_turns
  refine at_get B (by assumption) (by kqd_in) (fld_rdy P) (ts_rdy ..) rfl ?_; intro s5 F5
  kfm_turns
  refine op_boolL F5 (by kqd_in) hz ?_; intro s6 F6
  exact h _ F6.mod

theorem rdy_ok (B : Base P h₀) (room : A.depth < 890) (hh : A.handled = none)
    (H : Hands h₀ [dicR (intKind prog w) d (nk D info), insR w 151 T dx (tsF d (.ref rl) po nf t1 t2), irR D info idc succ np, listR rl vs] s)
    (hR : ∀ p ∈ R, p ∈ D) (hvs : IntsAre vs (asI R)) (hz : R.length ≤ 2 ^ 19)
    (h : ∀ s' Tr t1', s.heap.get? Tr = none → Next h₀ [dicR (intKind prog w) d (nk D info), insR w 151 T dx (tsF d (.ref rl) po nf t1 t2), irR D info idc succ np, listR rl vs]
      [tupR Tr vs, dicR (intKind prog w) d (nk D info), insR w 151 T dx (tsF d (.ref rl) (po + R.length) nf t1' t2), irR D info idc succ (setAll np R (-1)), listR rl []] s s' → Q (.ref Tr) s') :
    wpAny (model prog w) A (call (.ref 113) [.ref T]) Q E s := by
  have hvl := hvs.length
  rw [asI_len] at hvl
  refine enter (X := fun a => ∃ r ∈ [dicR (intKind prog w) d (nk D info), insR w 151 T dx (tsF d (.ref rl) po nf t1 t2), irR D info idc succ np, listR rl vs], r.foot a) H (fn_rdy B) (Nat.lt_trans room (by decide)) (by decide +kernel) (by kernel_rfl) (binds := [("self", .ref T)]) (by kernel_rfl) (names := ["self"]) rfl (by decide +kernel) ?_
  intro L s1 F
  have S := sc_rdy B L
  have hwI : ∀ np' a, (irR D info idc succ np').foot a → Wr (fun a => ∃ r ∈ [dicR (intKind prog w) d (nk D info), insR w 151 T dx (tsF d (.ref rl) po nf t1 t2), irR D info idc succ np, listR rl vs], r.foot a) s a :=
    fun np' a f => .inl ⟨_, .tail _ (.tail _ (.head _)), f⟩
  have hwT : ∀ fs a, (insR w 151 T dx fs).foot a → Wr (fun a => ∃ r ∈ [dicR (intKind prog w) d (nk D info), insR w 151 T dx (tsF d (.ref rl) po nf t1 t2), irR D info idc succ np, listR rl vs], r.foot a) s a :=
    fun np' a f => .inl ⟨_, .tail _ (.head _), f⟩
  have hwR : Wr (fun a => ∃ r ∈ [dicR (intKind prog w) d (nk D info), insR w 151 T dx (tsF d (.ref rl) po nf t1 t2), irR D info idc succ np, listR rl vs], r.foot a) s rl :=
    .inl ⟨_, .tail _ (.tail _ (.tail _ (.head _))), rfl⟩
  refine x_if ?_
  kfm_turns
  refine at_get B F (by kqd_in) (fld_rdy P) (ts_rdy ..) rfl ?_; intro s2 F2
  kfm_turns
  refine is_none ?_
  kfm_turns
  refine at_get B (by assumption) (by kqd_in) (fld_rdy P) (ts_rdy ..) rfl ?_; intro s3 F3
  refine op_tupleL F3 (by kqd_in) (by lia) ?_; intro Tr s4 hTr F4
  kfm_turns
  refine at_get B (by assumption) (by kqd_in) (fld_n2i P) (ts_n2i ..) rfl ?_; intro s5 F5
  kfm_turns
  refine x_for ?_
  kfm_turns
  refine it_tup (by assumption) (by kqd_in) ?_; intro I s7 hI hIT F7
  refine ⟨fun j s' => E2 fun dn rest => R = dn ++ rest ∧ j = rest.length ∧
    Fm h₀ _ s (fenv (fnOf 113) 113 L) [("self", .ref T), ("result", .ref Tr), ("n2i", .ref d)]
      [tiR I Tr dn.length, tupR Tr vs, dicR (intKind prog w) d (nk D info), insR w 151 T dx (tsF d (.ref rl) po nf t1 t2), irR D info idc succ (setAll np dn (-1)), listR rl vs] s', R.length,
    ⟨[], R, rfl, rfl, by rw [setAll_nil]; exact F7⟩, ?_⟩
  intro j s8
  (repeat (first | (with_reducible refine WithL.in fun _ _ _ _ => ?_) | (with_reducible refine WithE.in fun _ _ _ => ?_)))
  rintro ⟨dn, rest, hdr, hj, F8⟩
  cases rest with
  | nil =>
    rw [List.append_nil] at hdr
    subst hdr
    rw [show tiR I Tr R.length = tiR I Tr vs.length by rw [hvl]] at F8
    refine nd_tup (by exact hh) F8 (by kqd_in) hIT .hit hI ?_; intro s9 F9
    kfm_turns
    refine at_get B (by assumption) (by kqd_in) (fld_rdy P) (ts_rdy ..) rfl ?_; intro s10 F10
    refine meth_list F10 (by kqd_in) PySem.F.slot_list_clear PySem.F.type_list_clear ?_
    kfm_turns
    refine op_clear (by assumption) (by kd_subs) hwR (by lia) ?_; intro s11 F11
    kfm_turns
    refine at_get B (by assumption) (by kqd_in) (fld_out P) (ts_out ..) rfl ?_; intro s12 F12
    kfm_turns
    refine op_lenT (by assumption) (by kqd_in) (by lia) ?_; intro _ _ _
    kfm_turns
    refine at_set B (by assumption) (by kd_subs) (hwT _) (fld_out P) (by simp [tsF]) ?_; intro s14 F14
    rw [ts_pout, hvl] at F14
    kfm_turns
    refine h _ Tr _ hTr ⟨F14.mod, F14.hands (by k_subL), fun r hr a f => ?_⟩
    rcases List.mem_cons.mp hr with rfl | hr
    · exact .inr (by rw [show a = Tr from f]; exact hTr)
    rcases List.mem_cons.mp hr with rfl | hr
    · exact .inl ⟨_, .head _, f⟩
    rcases List.mem_cons.mp hr with rfl | hr
    · exact .inl ⟨_, .tail _ (.head _), f⟩
    rcases List.mem_cons.mp hr with rfl | hr
    · exact .inl ⟨_, .tail _ (.tail _ (.head _)), f⟩
    · rw [List.mem_singleton.mp hr] at f
      exact .inl ⟨_, .tail _ (.tail _ (.tail _ (.head _))), f⟩
  | cons p rest =>
    have hpD : p ∈ D := hR p (by rw [hdr]; simp)
    have hlen : R.length = dn.length + (rest.length + 1) := by rw [hdr]; simp
    rw [List.length_cons] at hj
    refine nx_tup (by exact hh) F8 (by kqd_in) hIT (by lia) .hit hI ?_; intro v s9 hv F9
    obtain ⟨tp, hp⟩ := ints_at hvs (i := dn.length) (n := (p : Int)) (by rw [asI, List.getElem?_map, hdr]; simp)
    rw [hp] at hv
    cases hv
    kfm_turns
    refine sub_int (by assumption) (by kqd_in) (nk_in hpD) ?_; intro s10 F10
    refine ir_set B F10 (by kd_subs) hpD (hwI _) ?_; intro s11 F11
    rw [setAll_snoc] at F11
    kfm_turns
    refine ⟨rest.length, by lia, dn ++ [p], rest, by rw [hdr]; simp, rfl, ?_⟩
    rw [show (dn ++ [p]).length = dn.length + 1 by simp]
    exact Fm.locsub (by assumption) (by k_subL)
end
end
end

section -- S8
open PySem PySem.Calls PySem.W PyProof.Rows
set_option Elab.async false
set_option maxRecDepth 100000
set_option linter.unusedVariables false
noncomputable section



/-- a successor told that one of its predecessors is done -/
noncomputable def relax (st : (Nat → Int) × List Nat) (q : Nat) : (Nat → Int) × List Nat :=
  (upd st.1 q (st.1 q - 1), if st.1 q - 1 = 0 then st.2 ++ [q] else st.2)
noncomputable def fin1 (sl : Nat → List Nat) (st : (Nat → Int) × List Nat) (p : Nat) : (Nat → Int) × List Nat := (sl p).foldl relax (upd st.1 p (-2), st.2)
noncomputable def doneS (sl : Nat → List Nat) (st : (Nat → Int) × List Nat) (R : List Nat) : (Nat → Int) × List Nat := R.foldl (fin1 sl) st
theorem relax_off {k : Nat} : ∀ (l : List Nat) (st : (Nat → Int) × List Nat), k ∉ l → (l.foldl relax st).1 k = st.1 k
  | [], _, _ => rfl
  | q :: l, st, h => by
    rw [List.mem_cons, not_or] at h
    rw [List.foldl_cons, relax_off l _ h.2]
    exact upd_ne _ _ h.1
theorem fin1_off {sl : Nat → List Nat} {k p : Nat} (st : (Nat → Int) × List Nat) (h1 : k ≠ p) (h2 : k ∉ sl p) : (fin1 sl st p).1 k = st.1 k := by
  unfold fin1
  rw [relax_off _ _ h2]
  exact upd_ne _ _ h1
theorem doneS_off {sl : Nat → List Nat} {k : Nat} : ∀ (R : List Nat) (st : (Nat → Int) × List Nat), k ∉ R → (∀ p ∈ R, k ∉ sl p) → (doneS sl st R).1 k = st.1 k
  | [], _, _, _ => rfl
  | p :: R, st, h1, h2 => by
    rw [List.mem_cons, not_or] at h1
    show (doneS sl (fin1 sl st p) R).1 k = _
    rw [doneS_off R _ h1.2 fun q hq => h2 q (.tail _ hq), fin1_off _ h1.1 (h2 p (.head _))]
theorem doneS_snoc (sl : Nat → List Nat) (st : (Nat → Int) × List Nat) (R : List Nat) (p : Nat) : doneS sl st (R ++ [p]) = fin1 sl (doneS sl st R) p := by
  unfold doneS; rw [List.foldl_append]; rfl
theorem relax_len : ∀ (l : List Nat) (st : (Nat → Int) × List Nat), (l.foldl relax st).2.length ≤ st.2.length + l.length
  | [], _ => Nat.le_refl _
  | q :: l, st => by
    rw [List.foldl_cons]
    refine Nat.le_trans (relax_len l _) ?_
    unfold relax
    dsimp only
    split <;> simp <;> lia
theorem doneS_len (sl : Nat → List Nat) : ∀ (R : List Nat) (st : (Nat → Int) × List Nat), (doneS sl st R).2.length ≤ st.2.length + (R.map fun p => (sl p).length).sum
  | [], _ => Nat.le_refl _
  | p :: R, st => by
    show (doneS sl (fin1 sl st p) R).2.length ≤ _
    refine Nat.le_trans (doneS_len sl R _) ?_
    have := relax_len (sl p) (upd st.1 p (-2), st.2)
    have h2 : (fin1 sl st p).2.length ≤ st.2.length + (sl p).length := this
    rw [List.map_cons, List.sum_cons]; lia

theorem bind_done (x : Value) (ps : List Value) : bindArgs (fnOf 134) ⟨x :: ps, []⟩ = (newTuple ps >>= fun t => pure (([("self", x)] : List (Str × Value)) ++ [(("nodes" : Str), t)])) :=
  bind_var1 (a1 := { arg := "self", annotation := none, pos := ⟨94, 13, 94, 17⟩ }) (va := { arg := "nodes", annotation := none, pos := ⟨94, 20, 94, 25⟩ }) (by kernel_rfl) (by kernel_rfl) x ps

set_option maxHeartbeats 4000000
section
variable {prog : Program} {w : World} {P : Params} {h₀ : Heap} {A : Around} {s : Shared} {T dx d rl : Addr} {po nf : Int} {t1 t2 : Tok} {D R rd : List Nat} {info idc succ : Nat → Addr} {np : Nat → Int} {sl : Nat → List Nat} {vs ps : List Value} {RR : Result → Shared → Prop}
theorem done_ok (B : Base P h₀) (room : A.depth < 890) (hh : A.handled = none)
    (H : Hands h₀ [dicR (intKind prog w) d (nk D info), insR w 151 T dx (tsF d (.ref rl) po nf t1 t2), irR D info idc succ np, lsR D succ sl, listR rl vs] s)
    (hD : D.Nodup) (hR : ∀ p ∈ R, p ∈ D) (hRn : R.Nodup) (hRo : ∀ p ∈ R, np p = -1) (hRs : ∀ p ∈ R, ∀ q ∈ sl p, q ∈ D ∧ q ∉ R) (hvs : IntsAre vs (asI rd)) (hps : IntsAre ps (asI R)) (hz : R.length ≤ 2 ^ 19) (hz2 : ∀ p ∈ D, (sl p).length ≤ 2 ^ 19) (hz3 : rd.length + (R.map fun p => (sl p).length).sum ≤ 2 ^ 19)
    (h : ∀ s' t2' vs', IntsAre vs' (asI (doneS sl (np, rd) R).2) → Next h₀ [dicR (intKind prog w) d (nk D info), insR w 151 T dx (tsF d (.ref rl) po nf t1 t2), irR D info idc succ np, lsR D succ sl, listR rl vs]
      [dicR (intKind prog w) d (nk D info), insR w 151 T dx (tsF d (.ref rl) po (nf + R.length) t1 t2'), irR D info idc succ (doneS sl (np, rd) R).1, lsR D succ sl, listR rl vs'] s s' → RR (.ok (.ret .none)) s') :
    codeAny (model prog w) A (.call (.ref 134) ⟨.ref T :: ps, []⟩) RR s := by
  have hpl := hps.length
  rw [asI_len] at hpl
  refine enterVR (X := fun a => ∃ r ∈ [dicR (intKind prog w) d (nk D info), insR w 151 T dx (tsF d (.ref rl) po nf t1 t2), irR D info idc succ np, lsR D succ sl, listR rl vs], r.foot a) H (fn_done B) (Nat.lt_trans room (by decide)) (by decide +kernel) (by kernel_rfl) (bind_done _ _) (by lia) (names := ["self", "nodes"]) rfl (by decide +kernel) ?_
  intro L Tp s0 s1 md0 hTp F
  simp only [List.cons_append, List.nil_append] at F
  have S := sc_done B L
  have hwI : ∀ np' a, (irR D info idc succ np').foot a → Wr (fun a => ∃ r ∈ [dicR (intKind prog w) d (nk D info), insR w 151 T dx (tsF d (.ref rl) po nf t1 t2), irR D info idc succ np, lsR D succ sl, listR rl vs], r.foot a) s0 a :=
    fun np' a f => .inl ⟨_, .tail _ (.tail _ (.head _)), f⟩
  have hwT : ∀ fs a, (insR w 151 T dx fs).foot a → Wr (fun a => ∃ r ∈ [dicR (intKind prog w) d (nk D info), insR w 151 T dx (tsF d (.ref rl) po nf t1 t2), irR D info idc succ np, lsR D succ sl, listR rl vs], r.foot a) s0 a :=
    fun np' a f => .inl ⟨_, .tail _ (.head _), f⟩
  have hwR : Wr (fun a => ∃ r ∈ [dicR (intKind prog w) d (nk D info), insR w 151 T dx (tsF d (.ref rl) po nf t1 t2), irR D info idc succ np, lsR D succ sl, listR rl vs], r.foot a) s0 rl :=
    .inl ⟨_, .tail _ (.tail _ (.tail _ (.tail _ (.head _)))), rfl⟩
  refine x_if ?_
  kfm_turns
  refine at_get B F (by kqd_in) (fld_rdy P) (ts_rdy ..) rfl ?_; intro s2 F2
  kfm_turns
  refine is_none ?_
  kfm_turns
  refine at_get B (by assumption) (by kqd_in) (fld_n2i P) (ts_n2i ..) rfl ?_; intro s5 F5
  kfm_turns
  refine x_for ?_
  kfm_turns
  refine it_tup (by assumption) (by kqd_in) ?_; intro I s7 hI hIT F7
  refine ⟨fun j s' => E4 fun dn rest us t2' => R = dn ++ rest ∧ j = rest.length ∧ IntsAre us (asI (doneS sl (np, rd) dn).2) ∧
    Fm h₀ _ s0 (fenv (fnOf 134) 134 L) [("self", .ref T), ("nodes", .ref Tp), ("n2i", .ref d)]
      [tiR I Tp dn.length, tupR Tp ps, dicR (intKind prog w) d (nk D info), insR w 151 T dx (tsF d (.ref rl) po (nf + dn.length) t1 t2'), irR D info idc succ (doneS sl (np, rd) dn).1, lsR D succ sl, listR rl us] s', R.length,
    ⟨[], R, vs, t2, rfl, rfl, hvs, by rw [List.length_nil, show nf + ((0 : Nat) : Int) = nf by lia]; exact F7⟩, ?_⟩
  intro j s8
  (repeat (first | (with_reducible refine WithL.in fun _ _ _ _ => ?_) | (with_reducible refine WithE.in fun _ _ _ => ?_)))
  rintro ⟨dn, rest, us, t2', hdr, hj, hus, F8⟩
  cases rest with
  | nil =>
    rw [List.append_nil] at hdr
    subst hdr
    rw [show tiR I Tp R.length = tiR I Tp ps.length by rw [hpl]] at F8
    refine nd_tup (by exact hh) F8 (by kqd_in) hIT .hit hI ?_; intro s9 F9
    kfm_turns
    refine h _ t2' us hus ⟨Md.trans (md0.wide fun _ x => x.elim) F9.mod fun b y => .inl y, F9.hands (by k_subL), fun r hr a f => ?_⟩
    rcases List.mem_cons.mp hr with rfl | hr
    · exact .inl ⟨_, .head _, f⟩
    rcases List.mem_cons.mp hr with rfl | hr
    · exact .inl ⟨_, .tail _ (.head _), f⟩
    rcases List.mem_cons.mp hr with rfl | hr
    · exact .inl ⟨_, .tail _ (.tail _ (.head _)), f⟩
    rcases List.mem_cons.mp hr with rfl | hr
    · exact .inl ⟨_, .tail _ (.tail _ (.tail _ (.head _))), f⟩
    · rw [List.mem_singleton.mp hr] at f
      exact .inl ⟨_, .tail _ (.tail _ (.tail _ (.tail _ (.head _)))), f⟩
  | cons p rest =>
    have hpR : p ∈ R := by rw [hdr]; simp
    have hpD : p ∈ D := hR p hpR
    have hlen : R.length = dn.length + (rest.length + 1) := by rw [hdr]; simp
    rw [List.length_cons] at hj
    refine nx_tup (by exact hh) F8 (by kqd_in) hIT (by lia) .hit hI ?_; intro v s9 hv F9
    obtain ⟨tp, hp⟩ := ints_at hps (i := dn.length) (n := (p : Int)) (by rw [asI, List.getElem?_map, hdr]; simp)
    rw [hp] at hv
    cases hv
    have hpdn : p ∉ dn := fun q => by
      rw [hdr, List.nodup_append] at hRn
      exact hRn.2.2 p q p (.head _) rfl
    have hout : (doneS sl (np, rd) dn).1 p = -1 := by
      rw [doneS_off dn _ hpdn fun q hq m => (hRs q (by rw [hdr]; simp [hq]) p m).2 hpR]
      exact hRo p hpR
    have hdl := doneS_len sl dn (np, rd)
    have hsum : (R.map fun p => (sl p).length).sum = (dn.map fun p => (sl p).length).sum + ((sl p).length + (rest.map fun p => (sl p).length).sum) := by rw [hdr]; simp
    kfm_turns
    refine x_if ?_
    kfm_turns
    refine meth_dic (by assumption) (by kqd_in) PySem.F.slot_dict_get PySem.F.type_dict_get ?_
    kfm_turns
    refine get1_dic (by assumption) (by kqd_in) (intKind_is _ _ _ _) ?_; intro s10 F10
    rw [nk_in hpD, Option.getD_some]
    kfm_turns
    refine is_none ?_
    kfm_turns
    refine ir_np B (by assumption) (by kqd_in) hpD ?_; intro _ _ _
    rw [hout]
    kfm_turns
    refine x_if ?_
    kfm_turns
    rw [show ((-1 : Int) != -1) = false by decide]
    kfm_turns
    refine ir_set B (by assumption) (by kd_subs) hpD (hwI _) ?_; intro s11 F11
    refine x_for ?_
    kfm_turns
    refine ir_succ B F11 (by kqd_in) hpD ?_; intro s12 F12
    obtain ⟨qs, hqs, F13⟩ := F12.lsOut hpD (by kd_subs)
    have hql := hqs.length
    rw [asI_len] at hql
    have hsp := hz2 p hpD
    refine it_list F13 (.head _) ?_; intro J s14 hJ hJl F14
    refine ⟨fun i s' => E3 fun dq rq us2 => sl p = dq ++ rq ∧ i = rq.length ∧ IntsAre us2 (asI (dq.foldl relax (upd (doneS sl (np, rd) dn).1 p (-2), (doneS sl (np, rd) dn).2)).2) ∧
      Fm h₀ _ s0 (fenv (fnOf 134) 134 L) [("self", .ref T), ("nodes", .ref Tp), ("n2i", .ref d), ("node", .int (p : Nat) tp), ("nodeinfo", .ref (info p))]
        [liR J (succ p) dq.length, listR (succ p) qs, tiR I Tp (dn.length + 1), tupR Tp ps, dicR (intKind prog w) d (nk D info), insR w 151 T dx (tsF d (.ref rl) po (nf + dn.length) t1 t2'),
          irR D info idc succ (dq.foldl relax (upd (doneS sl (np, rd) dn).1 p (-2), (doneS sl (np, rd) dn).2)).1, lsR (D.filter (· ≠ p)) succ sl, listR rl us2] s', (sl p).length,
      ⟨[], sl p, us, rfl, rfl, hus, Fm.locsub F14 (by k_subL)⟩, ?_⟩
    intro i s15
    (repeat (first | (with_reducible refine WithL.in fun _ _ _ _ => ?_) | (with_reducible refine WithE.in fun _ _ _ => ?_)))
    rintro ⟨dq, rq, us2, hdq, hi, hus2, F15⟩
    cases rq with
    | nil =>
      rw [List.append_nil] at hdq
      rw [← hdq, ← hql] at F15
      rw [← hdq] at hus2
      refine nd_list (by exact hh) F15 (by kqd_in) hJl .hit hJ ?_; intro s16 F16
      have F17 := F16.lsIn hpD hD .hit hqs (by kd_subs)
      rw [show upd sl p (sl p) = sl by funext x; unfold upd; split <;> simp_all] at F17
      kfm_turns
      refine at_get B (by assumption) (by kqd_in) (fld_fin P) (ts_fin ..) rfl ?_; intro s18 F18
      kfm_turns
      refine at_set B (by assumption) (by kd_subs) (hwT _) (fld_fin P) (by simp [tsF]) ?_; intro s19 F19
      rw [ts_pfin] at F19
      kfm_turns
      refine ⟨rest.length, by lia, dn ++ [p], rest, us2, _, by rw [hdr]; simp, rfl, by rw [doneS_snoc]; exact hus2, by
        rw [doneS_snoc, show (dn ++ [p]).length = dn.length + 1 by simp, show nf + ((dn.length + 1 : Nat) : Int) = nf + dn.length + 1 by lia]
        exact Fm.locsub F19 (by k_subL)⟩
    | cons q rq =>
      have hq := hRs p hpR q (by rw [hdq]; simp)
      have hql2 : (sl p).length = dq.length + (rq.length + 1) := by rw [hdq]; simp
      rw [List.length_cons] at hi
      have hrl := relax_len dq (upd (doneS sl (np, rd) dn).1 p (-2), (doneS sl (np, rd) dn).2)
      have hul := hus2.length
      rw [asI_len] at hul
      have hcons : ∀ us', (dq ++ [q]).foldl relax us' = relax (dq.foldl relax us') q := fun us' => by rw [List.foldl_append]; rfl
      have hc := hcons (upd (doneS sl (np, rd) dn).1 p (-2), (doneS sl (np, rd) dn).2)
      dsimp only at hrl hdl
      generalize List.foldl relax (upd (doneS sl (np, rd) dn).1 p (-2), (doneS sl (np, rd) dn).2) dq = st at F15 hus2 hrl hul hc
      refine nx_list (by exact hh) F15 (by kqd_in) hJl (by lia) .hit hJ ?_; intro v s16 hv F16
      obtain ⟨tq, htq⟩ := ints_at hqs (i := dq.length) (n := (q : Int)) (by rw [asI, List.getElem?_map, hdq]; simp)
      rw [htq] at hv
      cases hv
      kfm_turns
      refine sub_int (by assumption) (by kqd_in) (nk_in hq.1) ?_; intro s17 F17
      kfm_turns
      refine ir_np B (by assumption) (by kqd_in) hq.1 ?_; intro _ _ _
      kfm_turns
      refine ir_set B (by assumption) (by kd_subs) hq.1 (hwI _) ?_; intro s18 F18
      refine x_if ?_
      kfm_turns
      refine ir_np B F18 (by kqd_in) hq.1 ?_; intro _ _ _
      rw [upd_same]
      kfm_turns
      refine if_bool (fun c => ?_) (fun c => ?_)
      · have c1 : st.1 q - 1 = 0 := eq_of_beq c
        kfm_turns
        refine at_get B (by assumption) (by kqd_in) (fld_rdy P) (ts_rdy ..) rfl ?_; intro s19 F19
        refine meth_list F19 (by kqd_in) PySem.F.slot_list_append PySem.F.type_list_append ?_
        kfm_turns
        refine app_list (by assumption) (by kd_subs) hwR (by lia) ?_; intro s20 F20
        kfm_turns
        refine ⟨rq.length, by lia, dq ++ [q], rq, _, by rw [hdq]; simp, rfl, ?_, by
          rw [hc, show (dq ++ [q]).length = dq.length + 1 by simp]
          exact Fm.locsub F20 (by k_subL)⟩
        rw [hc]
        show IntsAre _ (asI (if st.1 q - 1 = 0 then st.2 ++ [q] else st.2))
        rw [if_pos c1]
        have : asI (st.2 ++ [q]) = asI st.2 ++ [(q : Int)] := by simp [asI]
        rw [this]; exact ints_app hus2 (.cons _ _ .nil)
      · have c1 : ¬ st.1 q - 1 = 0 := fun e => by rw [e] at c; exact absurd c (by decide)
        kfm_turns
        refine ⟨rq.length, by lia, dq ++ [q], rq, us2, by rw [hdq]; simp, rfl, ?_, by
          rw [hc, show (dq ++ [q]).length = dq.length + 1 by simp]
          exact Fm.locsub (by assumption) (by k_subL)⟩
        rw [hc]
        show IntsAre _ (asI (if st.1 q - 1 = 0 then st.2 ++ [q] else st.2))
        rw [if_neg c1]
        exact hus2
end
end
end

section -- K1
open PySem PySem.Calls PySem.W PyProof.Rows
set_option Elab.async false
set_option maxRecDepth 100000
set_option linter.unusedVariables false
noncomputable section

/-! comprehensions, in the frame bundle's words -/
section
variable {prog : Program} {w : World} {A : Around} {E : Value → Shared → Prop} {h₀ : Heap} {X : Addr → Prop} {s₀ s₁ s s₃ : Shared} {env : Env} {loc vals : List (Str × Value)} {rs rs3 : List Rg} {scope : Scope} {cl : List (Str × Addr)}

/-- what a comprehension takes along of its frame's cells -/
structure Cap (env : Env) (scope : Scope) (cl : List (Str × Addr)) (loc vals : List (Str × Value)) : Prop where
  clos : closureFor scope env = pure cl
  cells : ∀ p ∈ cl, env.cells.lookup p.1 = some p.2
  ndc : (cl.map (·.2)).Nodup
  ndv : (vals.map (·.1)).Nodup
  vals : ∀ p ∈ vals, p ∈ loc ∧ (∃ c, cl.lookup p.1 = some c) ∧ env.kindOf p.1 ≠ some .local ∧ (relabel scope env).names.lookup p.1 = some .cell ∧ (p.1 == ("__debug__" : Str)) = false

theorem comp_env {K : Env → Shared → Prop} (F : Fm h₀ X s₀ env loc rs3 s₃) (m3 : Md NoX s₁ s₃) (hcell : ∀ x ∈ scope.names, x.2 ≠ .cell) (hkind : scope.kind = .function) (hc : Cap env scope cl loc vals)
    (h : ∀ C s₄, s₃.heap.get? C = none → Fm h₀ NoX s₁ (compEnvC scope cl C env) vals rs3 s₄ → K (newEnv scope C env.globals cl env.qual none .none (some env) 0) s₄) :
    wpAny (model prog w) A (newFunctionEnv scope env.globals cl [] env.qual none .none (some env)) K E s₃ := by
  refine wpAny_newFunctionEnv hcell (fun y hy => nomatch hy) (fun h' hn hs => ?_) hkind
  have e0 : s₃.heap.get? s₃.heap.objs.size = none := get?_size _
  have kp : Kp s₃.heap h' := fun b o e => (hs.2 b (fun q => by rw [q, e0] at e; cases e)).trans (Heap.get?_push_of_some _ e)
  have b0 : h₀.get? s₃.heap.objs.size = none := by
    cases q : h₀.get? s₃.heap.objs.size with
    | none => rfl
    | some o => rw [F.base _ o q] at e0; cases e0
  have hn' := hn
  obtain ⟨oL, _, _, eL, _⟩ := hn'
  refine h s₃.heap.objs.size _ e0 ?_
  have cin : ∀ p ∈ cl, (p.1, p.2) ∈ env.cells := fun p hp => mem_of_lookup (hc.cells p hp)
  have cvf : ∀ p ∈ cl, vf env p.2 := fun p hp => .tail _ (List.mem_map.mpr ⟨_, cin p hp, rfl⟩)
  have cne : ∀ p ∈ cl, p.2 ≠ s₃.heap.objs.size := fun p hp e => by
    obtain ⟨_, o, q⟩ := F.vd _ (cvf p hp)
    rw [e, e0] at q; cases q
  refine ⟨(m3.trans (Md.of_kp (t := s₃.toks + 0) kp) fun _ x => x.elim), fun b o e => kp b o (F.base b o e), by show (relabel scope env).kind = .function; exact hkind, ?_, hc.ndv, ⟨_, hn, fun p hp => ?_⟩, ?_, ?_, ?_, ?_, F.rp, ?_⟩
  · refine List.nodup_cons.mpr ⟨fun hm => ?_, hc.ndc⟩
    obtain ⟨p, hp, e⟩ := List.mem_map.mp hm
    exact cne p hp e
  · obtain ⟨h1, ⟨c, h2⟩, h3, h4, h5⟩ := hc.vals p hp
    have hcl := hc.cells (p.1, c) (mem_of_lookup h2)
    exact .cel c (.inl h4) h5 h2 (cell_keeps (F.cellOf h1 hcl h3) fun o e => kp _ o e)
  · exact m3.none_of e0
  · intro a ha
    rcases List.mem_cons.mp ha with rfl | ha
    · exact ⟨b0, oL, eL⟩
    · obtain ⟨p, hp, rfl⟩ := List.mem_map.mp ha
      obtain ⟨h1, o, e⟩ := F.vd _ (cvf p hp)
      exact ⟨h1, o, kp _ o e⟩
  · intro r hr
    exact r.stable _ _ (fun a o _ e => kp a o e) (F.rg r hr)
  · intro r hr a f
    obtain ⟨h1, ⟨o, e⟩, h3⟩ := F.rd r hr a f
    refine ⟨h1, ⟨o, kp a o e⟩, fun v => ?_⟩
    rcases List.mem_cons.mp v with rfl | ha
    · exact absurd (e0.symm.trans e) (by simp)
    · obtain ⟨p, hp, rfl⟩ := List.mem_map.mp ha
      exact h3 (cvf p hp)
  · intro p hp
    obtain ⟨v, y⟩ := F.cc _ (cin p hp)
    exact ⟨v, cell_keeps y fun o e => kp _ o e⟩

/-- many new regions at once -/
theorem Fm.addL {new : List Rg} {s' : Shared} (F : Fm h₀ X s₀ env loc rs s) (m : Md NoX s s') (hf : ∀ r ∈ new, ∀ a, r.foot a → s.heap.get? a = none ∧ ∃ o, s'.heap.get? a = some o) (hh : ∀ r ∈ new, r.holds s'.heap) (hp : new.Pairwise fun r q => ∀ a, r.foot a → ¬ q.foot a) :
    Fm h₀ X s₀ env loc (new ++ rs) s' := by
  have G := F.keep m
  have b0 : ∀ a, s.heap.get? a = none → h₀.get? a = none := fun a e => by
    cases q : h₀.get? a with
    | none => rfl
    | some o => rw [F.base a o q] at e; cases e
  refine ⟨G.mod, G.base, G.fk, G.cnd, G.lnd, G.ns, G.lw, G.vd, ?_, ?_, ?_, G.cc⟩
  · intro q hq; rcases List.mem_append.mp hq with hq | hq; exact hh q hq; exact G.rg q hq
  · intro q hq a f
    rcases List.mem_append.mp hq with hq | hq
    · refine ⟨b0 a (hf q hq a f).1, (hf q hq a f).2, fun v => ?_⟩
      obtain ⟨_, o', e'⟩ := F.vd a v
      rw [(hf q hq a f).1] at e'; cases e'
    · exact G.rd q hq a f
  · refine List.pairwise_append.mpr ⟨hp, G.rp, fun r hr q hq a f g => ?_⟩
    obtain ⟨_, ⟨o, e⟩, _⟩ := F.rd q hq a g
    rw [(hf r hr a f).1] at e; cases e
/-- back in the outer frame: what the comprehension has made stands beside what stood -/
theorem Fm.compBack {new : List Rg} {cenv : Env} {loc' : List (Str × Value)} {s' : Shared} (F : Fm h₀ X s₀ env loc rs s₁) (G : Fm h₀ NoX s₁ cenv loc' (new ++ rs) s') (hn : ∀ r ∈ new, ∀ a, r.foot a → s₁.heap.get? a = none) :
    Fm h₀ X s₀ env loc (new ++ rs) s' :=
  F.addL G.mod (fun r hr a f => ⟨hn r hr a f, (G.rd r (List.mem_append_left _ hr) a f).2.1⟩) (fun r hr => G.rg r (List.mem_append_left _ hr)) (List.pairwise_append.mp G.rp).1

/-- the comprehension's own frame -/
noncomputable def nsR (C : Addr) : Rg := ⟨(· = C), fun h => ∃ m, h.Ns C m, fun _ _ k ⟨m, n⟩ => ⟨m, ns_keeps n fun o e => k C o rfl e⟩⟩

noncomputable def CompEnd (h₀ : Heap) (s₁ : Shared) (cenv : Env) (rs : List Rg) (K : List Rg → Prop) (s' : Shared) : Prop :=
  ∃ new loc', Fm h₀ NoX s₁ cenv loc' (new ++ rs) s' ∧ (∀ r ∈ new, ∀ a, r.foot a → s₁.heap.get? a = none) ∧ K new

noncomputable def CompLoop (prog : Program) (w : World) (A : Around) (h₀ : Heap) (s₁ : Shared) (rs : List Rg) (elt : Expr) (x : Str) (px : Pos) (ifs : List Expr) (cenv : Env) (I D : Addr) (K : List Rg → Prop) (s₄ : Shared) : Prop :=
  ∃ (J : Nat → Shared → Prop) (n : Nat), J n s₄ ∧ ∀ n s, J n s → wpAny (model prog w) A (pyNext (.ref I)) (fun r s' => match r with
    | none => CompEnd h₀ s₁ cenv rs K s'
    | some v => wpAny (model prog w) A (assign (.Name x px) cenv v) (fun _ s2 =>
        wpAny (model prog w) A (forIn ifs true fun c r => if r = true then do let ok ← isTrue c cenv (eval c cenv); pure (ForInStep.yield ok) else pure (ForInStep.yield r)) (fun ok s3 =>
          if ok = true then wpAny (model prog w) A (eval elt cenv) (fun y s4 => wpAny (model prog w) A (call (.builtin "list.append") [.ref D, y]) (fun _ s5 => ∃ m, m < n ∧ J m s5) NoE s4) NoE s3
          else ∃ m, m < n ∧ J m s3) NoE s2) NoE s') NoE s

theorem comp_loop {elt iter : Expr} {x : Str} {px : Pos} {ifs : List Expr} {pos : Pos} {cenv : Env} {I D : Addr} {K : List Rg → Prop} {s₄ : Shared} {R : Result → Shared → Prop}
    (hself : ∀ (Q : Value → Shared → Prop) (E : Value → Shared → Prop), Q (.ref I) s₄ → wpAny (model prog w) A (pyIter (.ref I)) Q E s₄)
    (hl : CompLoop prog w A h₀ s₁ rs elt x px ifs cenv I D K s₄) (hR : ∀ s', CompEnd h₀ s₁ cenv rs K s' → R (.ok .next) s')
    (ht : ∀ v, letOwnedTupleGo (.Name x px) (.ref I) v = pure () := by intro _; rfl) :
    codeAny (model prog w) A (.compStart (.ListComp elt [⟨.Name x px, iter, ifs, 0⟩] scope pos) 0 (.ref I) (.ref D) cenv) R s₄ := by
  obtain ⟨J, n, h0, turn⟩ := hl
  have loop : codeAny (model prog w) A (.compLoop (.ListComp elt [⟨.Name x px, iter, ifs, 0⟩] scope pos) 0 (.ref I) (.ref D) cenv) R s₄ := by
    refine codeAny_compLoop_tests J (fun n s hJ => ?_) n h0 ht
    refine wpAny_mono (turn n s hJ) (fun r s' h' => ?_) fun _ _ y => y.elim
    cases r with
    | none => exact hR s' h'
    | some v =>
      refine wpAny_mono h' (fun _ s2 h2 => wpAny_mono h2 (fun ok s3 h3 => ?_) fun _ _ y => y.elim) fun _ _ y => y.elim
      cases ok with
      | false => exact h3
      | true => exact wpAny_mono h3 (fun y s4 h4 => wpAny_mono h4 (fun _ s5 h5 => h5) fun _ _ y => y.elim) fun _ _ y => y.elim
  exact codeAny_compStart_list loop (hself _ _ loop)

/-- the iterable's iterator, made -/
noncomputable def Iters (prog : Program) (w : World) (A : Around) (h₀ : Heap) (X : Addr → Prop) (s₀ : Shared) (env : Env) (loc : List (Str × Value)) (rs : List Rg) (xv : Value) (ri : Addr → Rg) (s₁ : Shared) : Prop :=
  (∀ (Q : Value → Shared → Prop) (E : Value → Shared → Prop), (∀ I s₂, Md NoX s₁ s₂ → s₁.heap.get? I = none → Fm h₀ X s₀ env loc (ri I :: rs) s₂ → Q (.ref I) s₂) → wpAny (model prog w) A (pyIter xv) Q E s₁) ∧
  ∀ I (s : Shared), (ri I).holds s.heap → ∀ (Q : Value → Shared → Prop) (E : Value → Shared → Prop), Q (.ref I) s → wpAny (model prog w) A (pyIter (.ref I)) Q E s

theorem comp_go {elt iter : Expr} {x : Str} {px : Pos} {ifs : List Expr} {pos : Pos} {xv : Value} {ri : Addr → Rg} {use : Option (Value → Sem Unit)} {Q : Value → Shared → Prop} {K : Addr → List Rg → Prop} (F : Fm h₀ X s₀ env loc rs s₁) (hc : Cap env scope cl loc vals) (hcell : ∀ x ∈ scope.names, x.2 ≠ .cell) (hkind : scope.kind = .function)
    (hit : Iters prog w A h₀ X s₀ env loc rs xv ri s₁)
    (hl : ∀ D I C s₄, s₁.heap.get? D = none → s₁.heap.get? I = none → Fm h₀ NoX s₁ (compEnvC scope cl C env) vals (listR D [] :: ri I :: rs) s₄ → CompLoop prog w A h₀ s₁ rs elt x px ifs (compEnvC scope cl C env) I D (K D) s₄)
    (hQ : ∀ D C new s', K D new → s₁.heap.get? C = none → Fm h₀ X s₀ env loc (nsR C :: (new ++ rs)) s' → compPost (model prog w) A E use Q (.ref D) C (.ok .next) s')
    (ht : ∀ I v, letOwnedTupleGo (.Name x px) (.ref I) v = pure () := by intro _ _; rfl) :
    wpAny (model prog w) A (pyIter xv) (fun it s₂ => wpAny (model prog w) A (newList []) (fun acc s₃ => wpAny (model prog w) A (newFunctionEnv scope env.globals cl [] env.qual none .none (some env)) (fun cenv s₄ =>
      codeAny (model prog w) A (.compStart (.ListComp elt [⟨.Name x px, iter, ifs, 0⟩] scope pos) 0 it acc { cenv with scope := relabel scope env }) (compPost (model prog w) A E use Q acc cenv.locals) s₄) E s₃) E s₂) E s₁ := by
  refine hit.1 _ _ fun I s₂ m2 hI F2 => ?_
  refine wpAny_newObj_type ?_ (by show (#[] : Array Value).size ≤ sizeLine; exact Nat.zero_le _)
  have F3 := F2.alloc (o := { cls := .type "list", data := .seq ([] : List Value).toArray }) (r := listR s₂.heap.objs.size []) s₂.toks rfl (fun a e => e) ⟨0, Heap.get?_push_size _ rfl⟩
  have m3 : Md NoX s₁ { s₂ with heap := s₂.heap.push { cls := .type "list", data := .seq ([] : List Value).toArray }, toks := s₂.toks } := m2.trans (.push _) fun _ x => x.elim
  have hD : s₁.heap.get? s₂.heap.objs.size = none := m2.none_of (get?_size _)
  refine comp_env F3 m3 hcell hkind hc fun C s₄ hC G => ?_
  have hI4 : (ri I).holds s₄.heap := G.rg _ (.tail _ (.head _))
  refine comp_loop (K := K s₂.heap.objs.size) (fun Q E q => hit.2 I s₄ hI4 Q E q) (hl _ I C s₄ hD hI G) (fun s' he => ?_) (ht I)
  obtain ⟨new, loc', G', hn, hk⟩ := he
  have F' : Fm h₀ X s₀ env loc ((nsR C :: new) ++ rs) s' := by
    have hCs : s₁.heap.get? C = none := m3.none_of hC
    refine F.addL G'.mod (fun r hr a f => ?_) (fun r hr => ?_) ?_
    · rcases List.mem_cons.mp hr with rfl | hr
      · have : a = C := f
        subst this
        exact ⟨hCs, (G'.vd _ (.head _)).2⟩
      · exact ⟨hn r hr a f, (G'.rd r (List.mem_append_left _ hr) a f).2.1⟩
    · rcases List.mem_cons.mp hr with rfl | hr
      · obtain ⟨m, q, _⟩ := G'.ns
        exact ⟨m, q⟩
      · exact G'.rg r (List.mem_append_left _ hr)
    · refine List.pairwise_cons.mpr ⟨fun q hq a f g => ?_, (List.pairwise_append.mp G'.rp).1⟩
      have : a = C := f
      subst this
      exact (G'.rd q (List.mem_append_left _ hq) _ g).2.2 (.head _)
  exact hQ _ C new s' hk (m3.none_of hC) F'

theorem ev_comp {elt iter : Expr} {x : Str} {px : Pos} {ifs : List Expr} {pos : Pos} {Q : Value → Shared → Prop}
    (hcell : ∀ x ∈ scope.names, x.2 ≠ .cell) (hkind : scope.kind = .function) (hnames : ∀ y ∈ scope.names, y.2 = .local → scope.names.lookup y.1 = some .local)
    (h : wpAny (model prog w) A (eval iter env) (fun xv s₁ => ∃ (loc vals : List (Str × Value)) (rs : List Rg) (ri : Addr → Rg) (K : Addr → List Rg → Prop), Fm h₀ X s₀ env loc rs s₁ ∧ Cap env scope cl loc vals ∧ Iters prog w A h₀ X s₀ env loc rs xv ri s₁ ∧
      (∀ D I C s₄, s₁.heap.get? D = none → s₁.heap.get? I = none → Fm h₀ NoX s₁ (compEnvC scope cl C env) vals (listR D [] :: ri I :: rs) s₄ → CompLoop prog w A h₀ s₁ rs elt x px ifs (compEnvC scope cl C env) I D (K D) s₄) ∧
      ∀ D new s', K D new → Fm h₀ X s₀ env loc (new ++ rs) s' → Q (.ref D) s') E s)
    (hclos : closureFor scope env = pure cl)
    (hs : ∀ x, foldedSetIterable iter env x = pure x := by intro _; with_unfolding_all rfl) (ht : ∀ I v, letOwnedTupleGo (.Name x px) (.ref I) v = pure () := by intro _ _; rfl) :
    wpAny (model prog w) A (eval (.ListComp elt [⟨.Name x px, iter, ifs, 0⟩] scope pos) env) Q E s := by
  rw [eval_ListComp]
  refine wpAny_comprehension_free (use := none) rfl hs hclos hkind hnames (wpAny_mono h (fun xv s₁ h₁ => ?_) fun _ _ e => e)
  obtain ⟨loc, vals, rs, ri, K, F, hc, hit, hl, hQ⟩ := h₁
  refine comp_go F hc hcell hkind hit hl (fun D C new s' hk hC F' => ?_) ht
  obtain ⟨m, n⟩ := F'.rg (nsR C) (.head _)
  refine ⟨m, n, fun h' hs' => hQ D new _ hk ?_⟩
  exact F'.gone (a := C) .hit rfl (F.mod.none_of hC) (fun b o hb e => hs'.extBut b o hb e) rfl rfl

theorem x_assignComp {y : Str} {elt iter : Expr} {x : Str} {px py : Pos} {ifs : List Expr} {pos spos : Pos} {rest : List Stmt} {Q : Flow → Shared → Prop}
    (hcell : ∀ x ∈ scope.names, x.2 ≠ .cell) (hkind : scope.kind = .function) (hnames : ∀ y ∈ scope.names, y.2 = .local → scope.names.lookup y.1 = some .local) {ls : List Str} {gs : List (Str × Value)} (S : Sc h₀ env ls gs) (hy : y ∈ ls)
    (h : wpAny (model prog w) A (eval iter env) (fun xv s₁ => ∃ (loc vals : List (Str × Value)) (rs : List Rg) (ri : Addr → Rg) (K : Addr → List Rg → Prop), Fm h₀ X s₀ env loc rs s₁ ∧ Cap env scope cl loc vals ∧ Iters prog w A h₀ X s₀ env loc rs xv ri s₁ ∧
      (∀ D I C s₄, s₁.heap.get? D = none → s₁.heap.get? I = none → Fm h₀ NoX s₁ (compEnvC scope cl C env) vals (listR D [] :: ri I :: rs) s₄ → CompLoop prog w A h₀ s₁ rs elt x px ifs (compEnvC scope cl C env) I D (K D) s₄) ∧
      ∀ D new, K D new → ∃ loc', UpdL y (.ref D) loc loc' ∧ ∀ s', Fm h₀ X s₀ env loc' (new ++ rs) s' → wpAny (model prog w) A (execs rest env) Q E s') E s)
    (hclos : closureFor scope env = pure cl)
    (hsw : swapsWith (.ListComp elt [⟨.Name x px, iter, ifs, 0⟩] scope pos) (some (.Name y py)) spos.line env = pure true)
    (hs : ∀ x, foldedSetIterable iter env x = pure x := by intro _; with_unfolding_all rfl) (ht : ∀ I v, letOwnedTupleGo (.Name x px) (.ref I) v = pure () := by intro _ _; rfl) :
    wpAny (model prog w) A (execs (.Assign [.Name y py] (.ListComp elt [⟨.Name x px, iter, ifs, 0⟩] scope pos) spos :: rest) env) Q E s := by
  refine wpAny_execs_cons ?_
  rw [exec_Assign_Name_used _ _ _ _ hsw]
  refine wpAny_bind (wpAny_standAt (wpAny_bind ?_))
  show wpAny _ A (do let _ ← comprehension (.ListComp elt [⟨.Name x px, iter, ifs, 0⟩] scope pos) scope env _ (newList []) false (eval iter env) (some (assign (.Name y py) env))) _ _ s
  refine wpAny_bind (wpAny_mono (wpAny_comprehension_free (use := some (assign (.Name y py) env)) (Q := fun _ s' => wpAny (model prog w) A (execs rest env) Q E s') rfl hs hclos hkind hnames
    (wpAny_mono h (fun xv s₁ h₁ => ?_) fun _ _ e => e)) (fun _ s' hq => wpAny_pure (wpAny_pure hq)) fun _ _ e => e)
  obtain ⟨loc, vals, rs, ri, K, F, hc, hit, hl, hQ⟩ := h₁
  refine comp_go F hc hcell hkind hit hl (fun D C new s' hk hC F' => ?_) ht
  obtain ⟨loc', u, hq⟩ := hQ D new hk
  show wpAny _ A (assign (.Name y py) env (.ref D)) _ _ _
  refine wpAny_assign_Name (st_loc F' S hy u fun s'' F'' => ?_)
  obtain ⟨m, n⟩ := F''.rg (nsR C) (.head _)
  refine ⟨m, n, fun h' hs' => hq _ ?_⟩
  exact F''.gone (a := C) .hit rfl (F.mod.none_of hC) (fun b o hb e => hs'.extBut b o hb e) rfl rfl

/-! the iterators of lists, of a dict's values, of ranges -/
theorem iters_list {l : Addr} {xs : List Value} (F : Fm h₀ X s₀ env loc rs s₁) (hm : listR l xs ∈ rs) : Iters prog w A h₀ X s₀ env loc rs (.ref l) (fun I => liR I l 0) s₁ :=
  ⟨fun Q E h => wpAny_pyIter_list (F.list hm) (h _ _ (.push _) (get?_size _) (F.alloc s₁.toks rfl (fun a e => e) ⟨_, Heap.get?_push_size _ rfl, rfl, rfl⟩)),
   fun I s h Q E q => wpAny_pyIter_listiter h q⟩
theorem iters_vv {K : Type} [DecidableEq K] {knd : KeyKind prog w K} {d a : Addr} {kvs : List (K × Value)} {ep : Nat} (F : Fm h₀ X s₀ env loc rs s₁) (hv : vvR a d ∈ rs) (hm : dipR knd d kvs ep ∈ rs) : Iters prog w A h₀ X s₀ env loc rs (.ref a) (fun I => viR I d 0 kvs.length ep) s₁ := by
  obtain ⟨y, z⟩ := F.rg _ hm
  exact ⟨fun Q E h => wpAny_pyIter_values (F.rg _ hv) y (h _ _ (.push _) (get?_size _) (F.alloc s₁.toks rfl (fun a e => e) ⟨_, Heap.get?_push_size _ rfl, rfl, rfl⟩)),
   fun I s h Q E q => wpAny_pyIter_valiter h q⟩
theorem iters_rng {l : Addr} {n : Nat} (F : Fm h₀ X s₀ env loc rs s₁) (hm : rngR l 0 n 1 ∈ rs) (hz : n < 2 ^ 60) : Iters prog w A h₀ X s₀ env loc rs (.ref l) (fun I => riR I 0 n 1) s₁ := by
  obtain ⟨t, u, v, e⟩ := F.rg _ hm
  refine ⟨fun Q E h => wpAny_pyIter_range e (small_one (by lia) (by lia) (by lia) (by lia)) (h _ _ (.push (t := s₁.toks) _) (get?_size _) (F.alloc s₁.toks rfl (fun a e => e) ?_)),
   fun I s h Q E q => wpAny_pyIter_rangeiter h q⟩
  have e1 : Builtin.Range.rangeSize 0 n 1 = n := by rw [rangeSize_one]; split <;> lia
  show IsRangeIter _ _ _ _ _
  rw [e1]; exact Heap.get?_push_size _ rfl
end
end
end

section -- I1
open PySem PySem.Calls PySem.W PyProof.Rows
set_option Elab.async false
set_option maxRecDepth 100000
set_option linter.unusedVariables false
noncomputable section

/-! a list's iterator and its bound __next__ -/
noncomputable abbrev liObj (l : Addr) (i : Nat) : Obj := { cls := .type "list_iterator", data := .fields #[.ref l, .int i 0] }
noncomputable abbrev mwObj (I : Addr) : Obj := { cls := .type "method-wrapper", data := .fields #[.builtin "list_iterator.__next__", .ref I] }

theorem li_lookup_next : typeLookup (.type "list_iterator") ("__next__" : Str) = pure (some (.builtin "list_iterator.__next__")) := slot_listiter_next.lookup
theorem li_getattribute : Slot "list_iterator" "__getattribute__" "object.__getattribute__" :=
  .of (owner := "object") (n := "__getattribute__") (by rw [typeLookup_type, builtinLookup_eq_fast]; kernel_rfl) (by decide +kernel) (by decide +kernel) (by decide +kernel)
    (by first | exact .inl (by decide +kernel) | exact .inr (by decide +kernel)) (by rw [isSubtype_type]; kernel_rfl)
theorem li_getattr_none : typeLookup (.type "list_iterator") "__getattr__" = pure none := by rw [typeLookup_type, builtinLookup_eq_fast]; kernel_rfl

theorem li_kind : builtinKind "list_iterator.__next__" = some .slot := by decide +kernel
theorem wd_get : typeLookup (.type "wrapper_descriptor") ("__get__" : Str) = pure (some (.builtin "wrapper_descriptor.__get__")) := by rw [typeLookup_type, builtinLookup_eq_fast]; kernel_rfl
theorem wd_set : typeLookup (.type "wrapper_descriptor") ("__set__" : Str) = pure none := by rw [typeLookup_type, builtinLookup_eq_fast]; kernel_rfl
theorem wd_del : typeLookup (.type "wrapper_descriptor") ("__delete__" : Str) = pure none := by rw [typeLookup_type, builtinLookup_eq_fast]; kernel_rfl
theorem wd_slot : Slot "wrapper_descriptor" "__get__" "wrapper_descriptor.__get__" :=
  .of (owner := "wrapper_descriptor") (n := "__get__") (by rw [typeLookup_type, builtinLookup_eq_fast]; kernel_rfl) (by decide +kernel) (by decide +kernel) (by decide +kernel)
    (by first | exact .inl (by decide +kernel) | exact .inr (by decide +kernel)) (by rw [isSubtype_type]; kernel_rfl)
theorem wd_entry : entryFor table "wrapper_descriptor.__get__" = some Builtin.«wrapper_descriptor.__get__» := entryFor_of_tree (by kernel_rfl)
theorem wd_args (a b c : Value) : argsOk "wrapper_descriptor.__get__" ⟨[a, b, c], []⟩ := by unfold argsOk; kernel_rfl
theorem wd_type : typeOf (.builtin "list_iterator.__next__") = pure (.type "wrapper_descriptor") := by show builtinType _ = _; rw [builtinType_eq_fast]; kernel_rfl
theorem li_sub : isSubtype (.type "list_iterator") (.type "list_iterator") = pure true := by rw [isSubtype_type]; kernel_rfl
set_option maxHeartbeats 4000000 in
theorem code_wd_get {prog : Program} {w : World} {A : Around} {I l : Addr} {i : Nat} {s : Shared} {R : Result → Shared → Prop} (hx : s.heap.get? I = some (liObj l i)) (h : R (.ok (.ret (.ref s.heap.objs.size))) { s with heap := s.heap.push (mwObj I) }) :
    codeAny (model prog w) A (.call (.builtin "wrapper_descriptor.__get__") ⟨[.builtin "list_iterator.__next__", .ref I, .type "list_iterator"], []⟩) R s := by
  obtain ⟨hp, g, d, tk, os⟩ := s
  have hT : (⟨hp, g, d, tk, os⟩ : Shared).TypeIs (.ref I) "list_iterator" := ⟨_, hx, rfl⟩
  refine codeAny_call_builtin wd_slot.plain wd_entry (wd_slot.check _ _ _ _ _ _ _ _ wd_type (wd_args _ _ _) ?_)
  unfold Builtin.«wrapper_descriptor.__get__»
  have f1 := li_sub
  repeat (any_goals (first | assumption | wp_step))
  rw [show ".".intercalate ("list_iterator.__next__".cutAt '.').dropLast = "list_iterator" by decide +kernel]
  repeat (any_goals (first | assumption | wp_step))
set_option maxHeartbeats 4000000 in
theorem meets_li_next (I : Addr) (l : Addr) (i : Nat) (u : Tok) :
    Meets (Builtin.«object.__getattribute__» ⟨[.ref I, .str "__next__" u], []⟩) (fun A R s => s.heap.get? I = some (liObj l i) ∧ R (.ok (.ret (.ref s.heap.objs.size))) { s with heap := s.heap.push (mwObj I) }) :=
  Meets.of_wp fun prog w A R s hs => by
    obtain ⟨hp, g, d, tk, os⟩ := s
    obtain ⟨hx, hs⟩ := hs
    have hT : (⟨hp, g, d, tk, os⟩ : Shared).TypeIs (.ref I) "list_iterator" := ⟨_, hx, rfl⟩
    have f1 := li_lookup_next
    unfold Builtin.«object.__getattribute__»
    have f0 := wd_type
    have f2 := wd_get
    have f3 := wd_set
    have f4 := wd_del
    repeat (any_goals (first | assumption | (rw [f0]; refine wpAny_bind (wpAny_pure ?_)) | wp_step))
    exact code_wd_get hx (wpAny_pure ⟨_, rfl, hs⟩)
set_option maxHeartbeats 4000000 in
theorem li_getAttr {prog : Program} {w : World} {A : Around} {E : Value → Shared → Prop} {s : Shared} {I l : Addr} {i : Nat} {Q : Value → Shared → Prop} (hx : s.heap.get? I = some (liObj l i))
    (h : Q (.ref s.heap.objs.size) { s with heap := s.heap.push (mwObj I), toks := s.toks + 1 }) : wpAny (model prog w) A (getAttr (.ref I) "__next__" true) Q E s := by
  obtain ⟨hp, g, d, tk, os⟩ := s
  have hT : ∀ tk', (⟨hp, g, d, tk', os⟩ : Shared).TypeIs (.ref I) "list_iterator" := fun _ => ⟨_, hx, rfl⟩
  have f3 := li_getattribute.lookup
  have f4 := li_getattribute.bind (.ref I)
  have f5 := li_getattr_none
  unfold getAttr getAttrBy
  repeat (any_goals (first | assumption | exact hT _ | ((with_reducible show wpAny _ _ (call (Value.builtin "object.__getattribute__") _ _) _ _ _); refine call_meets li_getattribute (hT _) F.entry_object_getattribute (F.args_object_getattribute_2 _ _) (meets_li_next I l i _) ⟨hx, ?_⟩) | wp_step))
  exact wpAny_pure h
end
end

section -- I2
open PySem PySem.Calls PySem.W PyProof.Rows
set_option Elab.async false
set_option maxRecDepth 100000
set_option linter.unusedVariables false
noncomputable section

section
variable {prog : Program} {w : World} {A : Around} {E : Value → Shared → Prop} {s : Shared} {M I l : Addr} {i : Nat} {items : Array Value} {x : Value}
theorem mw_check (I : Addr) : checkBoundCall "list_iterator.__next__" ⟨[.ref I], []⟩ = pure () := by first | kernel_rfl | rfl
theorem mw_plain : plainId "list_iterator.__next__" = true := by decide +kernel
noncomputable abbrev stopObj (t : Addr) : Obj := { cls := .type "StopIteration", data := .fields #[.ref t, .none, .none, .none, .bool false, .none] }
theorem mw_call {Q : Value → Shared → Prop} (hM : s.heap.get? M = some (mwObj I))
    (h : wpAny (model prog w) A.in1 (Builtin.«list_iterator.__next__» ⟨[.ref I], []⟩) (fun fin s' => ∃ v, fin = .done (.ret v) ∧ Q v s') E s) : wpAny (model prog w) A (call (.ref M) []) Q E s := by
  refine wpAny_call (codeAny_of_tree ?_)
  show wpAny _ A.in1 (callAny (.ref M) ⟨[], []⟩) _ _ s
  simp only [callAny]
  refine wpAny_bind (wpAny_load hM ?_)
  simp only [show (Value.type "method-wrapper" == Value.type "method" || Value.type "method-wrapper" == Value.type "builtin_function_or_method" || Value.type "method-wrapper" == Value.type "method-wrapper") = true by decide, if_true]
  refine KFB.if_so (by decide) ?_
  refine wpAny_bind (wpAny_of_eq (a := ()) (mw_check I) ?_)
  refine wpAny_bind (wpAny_pure (wpAny_pure ?_))
  refine ⟨plainId_quiet mw_plain _, codeAny_builtin entry_listiter_next ?_⟩
  rw [Around.under_plainId mw_plain _]
  exact wpAny_mono h (fun fin s' z => by obtain ⟨v, rfl, hq⟩ := z; exact hq) fun _ _ z => z
theorem mw_item {Q : Value → Shared → Prop} (hM : s.heap.get? M = some (mwObj I)) (hit : s.heap.IsListIter I l i) (hl : s.heap.IsList l items) (hx : items[i]? = some x)
    (hQ : ∀ h', h'.IsListIter I l (i + 1) → Heap.SameBut I s.heap h' → Q x { s with heap := h' }) : wpAny (model prog w) A (call (.ref M) []) Q E s := by
  obtain ⟨o, ho, hc, hd⟩ := id hit
  obtain ⟨ol, hol, _, nl, hdl⟩ := hl
  refine mw_call hM ?_
  show wpAny _ _ (field (.ref I) 0 >>= _) _ _ s
  refine wpAny_bind (wpAny_field ho hd (x := .ref l) rfl ?_)
  show wpAny _ _ (if (Value.ref l == Value.none) = true then _ else _) _ _ s
  rw [if_neg (show ¬ ((Value.ref l == Value.none) = true) from Bool.false_ne_true)]
  show wpAny _ _ (field (.ref I) 1 >>= _) _ _ s
  refine wpAny_bind (wpAny_field ho hd (x := .int i 0) rfl ?_)
  show wpAny _ _ (seqItems? (.ref l) >>= _) _ _ s
  refine wpAny_bind (wpAny_seqItems hol hdl ?_)
  simp only [Int.toNat_natCast, hx]
  refine wpAny_bind (wpAny_setField ho hd (by simp) (wpAny_pure ⟨x, rfl, hQ _ ?_ (Heap.SameBut.update ..)⟩))
  exact ⟨_, Heap.get?_update_self _ ho (Obj.isFreed_of_fields (Obj.data_mapFields hd _)), (Obj.cls_mapFields ..).trans hc, by
    rw [Obj.data_mapFields hd]; simp [rawInt]⟩
theorem mw_end {Q : Value → Shared → Prop} (hh : A.handled = none) (hM : s.heap.get? M = some (mwObj I)) (hit : s.heap.IsListIter I l i) (hl : s.heap.IsList l items) (hx : items[i]? = none)
    (hE : ∀ h' e t, Heap.ExtBut I s.heap h' → s.heap.get? e = none → h'.get? e = some (stopObj t) → (∃ o, h'.get? I = some o) → E (.ref e) { s with heap := h' }) : wpAny (model prog w) A (call (.ref M) []) Q E s := by
  obtain ⟨o, ho, hc, hd⟩ := id hit
  obtain ⟨ol, hol, _, nl, hdl⟩ := hl
  refine mw_call hM ?_
  show wpAny _ _ (field (.ref I) 0 >>= _) _ _ s
  refine wpAny_bind (wpAny_field ho hd (x := .ref l) rfl ?_)
  show wpAny _ _ (if (Value.ref l == Value.none) = true then _ else _) _ _ s
  rw [if_neg (show ¬ ((Value.ref l == Value.none) = true) from Bool.false_ne_true)]
  show wpAny _ _ (field (.ref I) 1 >>= _) _ _ s
  refine wpAny_bind (wpAny_field ho hd (x := .int i 0) rfl ?_)
  show wpAny _ _ (seqItems? (.ref l) >>= _) _ _ s
  refine wpAny_bind (wpAny_seqItems hol hdl ?_)
  simp only [Int.toNat_natCast, hx]
  refine wpAny_bind (wpAny_rule (wpAny_bind (wpAny_setField ho hd (by simp) ?_)))
  show wpAny _ _ (newExc (.type "StopIteration") [] >>= _) _ _ _
  refine wpAny_bind ?_
  simp only [newExc, newTuple]
  refine wpAny_bind (wpAny_newObj_type ?_ (by size_fits))
  refine wpAny_bind (m := firstArgMember _ _) (wpAny_of_eq (a := Value.none) (by first | rfl | (simp only [firstArgMember]; rfl)) ?_)
  refine wpAny_newObj_type ?_ (by size_fits)
  simp only [raiseNew]
  refine wpAny_bind (wpAny_handled ?_)
  rw [show A.in1.handled = none from hh]
  refine wpAny_bind (wpAny_pure (wpAny_throw ?_))
  have hx := ((Heap.SameBut.update s.heap I (Obj.mapFields (·.setIfInBounds 0 .none))).extBut.push { cls := .type "tuple", data := .seq ([] : List Value).toArray }).push (stopObj (s.heap.update I (Obj.mapFields (·.setIfInBounds 0 .none))).objs.size)
  refine hE _ _ (s.heap.update I (Obj.mapFields (·.setIfInBounds 0 .none))).objs.size hx ?_ (Heap.get?_push_size _ rfl) ?_
  · exact Heap.get?_none_of_le (by simp)
  · exact ⟨_, Heap.get?_push_of_some _ (Heap.get?_push_of_some _ (Heap.get?_update_self _ ho (Obj.isFreed_of_fields (Obj.data_mapFields hd _))))⟩
end
end
end

section -- I3
open PySem PySem.Calls PySem.W PyProof.Rows
set_option Elab.async false
set_option maxRecDepth 100000
set_option linter.unusedVariables false
noncomputable section

/-! the outer frames, whose slots a traceback writes -/
noncomputable def frR (fs : List (Addr × Obj)) : Rg :=
  ⟨fun a => a ∈ fs.map (·.1), fun h => ∀ p ∈ fs, (∃ es n, p.2.data = .dict es n) ∧ ∃ sl, h.get? p.1 = some { p.2 with slots := sl },
   fun _ _ k H p hp => ⟨(H p hp).1, let ⟨sl, e⟩ := (H p hp).2; ⟨sl, k _ _ (List.mem_map.mpr ⟨p, hp, rfl⟩) e⟩⟩⟩
noncomputable def Outs (A : Around) (fs : List (Addr × Obj)) : Prop := ∃ outer : List Env, A.frames = some outer ∧ (∀ e ∈ outer, e.scope.kind ≠ .module) ∧ outer.map (·.frame) = fs.map (fun p => some p.1)
theorem Outs.deeper {A : Around} {fs : List (Addr × Obj)} {env : Env} {L : Addr} {o : Obj} (x : Outs A fs) (hk : env.scope.kind ≠ .module) (hf : env.frame = some L) : Outs (A.deeper env) ((L, o) :: fs) := by
  obtain ⟨outer, h1, h2, h3⟩ := x
  refine ⟨env :: outer, Around.frames_deeper h1, fun e he => ?_, by rw [List.map_cons, List.map_cons, h3, hf]⟩
  rcases List.mem_cons.mp he with rfl | he
  · exact hk
  · exact h2 e he
noncomputable def anyR (a : Addr) : Rg := ⟨(· = a), fun h => ∃ o, h.get? a = some o, fun _ _ k ⟨o, e⟩ => ⟨o, k a o rfl e⟩⟩

section
variable {prog : Program} {w : World} {A : Around} {E : Value → Shared → Prop} {h₀ : Heap} {X : Addr → Prop} {s₀ s : Shared} {env : Env} {loc : List (Str × Value)} {rs : List Rg} {fs : List (Addr × Obj)}
theorem funFrames_of {h base : Heap} : ∀ {outer : List Env} {fs : List (Addr × Obj)}, (∀ e ∈ outer, e.scope.kind ≠ .module) → outer.map (·.frame) = fs.map (fun p => some p.1) →
    (∀ p ∈ fs, (∃ es n, p.2.data = .dict es n) ∧ ∃ sl, h.get? p.1 = some { p.2 with slots := sl }) → (∀ p ∈ fs, base.get? p.1 = none) → h.FunFrames base outer
  | [], _, _, _, _, _ => trivial
  | e :: r, [], _, hm, _, _ => by simp at hm
  | e :: r, p :: fs, hk, hm, hp, hb => by
    rw [List.map_cons, List.map_cons] at hm
    injection hm with h1 h2
    obtain ⟨⟨es, n, hd⟩, sl, ho⟩ := hp p (.head _)
    exact ⟨hk e (.head _), ⟨p.1, _, h1, hb p (.head _), ho, fun vs q => by rw [show ({ p.2 with slots := sl } : Obj).data = p.2.data from rfl, hd] at q; cases q⟩,
      funFrames_of (fun e he => hk e (.tail _ he)) h2 (fun p hp' => hp p (.tail _ hp')) fun p hp' => hb p (.tail _ hp')⟩

/-- frames' slots written, and an object ex that nobody knows: nothing that the bundle knows -/
theorem Fm.slotted {h' : Heap} {t : Nat} {ex : Addr} (F : Fm h₀ X s₀ env loc (anyR ex :: rs) s) (hm : frR fs ∈ rs) (hX : ∀ a ∈ fs.map (·.1), Wr X s₀ a) (hex : s₀.heap.get? ex = none) (hcells : env.cells = [])
    (hk : ∀ b o, b ≠ ex → b ≠ env.locals → b ∉ fs.map (·.1) → s.heap.get? b = some o → h'.get? b = some o) (hxx : ∃ o, h'.get? ex = some o) (hs : s.heap.UpToSlots h') : Fm h₀ X s₀ env loc (anyR ex :: rs) { s with heap := h', toks := t } := by
  have hm' : frR fs ∈ anyR ex :: rs := .tail _ hm
  have H := F.rg _ hm'
  have hexr := (List.pairwise_cons.mp F.rp).1
  have hex0 := F.rd _ (.head _) ex rfl
  have fdict : ∀ b ∈ fs.map (·.1), ∀ o, s.heap.get? b = some o → ∃ es n, o.data = .dict es n := fun b hb o e => by
    obtain ⟨p, hp, rfl⟩ := List.mem_map.mp hb
    obtain ⟨⟨es, n, hd⟩, sl, ho⟩ := H p hp
    rw [ho] at e; cases e; exact ⟨es, n, hd⟩
  have dom : ∀ b o, s.heap.get? b = some o → ∃ o', h'.get? b = some o' := fun b o e => by
    by_cases q0 : b = ex
    · exact q0 ▸ hxx
    by_cases q1 : b = env.locals
    · subst q1
      obtain ⟨m, ⟨oL, es, ep, eL, hd, _⟩, _⟩ := F.ns
      rw [eL] at e; cases e
      obtain ⟨sl, e'⟩ := hs _ _ eL fun vs q => by rw [hd] at q; cases q
      exact ⟨_, e'⟩
    · by_cases q2 : b ∈ fs.map (·.1)
      · obtain ⟨es, n, hd⟩ := fdict b q2 o e
        obtain ⟨sl, e'⟩ := hs _ _ e fun vs q => by rw [hd] at q; cases q
        exact ⟨_, e'⟩
      · exact ⟨o, hk b o q0 q1 q2 e⟩
  have md : Md (fun a => a = ex ∨ a = env.locals ∨ a ∈ fs.map (·.1)) s { s with heap := h', toks := t } := ⟨fun b o hb e => hk b o (fun q => hb (.inl q)) (fun q => hb (.inr (.inl q))) (fun q => hb (.inr (.inr q))) e, dom, rfl, rfl⟩
  refine ⟨F.mod.trans md fun b q => q.elim (fun q => .inr (q ▸ hex)) fun q => q.elim (fun q => .inr (q ▸ F.lw)) fun q => hX b q, md.base F.base fun a q => q.elim (fun q => q ▸ hex0.1) fun q => q.elim (fun q => q ▸ (F.vd _ (.head _)).1) fun q => (F.rd _ hm' a q).1, F.fk, F.cnd, F.lnd, ?_, F.lw, ?_, ?_, ?_, F.rp, fun p hp => by rw [hcells] at hp; cases hp⟩
  · obtain ⟨m, n, hv⟩ := F.ns
    refine ⟨m, hs.ns n, fun p hp => ?_⟩
    cases hv p hp with
    | loc hk hd hm => exact .loc hk hd hm
    | cel c hk hd hc ho => rw [hcells] at hc; cases hc
  · intro a v; obtain ⟨h1, o, e⟩ := F.vd a v; exact ⟨h1, dom a o e⟩
  · intro r hr
    rcases List.mem_cons.mp hr with rfl | hr'
    · exact hxx
    by_cases q : r = frR fs
    · subst q
      intro p hp
      obtain ⟨hd, sl, ho⟩ := H p hp
      obtain ⟨es, n, hd'⟩ := hd
      obtain ⟨sl', e'⟩ := hs _ _ ho fun vs q => by rw [show ({ p.2 with slots := sl } : Obj).data = p.2.data from rfl, hd'] at q; cases q
      exact ⟨⟨es, n, hd'⟩, sl', e'⟩
    · refine r.stable _ _ (fun a o f e => hk a o (fun z => hexr r hr' a z f) (fun z => (F.rd r hr a f).2.2 (by rw [z]; exact .head _)) (fun z => ?_) e) (F.rg r hr)
      exact F.ne hr hm' q f z rfl
  · intro r hr a f; obtain ⟨h1, ⟨o, e⟩, h3⟩ := F.rd r hr a f; exact ⟨h1, dom a o e, h3⟩

theorem isExc_Stop : isSubtype (.type "StopIteration") (.type "BaseException") = pure true := by rw [isSubtype_type]; kernel_rfl
theorem notTup_Stop : isSubtype (.type ((Manifest.find? "StopIteration").elim "type" fun x => x.metatype)) (.type "tuple") = pure false := by kernel_rfl
theorem sub_Stop : isSubtype (.type "StopIteration") (.type "StopIteration") = pure true := isSubtype_stop

theorem try_stop {ea t : Addr} {ls : List Str} {gs : List (Str × Value)} {outer : List Env} {b₀ : Stmt} {suite : List Stmt} {pos np : Pos} {Q : Flow → Shared → Prop} (F : Fm h₀ X s₀ env loc (anyR ea :: rs) s) (he : s.heap.get? ea = some (stopObj t)) (hea : s₀.heap.get? ea = none)
    (hm : frR fs ∈ rs) (hX : ∀ a ∈ fs.map (·.1), Wr X s₀ a) (hcells : env.cells = []) (hfr : A.frames = some (env :: outer)) (hkk : ∀ e ∈ outer, e.scope.kind ≠ .module) (hmap : outer.map (·.frame) = fs.map (fun p => some p.1)) (hfL : env.frame = some env.locals)
    (S : Sc h₀ env ls gs) (hst : (("StopIteration" : Str), Value.type "StopIteration") ∈ gs)
    (h : ∀ s', Fm h₀ X s₀ env loc rs s' → wpAny (model prog w) (A.mark (some (.ref ea))) (execs (b₀ :: suite) env) Q NoE s') :
    wpAny (model prog w) A (noteFrame (.ref ea) env) (fun _ s₂ => wpAny (model prog w) A (setFlight (.ref ea) none) (fun _ s₃ =>
      wpAny (model prog w) A (handleBy (.ref ea) env [.ExceptHandler (some (.Name ("StopIteration" : Str) np)) none (b₀ :: suite) pos]) Q E s₃) E s₂) E s := by
  have H := F.rg _ (List.mem_cons_of_mem _ hm)
  have k0 : ∀ b o, (hideAll s.heap (ea :: env.locals :: fs.map (·.1))).get? b = some o → s.heap.get? b = some o := fun b o e => of_hideAll _ e
  have k1 : ∀ b o, b ≠ ea → b ≠ env.locals → b ∉ fs.map (·.1) → s.heap.get? b = some o → (hideAll s.heap (ea :: env.locals :: fs.map (·.1))).get? b = some o := fun b o h1 h2 h3 e => hideAll_get _ e (by simp only [List.mem_cons, not_or]; exact ⟨h1, h2, h3⟩)
  have n1 : (hideAll s.heap (ea :: env.locals :: fs.map (·.1))).get? ea = none := hideAll_none _ (.head _)
  have n2 : (hideAll s.heap (ea :: env.locals :: fs.map (·.1))).get? env.locals = none := hideAll_none _ (.tail _ (.head _))
  have n3 : ∀ p ∈ fs, (hideAll s.heap (ea :: env.locals :: fs.map (·.1))).get? p.1 = none := fun p hp => hideAll_none _ (.tail _ (.tail _ (List.mem_map.mpr ⟨p, hp, rfl⟩)))
  generalize hideAll s.heap (ea :: env.locals :: fs.map (·.1)) = base at k0 k1 n1 n2 n3
  have hff : s.heap.FunFrames base (env :: outer) := by
    obtain ⟨m, ⟨oL, es, ep, eL, hd, _⟩, _⟩ := F.ns
    exact ⟨by rw [F.fk]; decide, ⟨env.locals, oL, hfL, n2, eL, fun vs q => by rw [hd] at q; cases q⟩, funFrames_of hkk hmap H n3⟩
  have after : ∀ h', base.StaysIn h' → s.heap.UpToSlots h' → (∃ o, h'.get? ea = some o) → Fm h₀ X s₀ env loc (anyR ea :: rs) { s with heap := h', toks := s.toks } := fun h' st us hx =>
    F.slotted hm hX hea hcells (fun b o q0 q1 q2 e => st b o (k1 b o q0 q1 q2 e)) hx us
  unfold noteFrame
  simp only [hfL]
  refine wpAny_bind (wpAny_field he rfl (x := .none) rfl ?_)
  rw [if_neg (by decide)]
  refine wpAny_entryW hfr hff hfL he k0 n1 rfl (by simp) (a0 := .ref t) rfl fun h₄ hN => ?_
  obtain ⟨a1, a2, a3, a4⟩ := hN
  refine wpAny_landsW ⟨a1, n1, a2, a3⟩ fun h₅ hfl us5 => ?_
  have us45 : s.heap.UpToSlots h₅ := Heap.UpToSlots.trans (h₂ := h₄) a4 us5
  obtain ⟨ob, hob, hobc⟩ := hfl.there
  have F5 := after h₅ hfl.1 us45 ⟨ob, hob⟩
  refine wpAny_handleBy_builtin (X := "StopIteration") (T := "StopIteration") (b := true) isExc_Stop notTup_Stop sub_Stop (ev_glb F5 S hst ⟨rfl, ⟨ob, hob, hobc⟩, ?_⟩)
  refine lands_againW hfl fun h₆ hfl6 us6 => ?_
  obtain ⟨ob6, hob6, _⟩ := hfl6.there
  have F6 := after h₆ hfl6.1 (us45.trans us6) ⟨ob6, hob6⟩
  exact noE (h _ (F6.sub (.cons _ (.refl _))))
end
end
end

section -- I4
open PySem PySem.Calls PySem.W PyProof.Rows
set_option Elab.async false
set_option maxRecDepth 100000
set_option linter.unusedVariables false
noncomputable section



/-! sets of naturals -/
section
variable {prog : Program} {w : World} {A : Around} {E : Value → Shared → Prop} {P : Params} {h₀ : Heap} {X : Addr → Prop} {s₀ s : Shared} {env : Env} {loc : List (Str × Value)} {rs rs' rs1 : List Rg} {a : Addr} {sn : List Nat} {k : Nat} {t : Tok}
noncomputable def seR (prog : Program) (w : World) (a : Addr) (sn : List Nat) : Rg :=
  ⟨(· = a), fun h => ∃ (S : Int → Bool) (n : Nat), h.SetOf (intKind prog w) a S n ∧ n ≤ sn.length ∧ ∀ k : Nat, S k = decide (k ∈ sn),
   fun _ _ k ⟨S, n, ⟨o, es, ep, t, ho, r⟩, z⟩ => ⟨S, n, ⟨o, es, ep, t, k a o rfl ho, r⟩, z⟩⟩
theorem op_set0 {Q : Value → Shared → Prop} (F : Fm h₀ X s₀ env loc rs s) (h : ∀ a s', s₀.heap.get? a = none → Fm h₀ X s₀ env loc (seR prog w a [] :: rs) s' → Q (.ref a) s') : wpAny (model prog w) A (call (.type "set") []) Q E s :=
  call_set_0 fun led => h _ _ (F.mod.none_of (get?_size _)) (F.alloc s.toks rfl (fun a e => e)
    ⟨fun _ => false, 0, (Obj.SetObjOf.setOf ((intSetOf_fresh led).kind prog w) (Heap.get?_push_size _ rfl) (by decide)), Nat.zero_le _, fun k => by simp⟩)
theorem in_set {Q : Value → Shared → Prop} (F : Fm h₀ X s₀ env loc rs s) (hm : seR prog w a sn ∈ rs) (h : ∀ s', Fm h₀ X s₀ env loc rs s' → Q (.bool (decide (k ∈ sn))) s') : wpAny (model prog w) A (compareOp .In (.int (k : Nat) t) (.ref a)) Q E s := by
  obtain ⟨S, n, hS, _, hk⟩ := F.rg _ hm
  exact wpAny_inSet_of (intKind_is _ _ _ _) rfl hS (by rw [hk]; exact h _ (F.toks _))
theorem meth_setadd {pl : Sem Bool} {Q : Value × List Value → Shared → Prop} (F : Fm h₀ X s₀ env loc rs s) (hm : seR prog w a sn ∈ rs) (h : Q (.builtin "set.add", [.ref a]) s) : wpAny (model prog w) A (getMethod (.ref a) "add" pl) Q E s := by
  obtain ⟨S, n, hS, _, hk⟩ := F.rg _ hm
  exact getMethod_set_add hS h
theorem op_setadd {Q : Value → Shared → Prop} (F : Fm h₀ X s₀ env loc rs s) (up : UpdR (seR prog w a sn) (seR prog w a (k :: sn)) rs rs') (hw : Wr X s₀ a) (hz : sn.length < 1000) (h : ∀ s', Fm h₀ X s₀ env loc rs' s' → Q .none s') :
    wpAny (model prog w) A (call (.builtin "set.add") [.ref a, .int (k : Nat) t]) Q E s := by
  obtain ⟨S, n, hS, hn, hk⟩ := F.rg _ up.mem
  refine call_set_add (intKind_is _ _ _ _) rfl hS (Nat.lt_of_le_of_lt (Nat.succ_le_succ hn) (Nat.lt_of_lt_of_le (Nat.succ_lt_succ hz) (by decide))) fun h' hs hS' => ?_
  have hS2 := hS'
  obtain ⟨o, _, _, _, ho, _⟩ := hS2
  refine h _ (F.ch1 up (.same hs ho) hw ⟨_, _, hS', ?_, fun j => ?_⟩)
  · rw [List.length_cons]; split <;> lia
  · rw [hk]
    by_cases e : j = k
    · subst e; simp
    · have : decide ((j : Int) = (k : Int)) = false := decide_eq_false fun q => e (by lia)
      rw [this]; simp [e]
end
end
end

section -- I5
open PySem PySem.Calls PySem.W PyProof.Rows PySem.Builtin
set_option Elab.async false
set_option maxRecDepth 100000
set_option linter.unusedVariables false
noncomputable section



structure It where
  node : Nat
  M : Addr
  I : Addr
  i : Nat
noncomputable def trR (M I l : Addr) (i : Nat) : Rg :=
  ⟨fun a => a = M ∨ a = I, fun h => M ≠ I ∧ h.get? M = some (mwObj I) ∧ h.IsListIter I l i,
   fun _ _ k ⟨h1, h2, h3⟩ => ⟨h1, k _ _ (.inl rfl) h2, h3.at fun o e => k _ o (.inr rfl) e⟩⟩
noncomputable def Apart (q r : It) : Prop := q.M ≠ r.M ∧ q.M ≠ r.I ∧ q.I ≠ r.M ∧ q.I ≠ r.I
noncomputable def stR (succ : Nat → Addr) (st : List It) : Rg :=
  ⟨fun a => ∃ q ∈ st, a = q.M ∨ a = q.I, fun h => st.Pairwise Apart ∧ ∀ q ∈ st, q.M ≠ q.I ∧ h.get? q.M = some (mwObj q.I) ∧ h.IsListIter q.I (succ q.node) q.i,
   fun _ _ k ⟨h0, H⟩ => ⟨h0, fun q hq => ⟨(H q hq).1, k _ _ ⟨q, hq, .inl rfl⟩ (H q hq).2.1, (H q hq).2.2.at fun o e => k _ o ⟨q, hq, .inr rfl⟩ e⟩⟩⟩
section
variable {prog : Program} {w : World} {A : Around} {E : Value → Shared → Prop} {P : Params} {h₀ : Heap} {X : Addr → Prop} {s₀ s : Shared} {env : Env} {loc : List (Str × Value)} {rs rs' rs1 : List Rg} {succ : Nat → Addr} {st : List It} {q : It}
theorem Fm.stPush (F : Fm h₀ X s₀ env loc rs s) (v : RemR (trR q.M q.I (succ q.node) q.i) rs rs1) (u : UpdR (stR succ st) (stR succ (st ++ [q])) rs1 rs') : Fm h₀ X s₀ env loc rs' s := by
  refine F.merge v u (fun a ⟨r, hr, f⟩ => ?_) fun ⟨h1, h2, h3⟩ ⟨g1, g2⟩ dj => ⟨?_, fun r hr => ?_⟩
  · rcases List.mem_append.mp hr with hr | hr
    · exact .inr ⟨r, hr, f⟩
    · rw [List.mem_singleton.mp hr] at f; exact .inl f
  · refine List.pairwise_append.mpr ⟨g1, List.pairwise_singleton _ _, fun r hr p hp => ?_⟩
    rw [List.mem_singleton.mp hp]
    exact ⟨fun e => dj q.M (.inl rfl) ⟨r, hr, .inl e.symm⟩, fun e => dj q.I (.inr rfl) ⟨r, hr, .inl e.symm⟩, fun e => dj q.M (.inl rfl) ⟨r, hr, .inr e.symm⟩, fun e => dj q.I (.inr rfl) ⟨r, hr, .inr e.symm⟩⟩
  · rcases List.mem_append.mp hr with hr | hr
    · exact g2 r hr
    · rw [List.mem_singleton.mp hr]; exact ⟨h1, h2, h3⟩
theorem Fm.stTop (F : Fm h₀ X s₀ env loc rs s) (u : UpdR (stR succ (st ++ [q])) (stR succ st) rs rs') : Fm h₀ X s₀ env loc (trR q.M q.I (succ q.node) q.i :: rs') s := by
  refine F.split u (fun a f => ⟨q, by simp, f⟩) (fun a ⟨r, hr, f⟩ => ⟨r, List.mem_append_left _ hr, f⟩) (fun a f ⟨r, hr, g⟩ => ?_) fun ⟨g1, g2⟩ => ⟨g2 q (by simp), (List.pairwise_append.mp g1).1, fun r hr => g2 r (List.mem_append_left _ hr)⟩
  obtain ⟨g1, _⟩ := F.rg _ u.mem
  obtain ⟨a1, a2, a3, a4⟩ := (List.pairwise_append.mp g1).2.2 r hr q (.head _)
  rcases f with rfl | rfl
  · exact g.elim (fun e => a1 e.symm) fun e => a3 e.symm
  · exact g.elim (fun e => a2 e.symm) fun e => a4 e.symm

noncomputable def liX (I l : Addr) (i : Nat) : Rg := ⟨(· = I), fun h => h.get? I = some (liObj l i), fun _ _ k e => k I _ rfl e⟩
theorem iter_entry : entryFor table "iter" = some Builtin.«iter» := kdk_entry_iter
theorem op_iter {l : Addr} {xs : List Value} {Q : Value → Shared → Prop} (F : Fm h₀ X s₀ env loc rs s) (hl : s.heap.IsList l xs.toArray) (h : ∀ I s', s₀.heap.get? I = none → Fm h₀ X s₀ env loc (liX I l 0 :: rs) s' → Q (.ref I) s') :
    wpAny (model prog w) A (call (.builtin "iter") [.ref l]) Q E s := by
  refine call_function_entry (by decide +kernel) (by decide +kernel) kdk_entry_iter (kdk_args_iter _) ?_
  unfold Builtin.«iter»
  refine wpAny_bind (m := someArgs "iter" 1 2 _) (wpAny_of_eq (a := [Value.ref l]) (by first | rfl | kernel_rfl!) ?_)
  show wpAny _ _ (pyIter (.ref l) >>= _) _ _ _
  refine wpAny_bind (wpAny_pyIter_list hl ?_)
  exact wpAny_pure ⟨_, rfl, h _ _ (F.mod.none_of (get?_size _)) (F.alloc s.toks rfl (fun a e => e) (Heap.get?_push_size _ rfl))⟩
theorem at_next {I l : Addr} {i : Nat} {Q : Value → Shared → Prop} (F : Fm h₀ X s₀ env loc rs s) (v : RemR (liX I l i) rs rs') (h : ∀ M s', s₀.heap.get? M = none → Fm h₀ X s₀ env loc (trR M I l i :: rs') s' → Q (.ref M) s') :
    wpAny (model prog w) A (getAttr (.ref I) "__next__" true) Q E s := by
  have hx : s.heap.get? I = some (liObj l i) := F.rg _ v.mem
  refine li_getAttr hx (h _ _ (F.mod.none_of (get?_size _)) ?_)
  have G := (F.perm v.perm.symm).alloc (o := mwObj I) (r := objR s.heap.objs.size (· = mwObj I)) (s.toks + 1) rfl (fun a e => e) ⟨_, Heap.get?_push_size _ rfl, rfl⟩
  refine G.merge (r := trR s.heap.objs.size I l i) .hit .hit (fun a f => f) fun ⟨o, e, ho⟩ hI dj => ⟨fun e2 => dj _ rfl e2, ho ▸ e, ⟨_, hI, rfl, rfl⟩⟩
theorem cw_mw {M I l : Addr} {i : Nat} {pos : Pos} {Q : Value → Shared → Prop} (F : Fm h₀ X s₀ env loc rs s) (hm : trR M I l i ∈ rs) (h : wpAny (model prog w) A (call (.ref M) []) Q E s) :
    wpAny (model prog w) A (callWith pos (.ref M) [] (backTo pos (starEach [] env)) []) Q E s := by
  obtain ⟨_, hM, _⟩ := F.rg _ hm
  refine callWith_of (P := fun h => h.get? M = some (mwObj I)) rfl (fun h e => ⟨.machine, .inr (.inl rfl), (Looks.ld (part := none) e).andThen .now⟩) (evalArgs_nil3 ⟨hM, h⟩)
theorem mw_next {M I l : Addr} {i : Nat} {xs : List Value} {v : Value} {Q : Value → Shared → Prop} (F : Fm h₀ X s₀ env loc rs s) (u : UpdR (trR M I l i) (trR M I l (i + 1)) rs rs') (hw : ∀ a, (trR M I l i).foot a → Wr X s₀ a) (hl : s.heap.IsList l xs.toArray) (hx : xs[i]? = some v)
    (h : ∀ s', Fm h₀ X s₀ env loc rs' s' → Q v s') : wpAny (model prog w) A (call (.ref M) []) Q E s := by
  obtain ⟨hne, hM, hI⟩ := F.rg _ u.mem
  refine mw_item hM hI hl (by simpa using hx) fun h' hI' hs => h _ ?_
  have hI2 := hI'
  obtain ⟨o, ho, _⟩ := hI2
  refine F.change u ((Md.same (t := s.toks) hs ho).wide fun a e => .inl (.inr e)) hw (fun a f => ⟨.inl f, ?_⟩) ⟨hne, (hs.2 M hne).trans hM, hI'⟩
  · obtain ⟨_, ⟨o', e'⟩, _⟩ := F.rd _ u.mem a f
    exact (Md.same (t := s.toks) hs ho).dom a o' e'
theorem Fm.addOld {r : Rg} (G : Fm h₀ X s₀ env loc rs s) (hf : ∀ a, r.foot a → h₀.get? a = none ∧ (∃ o, s.heap.get? a = some o) ∧ ¬ vf env a ∧ ∀ q ∈ rs, ¬ q.foot a) (hh : r.holds s.heap) : Fm h₀ X s₀ env loc (r :: rs) s := by
  refine ⟨G.mod, G.base, G.fk, G.cnd, G.lnd, G.ns, G.lw, G.vd, ?_, ?_, ?_, G.cc⟩
  · intro q hq; rcases List.mem_cons.mp hq with rfl | hq; exact hh; exact G.rg q hq
  · intro q hq a f
    rcases List.mem_cons.mp hq with rfl | hq
    · exact ⟨(hf a f).1, (hf a f).2.1, (hf a f).2.2.1⟩
    · exact G.rd q hq a f
  · exact List.pairwise_cons.mpr ⟨fun q hq a f => (hf a f).2.2.2 q hq, G.rp⟩
theorem mw_stop {M I l : Addr} {i : Nat} {xs : List Value} {Q : Value → Shared → Prop} (hh : A.handled = none) (F : Fm h₀ X s₀ env loc rs s) (v : RemR (trR M I l i) rs rs') (hI0 : s₀.heap.get? I = none) (hl : s.heap.IsList l xs.toArray) (hx : xs[i]? = none)
    (h : ∀ e t s', s'.heap.get? e = some (stopObj t) → s₀.heap.get? e = none → Fm h₀ X s₀ env loc (anyR e :: rs') s' → E (.ref e) s') : wpAny (model prog w) A (call (.ref M) []) Q E s := by
  obtain ⟨hne, hM, hI⟩ := F.rg _ v.mem
  refine mw_end hh hM hI hl (by simpa using hx) fun h' e t hex he hst hIn => h e t _ hst (F.mod.none_of he) ?_
  have F1 := (F.perm v.perm.symm).split (r1 := ⟨(· = I), fun _ => True, fun _ _ _ _ => trivial⟩) (r2 := ⟨(· = M), fun _ => True, fun _ _ _ _ => trivial⟩) .hit (fun a f => .inr f) (fun a f => .inl f) (fun a f g => hne (g.symm.trans f)) fun _ => ⟨trivial, trivial⟩
  have G := F1.gone (s' := { s with heap := h' }) (a := I) .hit rfl hI0 (fun b o hb e => hex b o hb e) rfl rfl
  refine Fm.addOld (G.sub (.cons _ (.refl _))) (fun a f => ?_) ⟨_, hst⟩
  have : a = e := f
  subst this
  refine ⟨?_, ⟨_, hst⟩, fun q => ?_, fun q hq f => ?_⟩
  · cases q : h₀.get? a with
    | none => rfl
    | some o => rw [F.base a o q] at he; cases he
  · obtain ⟨_, o, e'⟩ := F.vd a q
    rw [he] at e'; cases e'
  · obtain ⟨_, ⟨o, e'⟩, _⟩ := F.rd q (v.sub.subset hq) a f
    rw [he] at e'; cases e'
end
end
end

section -- I6
open PySem PySem.Calls PySem.W PyProof.Rows
set_option Elab.async false
set_option maxRecDepth 100000
set_option linter.unusedVariables false
noncomputable section



noncomputable def wt (sl : Nat → List Nat) (D sn : List Nat) : Nat := ((D.filter fun x => decide (x ∉ sn)).map fun x => (sl x).length + 2).sum
noncomputable def su (sl : Nat → List Nat) (st : List It) : Nat := (st.map fun q => (sl q.node).length - q.i + 1).sum
theorem wt_see {sl : Nat → List Nat} {D sn : List Nat} {x : Nat} (hD : D.Nodup) (hx : x ∈ D) (hn : x ∉ sn) : wt sl D (x :: sn) + ((sl x).length + 2) = wt sl D sn := by
  unfold wt
  induction D with
  | nil => cases hx
  | cons y r ih =>
    rw [List.nodup_cons] at hD
    rw [List.filter_cons, List.filter_cons]
    rcases List.mem_cons.mp hx with e | hx
    · subst e
      rw [if_neg (by simp), if_pos (by simpa using hn), List.map_cons, List.sum_cons]
      have : r.filter (fun z => decide (z ∉ x :: sn)) = r.filter fun z => decide (z ∉ sn) := List.filter_congr fun z hz => by
        have : z ≠ x := fun e => hD.1 (e ▸ hz)
        simp [this]
      rw [this]; lia
    · have hne : y ≠ x := fun e => hD.1 (e ▸ hx)
      have := ih hD.2 hx
      by_cases h : y ∈ sn
      · rw [if_neg (by simp [h]), if_neg (by simpa using h)]; exact this
      · rw [if_pos (by simp [h, hne]), if_pos (by simpa using h), List.map_cons, List.map_cons, List.sum_cons, List.sum_cons]; lia
theorem su_snoc (sl : Nat → List Nat) (st : List It) (q : It) : su sl (st ++ [q]) = su sl st + ((sl q.node).length - q.i + 1) := by simp [su]
theorem x_try {prog : Program} {w : World} {A : Around} {E : Value → Shared → Prop} {s : Shared} {env : Env} {body : List Stmt} {hd : ExceptHandler} {hs : List ExceptHandler} {pos : Pos} {rest : List Stmt} {Q : Flow → Shared → Prop}
    (h : WithE (fun s₁ => wpAny (model prog w) A (execs rest env) Q E s₁) Q fun B => wpAny (model prog w) A (execs body env) B
      (fun e s₁ => wpAny (model prog w) A (noteFrame e env) (fun _ s₂ => wpAny (model prog w) A (setFlight e none) (fun _ s₃ => wpAny (model prog w) A (handleBy e env (hd :: hs)) B E s₃) E s₂) E s₁) s) :
    wpAny (model prog w) A (execs (.Try body (hd :: hs) [] [] pos :: rest) env) Q E s := by
  refine wpAny_execs_cons (wpAny_Try_except (wpAny_mono h.use (fun f s₁ h₁ => ?_) fun _ _ x => x))
  cases f <;> first | exact wpAny_execs_nil h₁ | exact h₁
theorem keys_set {kvs : List (Int × Value)} {ks : List Nat} {k : Nat} {v : Value} (h : kvs.map (·.1) = asI ks) (hk : k ∉ ks) : (stored kvs (k : Int) v).map (·.1) = asI (ks ++ [k]) := by
  have : ¬ (kvs.any fun kv => decide (kv.1 = (k : Int))) = true := by
    rw [List.any_eq_true]
    rintro ⟨p, hp, e⟩
    have e2 : p.1 = (k : Int) := of_decide_eq_true e
    have : (k : Int) ∈ asI ks := by rw [← h, ← e2]; exact List.mem_map.mpr ⟨p, hp, rfl⟩
    exact hk (asI_mem.mp this)
  unfold stored
  rw [if_neg this, List.map_append, h]
  simp [asI]
theorem keys_get {kvs : List (Int × Value)} {ks : List Nat} {k : Nat} (h : kvs.map (·.1) = asI ks) : (valueAt kvs (k : Int)).isSome = decide (k ∈ ks) := by
  have key : ∀ {kvs : List (Int × Value)}, (valueAt kvs (k : Int)).isSome = decide ((k : Int) ∈ kvs.map (·.1)) := by
    intro kvs
    induction kvs with
    | nil => rfl
    | cons p r ih =>
      unfold valueAt at ih ⊢
      rw [List.find?_cons, List.map_cons]
      by_cases e : p.1 = (k : Int)
      · simp [e]
      · rw [decide_eq_false e]
        dsimp only
        rw [ih]
        have : ((k : Int) ∈ p.1 :: r.map (·.1)) = ((k : Int) ∈ r.map (·.1)) := by
          rw [List.mem_cons]
          exact propext ⟨fun q => q.elim (fun q => absurd q.symm e) id, .inr⟩
        exact decide_eq_decide.mpr (by rw [this])
  rw [key, h]
  by_cases e : k ∈ ks
  · rw [decide_eq_true e, decide_eq_true (asI_mem.mpr e)]
  · rw [decide_eq_false e, decide_eq_false fun q => e (asI_mem.mp q)]
theorem keys_del {kvs : List (Int × Value)} {ks : List Nat} {k : Nat} (h : kvs.map (·.1) = asI (ks ++ [k])) (hk : k ∉ ks) : (without kvs (k : Int)).map (·.1) = asI ks := by
  unfold without
  rw [show kvs.filter (fun kv => decide (kv.1 ≠ (k : Int))) = kvs.filter ((fun z => decide (z ≠ (k : Int))) ∘ (·.1)) from rfl, ← List.filter_map, h]
  unfold asI
  rw [List.map_append, List.filter_append]
  have h1 : (List.map (fun (n : Nat) => (n : Int)) ks).filter (fun z => decide (z ≠ (k : Int))) = List.map (fun (n : Nat) => (n : Int)) ks := by
    rw [List.filter_eq_self]
    intro z hz
    obtain ⟨y, hy, rfl⟩ := List.mem_map.mp hz
    exact decide_eq_true fun e => hk (by have : y = k := by lia
                                         exact this ▸ hy)
  rw [h1]
  simp

theorem Fm.lsGet {h₀ : Heap} {X : Addr → Prop} {s₀ s : Shared} {env : Env} {loc : List (Str × Value)} {rs : List Rg} {D : List Nat} {ad : Nat → Addr} {ct : Nat → List Nat} {k : Nat} (F : Fm h₀ X s₀ env loc rs s) (hm : lsR D ad ct ∈ rs) (hk : k ∈ D) :
    ∃ vs, s.heap.IsList (ad k) vs.toArray ∧ IntsAre vs (asI (ct k)) := by
  obtain ⟨vs, n, h1, h2⟩ := (F.rg _ hm).2 k hk
  exact ⟨vs, h1.isList, h2⟩

section
variable {prog : Program} {w : World} {A : Around} {E : Value → Shared → Prop} {P : Params} {h₀ : Heap} {X : Addr → Prop} {s₀ s : Shared} {env : Env} {loc : List (Str × Value)} {rs rs' : List Rg}
theorem x_del {M : Model} {o i : Expr} {p pos : Pos} {rest : List Stmt} {Q : Flow → Shared → Prop}
    (h : wpAny M A (eval o env) (fun ov s₁ => wpAny M A (eval i env) (fun iv s₂ => wpAny M A (delItem ov iv) (fun _ s₃ => wpAny M A (execs rest env) Q E s₃) E s₂) E s₁) E s) :
    wpAny M A (execs (.Delete [.Subscript o i p] pos :: rest) env) Q E s := by
  refine wpAny_execs_cons (wpAny_Delete (wpAny_deleteEach_cons (delete_Subscript (wpAny_mono h (fun ov s₁ h₁ => wpAny_mono h₁ (fun iv s₂ h₂ => wpAny_mono h₂ (fun _ s₃ h₃ => ?_) fun _ _ x => x) fun _ _ x => x) fun _ _ x => x))))
  exact wpAny_deleteEach_nil h₃
theorem sub_last {l : Addr} {xs : List Value} {v : Value} {u : Tok} {value slice : Expr} {Q : Value → Shared → Prop} (F : Fm h₀ X s₀ env loc rs s) (hm : listR l (xs ++ [v]) ∈ rs) (hz : xs.length < 2 ^ 20) (h : Q v s)
    (hs : subscripted slice false (.ref l) (.int (-1) u) = operate [.ref l, .int (-1) u] (getItem (.ref l) (.int (-1) u)) := by with_unfolding_all rfl) :
    wpAny (model prog w) A (PyProof.Rows.subscriptTail value slice (.ref l) (.int (-1) u)) Q E s := by
  refine PyProof.Rows.tail_any (F.list hm).typeIs PySem.slot_list_getitem.lookup (wpAny_getItem_list_neg (F.list hm) (by decide) (by simp; lia) (by decide) ?_ h) hs
  have : ((-1 : Int) + ((xs ++ [v]).toArray.size : Nat)).toNat = xs.length := by simp; lia
  rw [this]; simp
end

theorem intK_of {prog : Program} {w : World} {k : Int} {v : Value} (h : (intKind prog w).is k v = true) : ∃ t, v = .int k t := by
  have h2 : v.isInt k = true := h
  cases v <;> simp [Value.isInt] at h2
  subst h2
  exact ⟨_, rfl⟩
structure Cy (sl : Nat → List Nat) (D sn : List Nat) (st : List It) (kvs : List (Int × Value)) (us ms : List Value) (s : Shared) : Prop where
  rise : (st.map (·.node)).Pairwise (· < ·)
  inD : ∀ q ∈ st, q.node ∈ D
  le : ∀ q ∈ st, q.i ≤ (sl q.node).length
  keys : kvs.map (·.1) = asI (st.map (·.node))
  ius : IntsAre us (asI (st.map (·.node)))
  ims : ms = st.map fun q => .ref q.M
  snD : ∀ x ∈ sn, x ∈ D
  snd : sn.Nodup
  new : ∀ q ∈ st, s.heap.get? q.M = none ∧ s.heap.get? q.I = none
theorem Cy.len {sl : Nat → List Nat} {D sn : List Nat} {st : List It} {kvs : List (Int × Value)} {us ms : List Value} {s : Shared} (c : Cy sl D sn st kvs us ms s) : st.length ≤ D.length := by
  have := sub_len (c.rise.imp fun h => Nat.ne_of_lt h) (U := D) fun x hx => by
    obtain ⟨q, hq, rfl⟩ := List.mem_map.mp hx
    exact c.inD q hq
  simpa using this
theorem Cy.lenU {sl : Nat → List Nat} {D sn : List Nat} {st : List It} {kvs : List (Int × Value)} {us ms : List Value} {s : Shared} (c : Cy sl D sn st kvs us ms s) : us.length = st.length := by
  have := c.ius.length
  rw [asI_len, List.length_map] at this
  exact this
theorem Cy.lenK {sl : Nat → List Nat} {D sn : List Nat} {st : List It} {kvs : List (Int × Value)} {us ms : List Value} {s : Shared} (c : Cy sl D sn st kvs us ms s) : kvs.length = st.length := by
  have := congrArg List.length c.keys
  simpa [asI] using this
theorem Cy.push {sl : Nat → List Nat} {D sn : List Nat} {st : List It} {kvs : List (Int × Value)} {us ms : List Value} {s : Shared} (c : Cy sl D sn st kvs us ms s) {x : Nat} {M I : Addr} {v : Value} {t : Tok} (hx : x ∈ D) (hn : x ∉ sn) (hr : ∀ q ∈ st, q.node < x) (hM : s.heap.get? M = none) (hI : s.heap.get? I = none) :
    Cy sl D (x :: sn) (st ++ [⟨x, M, I, 0⟩]) (stored kvs (x : Int) v) (us ++ [.int (x : Nat) t]) (ms ++ [.ref M]) s := by
  have hxs : x ∉ st.map (·.node) := fun q => by
    obtain ⟨q, hq, e⟩ := List.mem_map.mp q
    exact absurd (hr q hq) (by lia)
  refine ⟨?_, ?_, ?_, ?_, ?_, ?_, ?_, List.nodup_cons.mpr ⟨hn, c.snd⟩, ?_⟩
  · rw [List.map_append]
    refine List.pairwise_append.mpr ⟨c.rise, by simp, fun y hy z hz => ?_⟩
    obtain ⟨q, hq, rfl⟩ := List.mem_map.mp hy
    have : z = x := by simpa using hz
    rw [this]; exact hr q hq
  · intro q hq
    rcases List.mem_append.mp hq with hq | hq
    · exact c.inD q hq
    · rw [List.mem_singleton.mp hq]; exact hx
  · intro q hq
    rcases List.mem_append.mp hq with hq | hq
    · exact c.le q hq
    · rw [List.mem_singleton.mp hq]; exact Nat.zero_le _
  · rw [keys_set c.keys hxs, List.map_append]; rfl
  · have : asI ((st ++ [It.mk x M I 0]).map (·.node)) = asI (st.map (·.node)) ++ [(x : Int)] := by simp [asI]
    rw [this]; exact ints_app c.ius (.cons _ _ .nil)
  · rw [c.ims, List.map_append]; rfl
  · intro y hy
    rcases List.mem_cons.mp hy with rfl | hy
    · exact hx
    · exact c.snD y hy
  · intro q hq
    rcases List.mem_append.mp hq with hq | hq
    · exact c.new q hq
    · rw [List.mem_singleton.mp hq]; exact ⟨hM, hI⟩
theorem Cy.step {sl : Nat → List Nat} {D sn : List Nat} {st : List It} {q : It} {kvs : List (Int × Value)} {us ms : List Value} {s : Shared} (c : Cy sl D sn (st ++ [q]) kvs us ms s) (hi : q.i < (sl q.node).length) : Cy sl D sn (st ++ [{ q with i := q.i + 1 }]) kvs us ms s := by
  have e : (st ++ [It.mk q.node q.M q.I (q.i + 1)]).map (·.node) = (st ++ [q]).map (·.node) := by simp
  refine ⟨e ▸ c.rise, ?_, ?_, e ▸ c.keys, e ▸ c.ius, c.ims.trans (by simp), c.snD, c.snd, ?_⟩
  all_goals
    intro p hp
    rcases List.mem_append.mp hp with hp | hp
  · exact c.inD p (by simp [hp])
  · rw [List.mem_singleton.mp hp]; exact c.inD q (by simp)
  · exact c.le p (by simp [hp])
  · rw [List.mem_singleton.mp hp]; exact hi
  · exact c.new p (by simp [hp])
  · rw [List.mem_singleton.mp hp]; exact c.new q (by simp)
theorem Cy.pop {sl : Nat → List Nat} {D sn : List Nat} {st : List It} {q : It} {kvs : List (Int × Value)} {us ms : List Value} {s : Shared} (c : Cy sl D sn (st ++ [q]) kvs us ms s) :
    ∃ us' ms' t, us = us' ++ [.int (q.node : Nat) t] ∧ ms = ms' ++ [.ref q.M] ∧ (valueAt kvs (q.node : Int)).isSome = true ∧ Cy sl D sn st (without kvs (q.node : Int)) us' ms' s := by
  have e : asI ((st ++ [q]).map (·.node)) = asI (st.map (·.node)) ++ [(q.node : Int)] := by simp [asI]
  have hu := c.ius
  rw [e] at hu
  obtain ⟨us', t, e1, e2⟩ := ints_snoc hu ⟨_, rfl⟩
  have hr := c.rise
  rw [List.map_append, List.pairwise_append] at hr
  have hn : q.node ∉ st.map (·.node) := fun z => absurd (hr.2.2 _ z q.node (by simp)) (Nat.lt_irrefl _)
  refine ⟨us', st.map fun q => .ref q.M, t, e1, c.ims.trans (by simp), ?_, hr.1, fun p hp => c.inD p (by simp [hp]), fun p hp => c.le p (by simp [hp]), ?_, e2 _ rfl, rfl, c.snD, c.snd, fun p hp => c.new p (by simp [hp])⟩
  · rw [keys_get c.keys]; simp
  · exact keys_del (by rw [c.keys]; simp) hn

set_option maxHeartbeats 16000000
section
variable {prog : Program} {w : World} {P : Params} {h₀ : Heap} {A : Around} {E : Value → Shared → Prop} {s : Shared} {T dx d : Addr} {rv : Value} {po nf : Int} {t1 t2 : Tok} {D : List Nat} {info idc succ : Nat → Addr} {np : Nat → Int} {sl : Nat → List Nat} {fs : List (Addr × Obj)} {Q : Value → Shared → Prop}
theorem cyc_ok (B : Base P h₀) (room : A.depth < 890) (hh : A.handled = none) (hO : Outs A fs)
    (H : Hands h₀ [dicR (intKind prog w) d (nk D info), insR w 151 T dx (tsF d rv po nf t1 t2), irR D info idc succ np, lsR D succ sl, frR fs] s)
    (hD : D.Nodup) (hsl : ∀ x ∈ D, ∀ y ∈ sl x, y ∈ D ∧ x < y) (hz : D.length ≤ 500) (hz2 : ∀ x ∈ D, (sl x).length ≤ 2 ^ 19)
    (h : ∀ s', Md (frR fs).foot s s' → (frR fs).holds s'.heap → Q .none s') : wpAny (model prog w) A (call (.ref 141) [.ref T]) Q E s := by
  refine enter (X := (frR fs).foot) H (fn_cyc B) (Nat.lt_trans room (by decide)) (by decide +kernel) (by kernel_rfl) (binds := [("self", .ref T)]) (by kernel_rfl) (names := ["self"]) rfl (by decide +kernel) ?_
  intro L s1 F
  have S := sc_cyc B L
  have hnl := nk_len D info
  refine x_assign ?_
  kfm_turns
  refine at_get B F (by kqd_in) (fld_n2i P) (ts_n2i ..) rfl ?_; intro s2 F2
  kfm_turns
  refine ev_list ?_
  kfm_turns
  refine nl_list (by assumption) (by simp) ?_; intro sk s3 hsk F3
  kfm_turns
  refine ev_list ?_
  kfm_turns
  refine nl_list (by assumption) (by simp) ?_; intro il s4 hil F4
  kfm_turns
  refine PyProof.Rows.callWith_type0 ?_
  refine op_set0 (by assumption) ?_; intro se s5 hse F5
  kfm_turns
  refine ev_dicE (intKind prog w) B.three (by assumption) ?_; intro nd s6 hnd F6
  kfm_turns
  rename_i s6' F6'
  obtain ⟨ep, hep⟩ := Fm.dicAt F6' (knd := intKind prog w) (d := d) (kvs := nk D info) (by kqd_in)
  have F7 := hep _ (by kd_subs)
  have F8 := F7.addL (new := [stR succ []]) (.refl _) (by intro r hr a f; rw [List.mem_singleton.mp hr] at f; obtain ⟨q, hq, _⟩ := f; cases hq) (by intro r hr; rw [List.mem_singleton.mp hr]; exact ⟨.nil, fun q hq => nomatch hq⟩) (List.pairwise_singleton _ _)
  simp only [List.cons_append, List.nil_append] at F8
  refine x_for ?_
  kfm_turns
  refine it_dip F8 (by kqd_in) ?_; intro I s9 hI hId F9
  have hwI : ∀ a, (frR fs).foot a → Wr (frR fs).foot s a := fun a f => .inl f
  refine ⟨fun j s' => E2 fun i sn => i + j = D.length ∧ (∀ x ∈ sn, x ∈ D) ∧ sn.Nodup ∧
    Fm h₀ (frR fs).foot s (fenv (fnOf 141) 141 L) [("self", .ref T), ("n2i", .ref d), ("stack", .ref sk), ("itstack", .ref il), ("seen", .ref se), ("node2stacki", .ref nd)]
      [kiR I d i (nk D info).length ep, stR succ [], dicR (intKind prog w) nd [], seR prog w se sn, listR il [], listR sk [], dipR (intKind prog w) d (nk D info) ep,
        insR w 151 T dx (tsF d rv po nf t1 t2), irR D info idc succ np, lsR D succ sl, frR fs] s', D.length, ⟨0, [], by lia, (fun _ h => nomatch h), .nil, F9⟩, ?_⟩
  intro j s10
  (repeat (first | (with_reducible refine WithL.in fun _ _ _ _ => ?_) | (with_reducible refine WithE.in fun _ _ _ => ?_)))
  rintro ⟨i, sn, hij, hsn, hsnd, F10⟩
  by_cases hj : j = 0
  · have hi : i = (nk D info).length := by lia
    subst hi
    refine nd_dip (by exact hh) F10 (by kqd_in) hId .hit hI ?_; intro s11 F11
    kfm_turns
    exact h _ F11.mod (F11.rg _ (by kqd_in))
  · refine nx_dip (by exact hh) F10 (by kqd_in) hId (by lia) .hit hI ?_; intro v k x s11 hk hkv F11
    obtain ⟨n, hnD, rfl, tn, rfl⟩ : ∃ n, n ∈ D ∧ k = ((n : Nat) : Int) ∧ ∃ tn, v = .int ((n : Nat) : Int) tn := by
      unfold nk at hk
      rw [List.getElem?_map] at hk
      obtain ⟨n, hn, e⟩ := Option.map_eq_some_iff.mp hk
      cases e
      exact ⟨n, List.mem_of_getElem? hn, rfl, intK_of hkv⟩
    kfm_turns
    refine x_if ?_
    kfm_turns
    refine in_set (by assumption) (by kqd_in) ?_; intro s13 F13
    have F13a := Fm.locsub F13 (loc' := [("self", .ref T), ("n2i", .ref d), ("stack", .ref sk), ("itstack", .ref il), ("seen", .ref se), ("node2stacki", .ref nd), ("node", .int (n : Nat) tn)]) (by first | exact List.Sublist.refl _ | (k_subL))
    kfm_turns
    refine if_bool (fun c => ?_) (fun c => ?_)
    · kfm_turns
      refine ⟨j - 1, by lia, i + 1, sn, by lia, hsn, hsnd, Fm.locsub (by assumption) (by k_subL)⟩
    have hnn : n ∉ sn := by simpa using c
    kfm_turns
    refine x_while (fun m s' => E7 fun st cur tc sn kvs us ms => Cy sl D sn st kvs us ms s ∧ cur ∈ D ∧ (∀ q ∈ st, q.node < cur) ∧ m = wt sl D sn + su sl st ∧
      Fm h₀ (frR fs).foot s (fenv (fnOf 141) 141 L) [("self", .ref T), ("n2i", .ref d), ("stack", .ref sk), ("itstack", .ref il), ("seen", .ref se), ("node2stacki", .ref nd), ("node", .int ((cur : Nat) : Int) tc)]
        [kiR I d (i + 1) (nk D info).length ep, stR succ st, dicR (intKind prog w) nd kvs, seR prog w se sn, listR il ms, listR sk us, dipR (intKind prog w) d (nk D info) ep,
          insR w 151 T dx (tsF d rv po nf t1 t2), irR D info idc succ np, lsR D succ sl, frR fs] s') _
      ⟨[], n, tn, sn, [], [], [], ⟨.nil, (fun _ h => nomatch h), (fun _ h => nomatch h), rfl, .nil, rfl, hsn, hsnd, (fun _ h => nomatch h)⟩, hnD, (fun _ h => nomatch h), rfl, F13a⟩ ?_
    intro m s14
    (repeat (first | (with_reducible refine WithL.in fun _ _ _ _ => ?_) | (with_reducible refine WithE.in fun _ _ _ => ?_)))
    rintro ⟨st, cur, tc, sn2, kvs, us, ms, cy, hcD, hcr, hm, F14⟩
    have hl1 := cy.len
    have hl2 := cy.lenU
    have hl3 := cy.lenK
    have hl4 : ms.length = st.length := by rw [cy.ims]; simp
    refine PyProof.Rows.isTrue_plain ?_
    kfm_turns
    refine x_ifJ (fun s' => E6 fun st tc sn kvs us ms => Cy sl D sn st kvs us ms s ∧ wt sl D sn + su sl st ≤ m ∧
      Fm h₀ (frR fs).foot s (fenv (fnOf 141) 141 L) [("self", .ref T), ("n2i", .ref d), ("stack", .ref sk), ("itstack", .ref il), ("seen", .ref se), ("node2stacki", .ref nd), ("node", .int ((cur : Nat) : Int) tc)]
        [kiR I d (i + 1) (nk D info).length ep, stR succ st, dicR (intKind prog w) nd kvs, seR prog w se sn, listR il ms, listR sk us, dipR (intKind prog w) d (nk D info) ep,
          insR w 151 T dx (tsF d rv po nf t1 t2), irR D info idc succ np, lsR D succ sl, frR fs] s') ?_ ?_
    · kfm_turns
      refine in_set (by assumption) (by kqd_in) ?_; intro s15 F15
      kfm_turns
      refine if_bool (fun c => ?_) (fun c => ?_)
      · refine x_if ?_
        kfm_turns
        refine in_dic (by assumption) (by kqd_in) (intKind_is _ _ _ _) ?_; intro s16 F16
        rw [keys_get cy.keys, decide_eq_false (p := cur ∈ st.map (·.node)) (fun q => by
          obtain ⟨q, hq, e⟩ := List.mem_map.mp q
          exact absurd (hcr q hq) (by lia))]
        kfm_turns
        exact ⟨st, tc, sn2, kvs, us, ms, cy, by lia, F16⟩
      · have hcn : cur ∉ sn2 := by simpa using c
        refine x_expr ?_
        refine ev_meth (pl := _) ?_
        kfm_turns
        refine meth_setadd (by assumption) (by kqd_in) ?_
        kfm_turns
        refine op_setadd F15 (by kd_subs) (.inr hse) (Nat.lt_of_le_of_lt (sub_len cy.snd cy.snD) (by lia)) ?_; intro s16 F16
        kfm_turns
        refine meth_list (by assumption) (by kqd_in) PySem.F.slot_list_append PySem.F.type_list_append ?_
        kfm_turns
        refine sub_dip (by assumption) (by kqd_in) (intKind_is _ _ _ _) (nk_in hcD) ?_ (by with_unfolding_all rfl); intro s17 F17
        kfm_turns
        refine ir_succ B F17 (by kqd_in) hcD ?_; intro s18 F18
        obtain ⟨ys, hys, hyi⟩ := F18.lsGet (by kqd_in) hcD
        refine op_iter F18 hys ?_; intro J s19 hJ F19
        kfm_turns
        refine at_next F19 (by kd_subs) ?_; intro M s20 hM F20
        kfm_turns
        refine app_list F20 (by kd_subs) (.inr hil) (by lia) ?_; intro s21 F21
        have F22 := F21.stPush (q := ⟨cur, M, J, 0⟩) (st := st) (succ := succ) (by kd_subs) (by kd_subs)
        kfm_turns
        refine op_len F22 (by kqd_in) (by lia) ?_; intro t23 s23 F23
        kfm_turns
        refine set_dic (k := (cur : Int)) (by assumption) (by kd_subs) (.inr hnd) (intKind_is _ _ _ _) (by lia) ?_; intro s24 F24
        kfm_turns
        refine meth_list (by assumption) (by kqd_in) PySem.F.slot_list_append PySem.F.type_list_append ?_
        kfm_turns
        refine app_list (by assumption) (by kd_subs) (.inr hsk) (by lia) ?_; intro s25 F25
        kfm_turns
        refine ⟨_, tc, _, _, _, _, cy.push hcD hcn hcr hM hJ, ?_, by assumption⟩
        have := wt_see (sl := sl) hD hcD hcn
        have := su_snoc sl st ⟨cur, M, J, 0⟩
        dsimp only at this
        lia
    · rintro s15 ⟨st, tc, sn3, kvs, us, ms, cy, hm, F15⟩
      refine x_while (fun n s' => E5 fun st tc kvs us ms => Cy sl D sn3 st kvs us ms s ∧ wt sl D sn3 + su sl st ≤ m ∧ n = st.length ∧
        Fm h₀ (frR fs).foot s (fenv (fnOf 141) 141 L) [("self", .ref T), ("n2i", .ref d), ("stack", .ref sk), ("itstack", .ref il), ("seen", .ref se), ("node2stacki", .ref nd), ("node", .int ((cur : Nat) : Int) tc)]
          [kiR I d (i + 1) (nk D info).length ep, stR succ st, dicR (intKind prog w) nd kvs, seR prog w se sn3, listR il ms, listR sk us, dipR (intKind prog w) d (nk D info) ep,
            insR w 151 T dx (tsF d rv po nf t1 t2), irR D info idc succ np, lsR D succ sl, frR fs] s') _
        ⟨st, tc, kvs, us, ms, cy, hm, rfl, F15⟩ ?_
      intro n2 s16
      (repeat (first | (with_reducible refine WithL.in fun _ _ _ _ => ?_) | (with_reducible refine WithE.in fun _ _ _ => ?_)))
      rintro ⟨st, tc, kvs, us, ms, cy, hm, hn2, F16⟩
      have hl1 := cy.len
      have hl2 := cy.lenU
      have hl3 := cy.lenK
      have hl4 : ms.length = st.length := by rw [cy.ims]; simp
      refine PyProof.Rows.isTrue_plain ?_
      kfm_turns
      refine truthy_list (by assumption) (by kqd_in) (by lia) ?_; intro s17 F17
      refine if_bool (fun c => ?_) (fun c => ?_)
      · obtain ⟨st', q, rfl⟩ : ∃ st' q, st = st' ++ [q] := by
          rcases List.eq_nil_or_concat st with rfl | ⟨r, y, e⟩
          · have := List.length_eq_zero_iff.mp hl2
            subst this
            simp at c
          · exact ⟨r, y, by simpa using e⟩
        obtain ⟨us', ms', tq, rfl, rfl, hkv, cy'⟩ := cy.pop
        have hqD : q.node ∈ D := cy.inD q (by simp)
        have hqn := cy.new q (by simp)
        have hql := cy.le q (by simp)
        simp only [List.length_append, List.length_cons, List.length_nil] at hl1 hl2 hl3 hl4 hn2
        obtain ⟨ys, hys, hyi⟩ := F17.lsGet (by kqd_in) hqD
        have hyl := hyi.length
        rw [asI_len] at hyl
        have FT := F17.stTop (q := q) (by kd_subs)
        refine x_try ?_
        (repeat (first | (with_reducible refine WithL.in fun _ _ _ _ => ?_) | (with_reducible refine WithE.in fun _ _ _ => ?_)))
        refine x_assign ?_
        kfm_turns
        refine sub_last (xs := ms') (v := .ref q.M) (by assumption) (by kqd_in) (by lia) ?_
        kfm_turns
        refine cw_mw (M := q.M) (I := q.I) (l := succ q.node) (i := q.i) (by assumption) (by kqd_in) ?_
        by_cases hq : q.i < (sl q.node).length
        · obtain ⟨y, hy⟩ : ∃ y, (sl q.node)[q.i]? = some y := ⟨_, List.getElem?_eq_getElem hq⟩
          obtain ⟨ty, hty⟩ := ints_at hyi (i := q.i) (n := (y : Int)) (by rw [asI, List.getElem?_map, hy]; rfl)
          have hyD := hsl _ hqD y (List.mem_of_getElem? hy)
          obtain ⟨zs, hzs, hzi⟩ := Fm.lsGet (ad := succ) (ct := sl) (k := q.node) (D := D) (by assumption) (by kqd_in) hqD
          refine mw_next (M := q.M) (I := q.I) (l := succ q.node) (i := q.i) (by assumption) (by kd_subs) (fun a f => .inr (f.elim (fun e => e ▸ hqn.1) fun e => e ▸ hqn.2)) hzs (ints_at hzi (i := q.i) (n := (y : Int)) (by rw [asI, List.getElem?_map, hy]; rfl)).choose_spec ?_; intro s18 F18
          have F19 := F18.stPush (q := ⟨q.node, q.M, q.I, q.i + 1⟩) (st := st') (succ := succ) (by kd_subs) (by kd_subs)
          kfm_turns
          refine ⟨_, ?_, st' ++ [⟨q.node, q.M, q.I, q.i + 1⟩], y, _, sn3, kvs, _, _, cy.step hq, hyD.1, ?_, rfl, by assumption⟩
          · have h1 := su_snoc sl st' q
            have h2 := su_snoc sl st' ⟨q.node, q.M, q.I, q.i + 1⟩
            dsimp only at h2
            lia
          · intro p hp
            rcases List.mem_append.mp hp with hp | hp
            · have hr := cy.rise
              rw [List.map_append, List.pairwise_append] at hr
              exact Nat.lt_trans (hr.2.2 _ (List.mem_map.mpr ⟨p, hp, rfl⟩) q.node (by simp)) hyD.2
            · rw [List.mem_singleton.mp hp]; exact hyD.2
        · obtain ⟨zs, hzs, hzi⟩ := Fm.lsGet (ad := succ) (ct := sl) (k := q.node) (D := D) (by assumption) (by kqd_in) hqD
          have hzl := hzi.length
          rw [asI_len] at hzl
          refine mw_stop (M := q.M) (I := q.I) (l := succ q.node) (i := q.i) (by exact hh) (by assumption) (by kd_subs) hqn.2 hzs (List.getElem?_eq_none (by lia)) ?_
          intro ea te s18 hea hea0 F18
          obtain ⟨outer, ho1, ho2, ho3⟩ := hO
          refine try_stop (fs := fs) F18 hea hea0 (by kqd_in) (fun a f => .inl f) rfl (Around.frames_deeper ho1) ho2 ho3 rfl S (by kqd_in) ?_
          intro s19 F19
          refine x_del ?_
          kfm_turns
          refine meth_list (by assumption) (by kqd_in) PySem.F.slot_list_pop PySem.F.type_list_pop ?_
          kfm_turns
          refine pop_list (by assumption) (by kd_subs) (.inr hsk) (by lia) ?_; intro s20 F20
          refine del_dic (k := (q.node : Int)) F20 (by kd_subs) (.inr hnd) (intKind_is _ _ _ _) (by lia) hkv ?_; intro s21 F21
          kfm_turns
          refine meth_list (by assumption) (by kqd_in) PySem.F.slot_list_pop PySem.F.type_list_pop ?_
          kfm_turns
          refine pop_list (by assumption) (by kd_subs) (.inr hil) (by lia) ?_; intro s22 F22
          kfm_turns
          refine ⟨st'.length, by lia, st', tc, _, _, _, cy', ?_, rfl, by assumption⟩
          have h1 := su_snoc sl st' q
          lia
      · kfm_turns
        have h0 : st = [] := by
          rcases st with _ | ⟨a, b⟩
          · rfl
          · rcases us with _ | ⟨x, y⟩
            · simp at hl2
            · simp at c
        subst h0
        have hk0 : kvs = [] := List.length_eq_zero_iff.mp hl3
        have hu0 : us = [] := List.length_eq_zero_iff.mp hl2
        have hm0 : ms = [] := List.length_eq_zero_iff.mp hl4
        subst hk0 hu0 hm0
        exact ⟨j - 1, by lia, i + 1, sn3, by lia, cy.snD, cy.snd, Fm.locsub (by assumption) (by k_subL)⟩
end
end
end

section -- I7
open PySem PySem.Calls PySem.W PyProof.Rows PySem.Builtin
set_option Elab.async false
set_option maxRecDepth 100000
set_option linter.unusedVariables false
noncomputable section



section
variable {prog : Program} {w : World} {A : Around} {E : Value → Shared → Prop} {P : Params} {h₀ : Heap} {X : Addr → Prop} {s₀ s : Shared} {env : Env} {loc : List (Str × Value)} {rs rs' big rest : List Rg} {fs : List (Addr × Obj)}
/-- a callee that may write slots of the frames beneath it: this frame goes along -/
theorem Fm.lend (F : Fm h₀ X s₀ env loc rs s) (u : RemL rs (big ++ [frR fs]) rest) (hw : ∀ a ∈ fs.map (·.1), Wr X s₀ a) :
    ∃ oL, Hands h₀ (big ++ [frR ((env.locals, oL) :: fs)]) s ∧ ∀ s', Md (frR ((env.locals, oL) :: fs)).foot s s' → (frR ((env.locals, oL) :: fs)).holds s'.heap → Fm h₀ X s₀ env loc rs s' := by
  obtain ⟨m, ⟨oL, es, ep, eL, hd, hr⟩, hv⟩ := F.ns
  have G := F.perm u.perm.symm
  have hmb : frR fs ∈ big ++ [frR fs] ++ rest := by simp
  have hm : frR fs ∈ rs := u.perm.mem_iff.mpr hmb
  have cells : ∀ c ∈ env.cells.map (·.2), ¬ (frR ((env.locals, oL) :: fs)).foot c := fun c hc f => by
    rcases List.mem_cons.mp f with e | f
    · have e' : c = env.locals := e
      exact (List.nodup_cons.mp F.cnd).1 (e' ▸ hc)
    · exact (F.rd _ hm c f).2.2 (.tail _ hc)
  refine ⟨oL, ⟨F.base, ?_, ?_, ?_⟩, fun s' md hh => ?_⟩
  · intro r hr
    rcases List.mem_append.mp hr with hr | hr
    · exact G.rg r (by simp [hr])
    · rw [List.mem_singleton.mp hr]
      intro p hp
      rcases List.mem_cons.mp hp with rfl | hp
      · exact ⟨⟨es, ep, hd⟩, oL.slots, eL⟩
      · exact F.rg _ hm p hp
  · intro r hr a f
    rcases List.mem_append.mp hr with hr | hr
    · obtain ⟨h1, h2, _⟩ := G.rd r (by simp [hr]) a f; exact ⟨h1, h2⟩
    · rw [List.mem_singleton.mp hr] at f
      rcases List.mem_cons.mp f with e | f
      · rw [show a = env.locals from e]; exact F.vd _ (.head _)
      · obtain ⟨h1, h2, _⟩ := F.rd _ hm a f; exact ⟨h1, h2⟩
  · have hp := (List.pairwise_append.mp G.rp).1
    rw [List.pairwise_append] at hp ⊢
    refine ⟨hp.1, List.pairwise_singleton _ _, fun r hr q hq a f g => ?_⟩
    rw [List.mem_singleton.mp hq] at g
    rcases List.mem_cons.mp g with e | g
    · exact (G.rd r (by simp [hr]) a f).2.2 (by rw [show a = env.locals from e]; exact .head _)
    · exact hp.2.2 r hr _ (.head _) a f g
  · obtain ⟨_, sl, eL'⟩ := hh (env.locals, oL) (.head _)
    refine ⟨F.mod.trans md fun b f => ?_, md.base F.base fun a f => ?_, F.fk, F.cnd, F.lnd, ⟨m, ⟨_, es, ep, eL', hd, hr⟩, fun p hp => ?_⟩, F.lw, ?_, ?_, ?_, F.rp, ?_⟩
    · rcases List.mem_cons.mp f with e | f
      · exact .inr (by rw [show b = env.locals from e]; exact F.lw)
      · exact hw b f
    · rcases List.mem_cons.mp f with e | f
      · rw [show a = env.locals from e]; exact (F.vd _ (.head _)).1
      · exact (F.rd _ hm a f).1
    · cases hv p hp with
      | loc hk hd hm => exact .loc hk hd hm
      | cel c hk hd hc ho => exact .cel c hk hd hc (cell_keeps ho fun o e => md.keep _ o (cells c (List.mem_map.mpr ⟨_, mem_of_lookup hc, rfl⟩)) e)
    · intro a v; obtain ⟨h1, o, e⟩ := F.vd a v; exact ⟨h1, md.dom a o e⟩
    · intro r hr'
      by_cases q : r = frR fs
      · subst q; exact fun p hp => hh p (.tail _ hp)
      · refine r.stable _ _ (fun a o f e => md.keep a o (fun z => ?_) e) (F.rg r hr')
        rcases List.mem_cons.mp z with z | z
        · exact (F.rd r hr' a f).2.2 (by rw [show a = env.locals from z]; exact .head _)
        · exact F.ne hr' hm q f z rfl
    · intro r hr' a f; obtain ⟨h1, ⟨o, e⟩, h3⟩ := F.rd r hr' a f; exact ⟨h1, md.dom a o e, h3⟩
    · intro p hp; obtain ⟨v, y⟩ := F.cc p hp; exact ⟨v, cell_keeps y fun o e => md.keep _ o (cells p.2 (List.mem_map.mpr ⟨p, hp, rfl⟩)) e⟩
end

theorem Fm.sc {P : Params} {h₀ : Heap} {X : Addr → Prop} {s₀ s : Shared} {env : Env} {loc : List (Str × Value)} {rs : List Rg} {ls : List Str} {gs : List (Str × Value)} (F : Fm h₀ X s₀ env loc rs s) (B : Base P h₀) (hl : locChk env.scope ls = true) (hg : glbChk P env.scope gs = true)
    (eg : env.globals = mainGlobals) (eb : env.builtins = builtinsNs) : Sc h₀ env ls gs := sc_of B hl hg eg eb
noncomputable abbrev Fm.env {h₀ : Heap} {X : Addr → Prop} {s₀ s : Shared} {env : Env} {loc : List (Str × Value)} {rs : List Rg} (_ : Fm h₀ X s₀ env loc rs s) : Env := env
theorem asI_filter_snoc {D : List Nat} {p : Nat → Bool} {i k : Nat} (h : D[i]? = some k) : (D.take (i + 1)).filter p = (D.take i).filter p ++ (if p k = true then [k] else []) := by
  rw [List.take_succ, h, List.filter_append]
  simp only [Option.toList_some, List.filter_cons, List.filter_nil]
set_option maxHeartbeats 8000000
section
variable {prog : Program} {w : World} {P : Params} {h₀ : Heap} {A : Around} {E : Value → Shared → Prop} {s : Shared} {T dx d : Addr} {po nf : Int} {t1 t2 : Tok} {D : List Nat} {info idc succ : Nat → Addr} {np : Nat → Int} {sl : Nat → List Nat} {fs : List (Addr × Obj)} {Q : Value → Shared → Prop}
theorem prep_ok (B : Base P h₀) (room : A.depth < 880) (hh : A.handled = none) (hO : Outs A fs)
    (H : Hands h₀ [dicR (intKind prog w) d (nk D info), insR w 151 T dx (tsF d .none po nf t1 t2), irR D info idc succ np, lsR D succ sl, frR fs] s)
    (hD : D.Nodup) (hsl : ∀ x ∈ D, ∀ y ∈ sl x, y ∈ D ∧ x < y) (hz : D.length ≤ 500) (hz2 : ∀ x ∈ D, (sl x).length ≤ 2 ^ 19)
    (h : ∀ s' rl vs, IntsAre vs (asI (D.filter fun k => decide (np k = 0))) → s.heap.get? rl = none →
      Next h₀ [dicR (intKind prog w) d (nk D info), insR w 151 T dx (tsF d .none po nf t1 t2), irR D info idc succ np, lsR D succ sl, frR fs]
        [listR rl vs, dicR (intKind prog w) d (nk D info), insR w 151 T dx (tsF d (.ref rl) po nf t1 t2), irR D info idc succ np, lsR D succ sl, frR fs] s s' → Q .none s') : wpAny (model prog w) A (call (.ref 106) [.ref T]) Q E s := by
  obtain ⟨X, hX⟩ : ∃ X : Addr → Prop, X = fun a => ∃ r ∈ [dicR (intKind prog w) d (nk D info), insR w 151 T dx (tsF d .none po nf t1 t2), irR D info idc succ np, lsR D succ sl, frR fs], r.foot a := ⟨_, rfl⟩
  have wT : ∀ a, (insR w 151 T dx (tsF d .none po nf t1 t2)).foot a → Wr X s a := fun a f => .inl (by rw [hX]; exact ⟨_, .tail _ (.head _), f⟩)
  have wF : ∀ a, (frR fs).foot a → Wr X s a := fun a f => .inl (by rw [hX]; exact ⟨_, by simp, f⟩)
  refine enter (X := X) H (fn_prep B) (Nat.lt_trans room (by decide)) (by decide +kernel) (by kernel_rfl) (binds := [("self", .ref T)]) (by kernel_rfl) (names := ["self"]) rfl (by decide +kernel) ?_
  intro L s1 F
  have S := sc_prep B L
  have K141 := fn_cyc B
  have hnl := nk_len D info
  refine x_if ?_
  kfm_turns
  refine at_get B F (by kqd_in) (fld_rdy P) (ts_rdy ..) rfl ?_; intro s2 F2
  kfm_turns
  refine isnot_none0 ?_
  kfm_turns
  refine ev_comp (cl := []) (h₀ := h₀) (X := X) (s₀ := s) (by decide) rfl (by decide) ?_ (by kernel_rfl)
  kfm_turns
  refine at_get B (by assumption) (by kqd_in) (fld_n2i P) (ts_n2i ..) rfl ?_; intro s3 F3
  refine meth_dic F3 (by kqd_in) PySem.F.slot_dict_values PySem.F.type_dict_values ?_
  kfm_turns
  refine call_values F3 (by kqd_in) ?_; intro va s4 hva F4
  obtain ⟨ep, hep⟩ := Fm.dicAt F4 (knd := intKind prog w) (d := d) (kvs := nk D info) (by kqd_in)
  have F5 := hep _ (by kd_subs)
  refine ⟨_, [], _, _, fun Dl new => s4.heap.get? Dl = none ∧ ∃ vs, new = [listR Dl vs] ∧ IntsAre vs (asI (D.filter fun k => decide (np k = 0))), F5, ⟨by kernel_rfl, (fun _ h => nomatch h), .nil, .nil, (fun _ h => nomatch h)⟩, iters_vv (knd := intKind prog w) F5 (by kqd_in) (by kqd_in), ?_, ?_⟩
  · intro Dl I C s6 hDl hI F6
    have S6 := F6.sc (ls := ["i"]) (gs := []) B (by kernel_rfl) (by kernel_rfl) (by kernel_rfl) (by kernel_rfl)
    have hDl0 := F5.mod.none_of hDl
    have hI0 := F5.mod.none_of hI
    have hId : I ≠ d := fun e => by
      obtain ⟨_, ⟨o, e'⟩, _⟩ := F5.rd (dipR (intKind prog w) d (nk D info) ep) (by kqd_in) d rfl
      rw [e, e'] at hI; cases hI
    refine ⟨fun n s' => E3 fun (i : Nat) (vs : List Value) (loc' : List (Str × Value)) => i + n = D.length ∧ (loc' = [] ∨ ∃ v, loc' = [(("i" : Str), v)]) ∧ IntsAre vs (asI ((D.take i).filter fun k => decide (np k = 0))) ∧ Fm h₀ NoX s4 F6.env loc'
      [listR Dl vs, viR I d i (nk D info).length ep, vvR va d, dipR (intKind prog w) d (nk D info) ep, insR w 151 T dx (tsF d .none po nf t1 t2), irR D info idc succ np, lsR D succ sl, frR fs] s', D.length,
      ⟨0, [], [], by lia, .inl rfl, by simpa using IntsAre.nil, F6⟩, ?_⟩
    intro n s7
    (repeat (first | (with_reducible refine WithL.in fun _ _ _ _ => ?_) | (with_reducible refine WithE.in fun _ _ _ => ?_)))
    rintro ⟨i, vs, loc', hin, hl', hvs, F7⟩
    by_cases hn : n = 0
    · have hi : i = (nk D info).length := by lia
      subst hi
      refine nd_vv (by exact hh) F7 (by kqd_in) hId (by kd_subs) hI ?_; intro s8 F8
      rw [hnl, List.take_length] at hvs
      exact ⟨[listR Dl vs], loc', F8, fun r hr a f => by rw [List.mem_singleton.mp hr] at f; rw [show a = Dl from f]; exact hDl, hDl, vs, rfl, hvs⟩
    · refine nx_vv (i := i) (by exact hh) F7 (by kqd_in) hId (by lia) (by kd_subs) hI ?_; intro v k s8 hk F8
      obtain ⟨n, hnD, hni, rfl⟩ : ∃ n, n ∈ D ∧ D[i]? = some n ∧ v = .ref (info n) := by
        unfold nk at hk
        rw [List.getElem?_map] at hk
        obtain ⟨n, hn, e⟩ := Option.map_eq_some_iff.mp hk
        cases e
        exact ⟨n, List.mem_of_getElem? hn, hn, rfl⟩
      have hvl := hvs.length
      have hfl := asI_len ((D.take i).filter fun k => decide (np k = 0))
      have hfl2 := List.length_filter_le (fun k => decide (np k = 0)) (D.take i)
      have hfl3 := List.length_take_le i D
      have hsnoc := asI_filter_snoc (p := fun k => decide (np k = 0)) hni
      refine as_name (st_loc (x := "i") (loc' := [(("i" : Str), .ref (info n))]) F8 S6 (by simp) (by rcases hl' with rfl | ⟨v, rfl⟩ <;> first | exact UpdL.hit | exact UpdL.nil) ?_); intro s9 F9
      refine wpAny_tests_one ?_
      kfm_turns
      refine ir_np B F9 (by kqd_in) hnD ?_; intro t10 s10 F10
      kfm_turns
      refine if_bool (fun c => ?_) (fun c => ?_)
      · have c1 : np n = 0 := eq_of_beq c
        rw [if_pos (decide_eq_true c1)] at hsnoc
        kfm_turns
        refine ir_node B (by assumption) (by kqd_in) hnD ?_; intro t11 s11 F11
        refine app_list F11 (by kd_subs) (.inr hDl) (by lia) ?_; intro s12 F12
        refine ⟨D.length - (i + 1), by lia, i + 1, _, _, by lia, .inr ⟨_, rfl⟩, ?_, F12⟩
        rw [hsnoc]
        have : ∀ r, asI (r ++ [n]) = asI r ++ [(n : Int)] := fun r => by simp [asI]
        rw [this]
        exact ints_app hvs (.cons _ _ .nil)
      · have c1 : ¬ np n = 0 := fun e => by rw [e] at c; exact absurd c (by decide)
        rw [if_neg (by simpa using c1), List.append_nil] at hsnoc
        refine ⟨D.length - (i + 1), by lia, i + 1, _, _, by lia, .inr ⟨_, rfl⟩, ?_, by assumption⟩
        rw [hsnoc]
        exact hvs
  · rintro Dl new s6 ⟨hDl, vs, rfl, hvs⟩ F6
    simp only [List.cons_append, List.nil_append] at F6
    have F7 := F6.reR (r := dipR (intKind prog w) d (nk D info) ep) (r' := dicR (intKind prog w) d (nk D info)) (by kd_subs) rfl fun z => ⟨z.1.dictOf, z.2⟩
    kfm_turns
    refine at_set B F7 (by kd_subs) wT (fld_rdy P) (by simp [tsF]) ?_; intro s8 F8
    rw [ts_prdy] at F8
    kfm_turns
    refine meth_ins B F8 (by kqd_in) (mth_cyc P) (by kernel_rfl) ?_
    kfm_turns
    obtain ⟨oL, HL, back⟩ := Fm.lend (big := [dicR (intKind prog w) d (nk D info), insR w 151 T dx (tsF d (.ref Dl) po nf t1 t2), irR D info idc succ np, lsR D succ sl]) F8 (by change RemL _ [_, _, _, _, _] _; kd_subs) (fun a f => wF a f)
    refine cyc_ok B (show A.depth + 1 < 890 by lia) (by exact hh) (hO.deeper (by rw [F8.fk]; decide) rfl) HL hD hsl hz hz2 ?_
    intro s9 md9 hf9
    have F9 := back s9 md9 hf9
    kfm_turns
    refine x_if ?_
    (repeat (first | (with_reducible refine WithL.in fun _ _ _ _ => ?_) | (with_reducible refine WithE.in fun _ _ _ => ?_))); refine PyProof.Rows.isTrue_plain ?_
    kfm_turns
    refine PyProof.Rows.truthy_none ?_
    kfm_turns
    rename_i s10 F10 _ _ _
    refine h _ Dl vs hvs (F5.mod.none_of hDl) ⟨hX ▸ F10.mod, F10.hands (by k_subL), fun r hr a f => ?_⟩
    rcases List.mem_cons.mp hr with rfl | hr
    · exact .inr (by rw [show a = Dl from f]; exact F5.mod.none_of hDl)
    rcases List.mem_cons.mp hr with rfl | hr
    · exact .inl ⟨_, .head _, f⟩
    rcases List.mem_cons.mp hr with rfl | hr
    · exact .inl ⟨_, .tail _ (.head _), f⟩
    · exact .inl ⟨r, .tail _ (.tail _ hr), f⟩
end
end
end

section -- L0
open PySem PySem.Calls PySem.W PyProof.Rows PySem.Builtin
set_option Elab.async false
set_option maxRecDepth 100000
set_option linter.unusedVariables false
noncomputable section



/-! further rules for the law's body -/
/-- an enumerate over a list: its own object, the list's iterator -/
noncomputable def enR (e it l : Addr) (i : Nat) : Rg :=
  ⟨fun a => a = e ∨ a = it, fun h => e ≠ it ∧ (∃ old, IsEnum h e it i old) ∧ h.IsListIter it l i,
   fun _ _ k ⟨h1, ⟨old, h2⟩, h3⟩ => ⟨h1, ⟨old, k _ _ (.inl rfl) h2⟩, h3.at fun o x => k _ o (.inr rfl) x⟩⟩
section
variable {prog : Program} {w : World} {A : Around} {E : Value → Shared → Prop} {P : Params} {h₀ : Heap} {X : Addr → Prop} {s₀ s : Shared} {env : Env} {loc : List (Str × Value)} {rs rs' : List Rg} {l : Addr} {xs : List Value}

theorem kp_ext {h h' : Heap} (x : Heap.ExtBut h.objs.size h h') : Kp h h' := fun b o e => x b o (Nat.ne_of_lt (Heap.lt_size e)) e

theorem x_assignT2 {a b : Str} {pa pb tpos pos : Pos} {k : Nat} {value : Expr} {rest : List Stmt} {Q : Flow → Shared → Prop} (hh : A.handled = none)
    (h : wpAny (model prog w) A (eval value env) (fun v s₁ => ∃ loc rs T v1 v2, v = .ref T ∧ Fm h₀ X s₀ env loc rs s₁ ∧ tupR T [v1, v2] ∈ rs ∧ ∀ s', Fm h₀ X s₀ env loc rs s' →
      wpAny (model prog w) A (storeName env a v1) (fun _ s₂ => wpAny (model prog w) A (storeName env b v2) (fun _ s₃ => wpAny (model prog w) A (execs rest env) Q E s₃) E s₂) E s') E s)
    (hs : swapsWithSole [.Tuple [.Name a pa, .Name b pb] k tpos] value pos.line env = pure false := by with_unfolding_all rfl)
    (hw : swappedStores [.Tuple [.Name a pa, .Name b pb] k tpos] value env = pure none := by with_unfolding_all rfl) :
    wpAny (model prog w) A (execs (.Assign [.Tuple [.Name a pa, .Name b pb] k tpos] value pos :: rest) env) Q E s := by
  refine wpAny_execs_cons (PyProof.Rows.Assign_Tuple (wpAny_mono h (fun v s₁ h₁ => ?_) fun _ _ x => x) hs hw)
  obtain ⟨loc, rs, T, v1, v2, rfl, F, hm, hq⟩ := h₁
  refine wpAny_assign_Tuple hh (F.tup hm) rfl rfl fun h' hx => ?_
  have F' := F.keep (.of_kp (t := s₁.toks) (kp_ext hx))
  show wpAny _ A (assignInOrder [assign (.Name a pa) env, assign (.Name b pb) env] [v1, v2]) _ _ _
  refine wpAny_assignInOrder_more (wpAny_assign_Name (wpAny_mono (hq _ F') (fun _ s₂ h₂ => ?_) fun _ _ x => x))
  exact wpAny_assignInOrder_more (wpAny_assign_Name (wpAny_mono h₂ (fun _ s₃ h₃ => wpAny_assignInOrder_none h₃) fun _ _ x => x))

theorem x_forT {target iter : Expr} {body orelse rest : List Stmt} {pos : Pos} {Q : Flow → Shared → Prop}
    (h : wpAny (model prog w) A (eval iter env) (fun xv s₁ => wpAny (model prog w) A (pyIter xv) (fun it s₂ => ∃ (J : Nat → Shared → Prop) (n : Nat), J n s₂ ∧
      ∀ n s, WithL (fun s₃ => ∃ m, m < n ∧ J m s₃) (fun s₃ => wpAny (model prog w) A (execs rest env) Q E s₃) (fun v s₃ => Q (.ret v) s₃) fun B => WithE (fun s₃ => wpAny (model prog w) A (execs rest env) Q E s₃) Q fun D =>
        J n s → wpAny (model prog w) A (pyNext it) (fun r s₁ => match r with
        | none => wpAny (model prog w) A (execs orelse env) D NoE s₁
        | some v => wpAny (model prog w) A (letOwnedTupleGo target it v) (fun _ s₁' => wpAny (model prog w) A (assign target env v) (fun _ s₂ => wpAny (model prog w) A (execs body env) B NoE s₂) NoE s₁') NoE s₁) NoE s) E s₁) E s)
    (hs : ∀ x, foldedSetIterable iter env x = pure x := by intro _; with_unfolding_all rfl) :
    wpAny (model prog w) A (execs (.For target iter body orelse pos :: rest) env) Q E s := by
  refine wpAny_execs_cons (wpAny_For (wpAny_mono h (fun xv s₁ h₁ => wpAny_mono h₁ (fun it s₂ h₂ => ?_) fun _ _ x => x) fun _ _ x => x) hs)
  obtain ⟨J, n, h0, turn⟩ := h₂
  refine codeAny_forLoop_any J (fun n s hJ => ?_) n h0
  refine wpAny_mono ((turn n s).use.use hJ) (fun r s₁ h₁ => ?_) fun _ _ x => x.elim
  cases r with
  | none => exact wpAny_mono h₁ (fun f s₃ h₃ => by cases f <;> exact h₃) fun _ _ x => x.elim
  | some v => exact wpAny_mono h₁ (fun _ s₁' h₁' => wpAny_mono h₁' (fun _ s₂ h₂ => wpAny_mono h₂ (fun f s₃ h₃ => by cases f <;> exact h₃) fun _ _ x => x.elim) fun _ _ x => x.elim) fun _ _ x => x.elim

theorem op_enum {Q : Value → Shared → Prop} (F : Fm h₀ X s₀ env loc rs s) (hm : listR l xs ∈ rs) (h : ∀ e it s', s₀.heap.get? e = none → s₀.heap.get? it = none → e ≠ l → it ≠ l → Fm h₀ X s₀ env loc (enR e it l 0 :: rs) s' → Q (.ref e) s') :
    wpAny (model prog w) A (call (.type "enumerate") [.ref l]) Q E s := by
  have hl := F.list hm
  obtain ⟨ol, hol, _⟩ := id hl
  have hlt := Heap.lt_size hol
  refine call_enumerate_list hl fun h' he hit hsz hk => ?_
  have n1 : s.heap.get? (s.heap.objs.size + 1) = none := Heap.get?_none_of_le (Nat.le_succ _)
  have n2 : s.heap.get? s.heap.objs.size = none := get?_size _
  obtain ⟨oi, hoi, _⟩ := id hit
  refine h _ s.heap.objs.size _ (F.mod.none_of n1) (F.mod.none_of n2) (Nat.ne_of_gt (Nat.lt_succ_of_lt hlt)) (Nat.ne_of_gt hlt) ?_
  refine F.addL (s' := { s with heap := h' }) (new := [enR (s.heap.objs.size + 1) s.heap.objs.size l 0]) (.of_kp (t := s.toks) hk) (fun r hr a f => ?_) (fun r hr => ?_) (List.pairwise_singleton _ _)
  · rw [List.mem_singleton.mp hr] at f
    rcases f with rfl | rfl
    · exact ⟨n1, _, he⟩
    · exact ⟨n2, _, hoi⟩
  · rw [List.mem_singleton.mp hr]
    exact ⟨Nat.succ_ne_self _, ⟨_, he⟩, hit⟩
theorem it_enum {e it : Addr} {i : Nat} {Q : Value → Shared → Prop} (F : Fm h₀ X s₀ env loc rs s) (hm : enR e it l i ∈ rs) (h : Q (.ref e) s) : wpAny (model prog w) A (pyIter (.ref e)) Q E s := by
  obtain ⟨_, ⟨old, he⟩, _⟩ := F.rg _ hm
  exact wpAny_pyIter_enum he h
theorem nx_enum {e it : Addr} {i : Nat} {a b : Str} {pa pb tpos : Pos} {k : Nat} {v : Value} {R : Shared → Prop} {N : Shared → Prop} (hh : A.handled = none) (F : Fm h₀ X s₀ env loc rs s) (hm : listR l xs ∈ rs) (hx : xs[i]? = some v) (hel : e ≠ l) (hil : it ≠ l)
    (u : UpdR (enR e it l i) (enR e it l (i + 1)) rs rs') (he0 : s₀.heap.get? e = none) (hi0 : s₀.heap.get? it = none)
    (h : ∀ t s', Fm h₀ X s₀ env loc rs' s' → wpAny (model prog w) A (storeName env a (.int (i : Nat) t)) (fun _ s₂ => wpAny (model prog w) A (storeName env b v) (fun _ s₃ => R s₃) NoE s₂) NoE s') :
    wpAny (model prog w) A (pyNext (.ref e)) (fun r s₁ => match r with
      | none => N s₁
      | some tv => wpAny (model prog w) A (letOwnedTupleGo (.Tuple [.Name a pa, .Name b pb] k tpos) (.ref e) tv) (fun _ s₁' => wpAny (model prog w) A (assign (.Tuple [.Name a pa, .Name b pb] k tpos) env tv) (fun _ s₂ => R s₂) NoE s₁') NoE s₁) NoE s := by
  obtain ⟨hne, ⟨old, he⟩, hit⟩ := F.rg _ u.mem
  have helt := Heap.lt_size he
  obtain ⟨oi, hoi, _⟩ := id hit
  have hilt := Heap.lt_size hoi
  refine wpAny_pyNext_enum_item he hit (F.list hm) (by simpa using hx) hne fun h₁ ho hit₁ hT hsz hk => ?_
  show wpAny _ _ _ _ _ _
  refine wpAny_letOwnedTupleGo_enum ho fun h₂ he₂ hs₂ => ?_
  have hs₂' : Heap.SameBut e h₁ h₂ := hs₂
  have m : Md (enR e it l i).foot s { s with heap := h₂, toks := s.toks + 1 } := by
    refine ⟨fun b o hb x => ?_, fun b o x => ?_, rfl, rfl⟩
    · have hb1 : b ≠ e := fun q => hb (.inl q)
      have hb2 : b ≠ it := fun q => hb (.inr q)
      exact (hs₂'.2 b hb1).trans (hk b o hb1 hb2 x)
    · by_cases q1 : b = e
      · exact ⟨_, q1 ▸ he₂⟩
      · by_cases q2 : b = it
        · obtain ⟨o', ho', _⟩ := hit₁
          exact ⟨o', q2 ▸ (hs₂'.2 it hne.symm).trans ho'⟩
        · exact ⟨o, (hs₂'.2 b q1).trans (hk b o q1 q2 x)⟩
  have hit₂ : h₂.IsListIter it l (i + 1) := hit₁.at fun o x => (hs₂'.2 it hne.symm).trans x
  have F2 : Fm h₀ X s₀ env loc rs' { s with heap := h₂, toks := s.toks + 1 } := by
    refine F.change u m (fun a f => .inr (f.elim (fun q => q ▸ he0) fun q => q ▸ hi0)) (fun a f => ⟨.inl f, ?_⟩) ⟨hne, ⟨_, by rw [show ((i + 1 : Nat) : Int) = (i : Int) + 1 by push_cast; rfl]; exact he₂⟩, hit₂⟩
    rcases f with rfl | rfl
    · exact ⟨_, he₂⟩
    · obtain ⟨o', ho', _⟩ := hit₂; exact ⟨o', ho'⟩
  have hT2 : h₂.IsTuple s.heap.objs.size #[.int i s.toks, v] := ⟨_, (hs₂'.2 _ (Nat.ne_of_gt helt)).trans hT, rfl, _, rfl⟩
  refine wpAny_assign_Tuple hh hT2 rfl rfl fun h₃ hx₃ => ?_
  have F3 := F2.keep (.of_kp (t := s.toks + 1) (kp_ext hx₃))
  show wpAny _ A (assignInOrder [assign (.Name a pa) env, assign (.Name b pb) env] [.int i s.toks, v]) _ _ _
  refine wpAny_assignInOrder_more (wpAny_assign_Name (wpAny_mono (h _ _ F3) (fun _ s₂ h₂ => ?_) fun _ _ x => x))
  exact wpAny_assignInOrder_more (wpAny_assign_Name (wpAny_mono h₂ (fun _ s₃ h₃ => wpAny_assignInOrder_none h₃) fun _ _ x => x))
theorem nd_enum {e it : Addr} {Q : Option Value → Shared → Prop} (hh : A.handled = none) (F : Fm h₀ X s₀ env loc rs s) (hm : listR l xs ∈ rs) (u : RemR (enR e it l xs.length) rs rs') (hi0 : s₀.heap.get? it = none)
    (h : ∀ s', Fm h₀ X s₀ env loc rs' s' → Q none s') : wpAny (model prog w) A (pyNext (.ref e)) Q E s := by
  obtain ⟨hne, ⟨old, he⟩, hit⟩ := F.rg _ u.mem
  refine wpAny_pyNext_enum_end hh he hit (F.list hm) (by simp) fun h' hx => ?_
  have F1 := (F.perm u.perm.symm).split (r1 := ⟨(· = it), fun _ => True, fun _ _ _ _ => trivial⟩) (r2 := ⟨(· = e), fun _ => True, fun _ _ _ _ => trivial⟩) .hit (fun a f => .inr f) (fun a f => .inl f) (fun a f g => hne (g.symm.trans f)) fun _ => ⟨trivial, trivial⟩
  have G := F1.gone (s' := { s with heap := h' }) (a := it) .hit rfl hi0 (fun b o hb e => hx b o hb e) rfl rfl
  exact h _ (G.sub (.cons _ (.refl _)))

theorem op_max1 {ns : List Int} {Q : Value → Shared → Prop} (hh : A.handled = none) (F : Fm h₀ X s₀ env loc rs s) (hm : listR l xs ∈ rs) (hI : IntsAre xs ns) (hne : 0 < ns.length)
    (h : ∀ M t s', Fm h₀ X s₀ env loc rs s' → M ∈ ns → (∀ a, a ∈ ns → a ≤ M) → Q (.int M t) s') : wpAny (model prog w) A (call (.builtin "max") [.ref l]) Q E s := by
  obtain ⟨m, F0, hv⟩ := F.fr
  refine max_list_N hh F0 (allN_ok _ _) (F.list hm) hI hne fun h' M t tk F' N' h1 h2 => ?_
  exact h M t _ (F.back hv F' N') h1 h2
theorem op_join {x : Str} {t : Tok} {ys : List Str} {Q : Value → Shared → Prop} (F : Fm h₀ X s₀ env loc rs s) (hm : listR l xs ∈ rs) (hI : StrsAre xs ys) (hsep : x.length ≤ 16) (hw : (ys.map (·.length)).sum + ys.length ≤ 1048576)
    (h : ∀ t' s', Fm h₀ X s₀ env loc rs s' → Q (.str (Txt.join x ys) t') s') : wpAny (model prog w) A (call (.builtin "str.join") [.str x t, .ref l]) Q E s :=
  join_listW (F.list hm) (by simpa using hI) hsep hw fun t' k => h t' _ (F.toks _)

/-! equality of data -/
theorem reads_ints {h : Heap} : ∀ {vs : List Value} {ns : List Int}, IntsAre vs ns → ReadsAll h vs (ns.map PyData.int) []
  | _, _, .nil => .nil
  | _, _, .cons n t r => ReadsAll.cons (as := []) (bs := []) (.int n t) (reads_ints r)
theorem reads_strs {h : Heap} : ∀ {vs : List Value} {ns : List Str}, StrsAre vs ns → ReadsAll h vs (ns.map PyData.str) []
  | _, _, .nil => .nil
  | _, _, .cons n t r => ReadsAll.cons (as := []) (bs := []) (.str n t) (reads_strs r)
theorem Fm.readL {ds : List PyData} {as : List Addr} (F : Fm h₀ X s₀ env loc rs s) (hm : listR l xs ∈ rs) (hr : ReadsAll s.heap xs ds as) : Reads s.heap (.ref l) (.list ds) (l :: as) := by
  obtain ⟨o, ho, hc, n, hd⟩ := F.list hm
  exact .list ho hc hd (by simpa using hr)
theorem eqv_ints : ∀ ns ms : List Int, PyData.eqvAll (ns.map PyData.int) (ms.map PyData.int) = decide (ns = ms) := ked_eqvAll
theorem eqv_strs : ∀ ns : List Str, PyData.eqvAll (ns.map PyData.str) (ns.map PyData.str) = true
  | [] => by simp [PyData.eqvAll]
  | a :: r => by simp [PyData.eqvAll, PyData.eqv, eqv_strs r]
theorem op_neL {ys : List Value} {b : Addr} {ds es : List PyData} {as bs : List Addr} {Q : Value → Shared → Prop} (hu : A.units + 64 < cLine) (F : Fm h₀ X s₀ env loc rs s) (hm : listR l xs ∈ rs) (hb : listR b ys ∈ rs)
    (h1 : ReadsAll s.heap xs ds as) (h2 : ReadsAll s.heap ys es bs) (s1 : SeqAt.shaped (.list ds) = true) (s2 : SeqAt.shaped (.list es) = true) (h : Q (.bool (!PyData.eqvAll ds es)) s) :
    wpAny (model prog w) A (compareOp .NotEq (.ref l) (.ref b)) Q E s :=
  ne_dataH (F.readL hm h1) (F.readL hb h2) s1 s2 hu (by simpa only [PyData.eqv] using h)
theorem op_eqL {ys : List Value} {b : Addr} {ds es : List PyData} {as bs : List Addr} {Q : Value → Shared → Prop} (hu : A.units + 64 < cLine) (F : Fm h₀ X s₀ env loc rs s) (hm : listR l xs ∈ rs) (hb : listR b ys ∈ rs)
    (h1 : ReadsAll s.heap xs ds as) (h2 : ReadsAll s.heap ys es bs) (s1 : SeqAt.shaped (.list ds) = true) (s2 : SeqAt.shaped (.list es) = true) (h : Q (.bool (PyData.eqvAll ds es)) s) :
    wpAny (model prog w) A (compareOp .Eq (.ref l) (.ref b)) Q E s :=
  eq_dataH (F.readL hm h1) (F.readL hb h2) s1 s2 hu (by simpa only [PyData.eqv] using h)
end
end
end

section -- L1
open PySem PySem.Calls PySem.W PyProof.Rows PySem.Builtin
set_option Elab.async false
set_option maxRecDepth 100000
set_option linter.unusedVariables false
noncomputable section



noncomputable def lawS : Stmt := PySem.Challenge.pw_op0200_01.main.body.getD 21 (.Pass ⟨0, 0, 0, 0⟩)
noncomputable def lawEnv (L fa : Addr) (cd : Value) : Env := envOfC "law" (fscope lawS) L fa cd
noncomputable def lw (k : Nat) : List Stmt := (pb 21).drop k
structure Amb (A : Around) : Prop where
  depth : A.depth < 500
  han : A.handled = none
  units : A.units + 64 < cLine
theorem sc_law {P : Params} {h₀ : Heap} (B : Base P h₀) (L fa : Addr) (cd : Value) : Sc h₀ (lawEnv L fa cd)
    ["script", "width", "sizes", "heap", "falling", "holds", "size", "row", "place", "many", "sorter", "rounds", "ready", "bag", "deepest", "rising", "word"]
    [("_law_drawn", .ref 197), ("_law_due", .ref 211), ("heapify", .ref 176), ("heappop", .ref 169), ("heappush", .ref 162), ("enumerate", .type "enumerate"), ("_int2digits", .ref 28), ("_digits2int", .ref 35),
     ("TopologicalSorter", .ref 151), ("_law_bag", .ref 204), ("_law_digits", .ref 218), ("max", .builtin "max"), ("range", .type "range")] :=
  sc_of B (by kernel_rfl) (by kernel_rfl) (by kernel_rfl) (by kernel_rfl)
theorem shaped_ints (ns : List Int) : SeqAt.shaped (.list (ns.map PyData.int)) = true := by
  simp [SeqAt.shaped, PyData.canLay0, PyData.canLayAll0, PyData.depth, PyData.depthAll, ke_canLayAll0, ke_depthAll]
theorem Fm.gotL {h₀ : Heap} {X : Addr → Prop} {s₀ s s' : Shared} {env : Env} {loc : List (Str × Value)} {rs new : List Rg} (F : Fm h₀ X s₀ env loc rs s) (m : Md NoX s s') (H : Hands h₀ new s') (hf : ∀ r ∈ new, ∀ a, r.foot a → s.heap.get? a = none) : Fm h₀ X s₀ env loc (new ++ rs) s' :=
  F.addL m (fun r hr a f => ⟨hf r hr a f, (H.rd r hr a f).2⟩) H.rg H.rp
theorem cel_law {L fa : Addr} {cd : Value} {s : Shared} (hc : ∀ p ∈ (lawEnv L fa cd).cells, s.heap.get? p.2 = none) :
    CelOk (lawEnv L fa cd) s "due" ∧ CelOk (lawEnv L fa cd) s "words" ∧ CelOk (lawEnv L fa cd) s "depths" ∧ CelOk (lawEnv L fa cd) s "wanted" ∧ CelOk (lawEnv L fa cd) s "worths" := by
  have e1 : (lawEnv L fa cd).cells.lookup ("due" : Str) = some (L + 1) := by kernel_rfl
  have e2 : (lawEnv L fa cd).cells.lookup ("words" : Str) = some (L + 1 + 1) := by kernel_rfl
  have e3 : (lawEnv L fa cd).cells.lookup ("depths" : Str) = some (L + 1 + 1 + 1) := by kernel_rfl
  have e4 : (lawEnv L fa cd).cells.lookup ("wanted" : Str) = some (L + 1 + 1 + 1 + 1) := by kernel_rfl
  have e5 : (lawEnv L fa cd).cells.lookup ("worths" : Str) = some (L + 1 + 1 + 1 + 1 + 1) := by kernel_rfl
  exact ⟨⟨by kernel_rfl, by decide, _, e1, hc _ (mem_of_lookup e1)⟩, ⟨by kernel_rfl, by decide, _, e2, hc _ (mem_of_lookup e2)⟩, ⟨by kernel_rfl, by decide, _, e3, hc _ (mem_of_lookup e3)⟩,
    ⟨by kernel_rfl, by decide, _, e4, hc _ (mem_of_lookup e4)⟩, ⟨by kernel_rfl, by decide, _, e5, hc _ (mem_of_lookup e5)⟩⟩

set_option maxHeartbeats 8000000
section
variable {prog : Program} {w : World} {P : Params} {h₀ : Heap} {A : Around} {E : Value → Shared → Prop} {s₀ s : Shared} {L fa : Addr} {cd : Value} {l : Addr} {vs : List Value} {ns : List Int} {Q : Flow → Shared → Prop}
noncomputable abbrev tI (oc : Option Addr) : Rg := tabR 23 (fpos stI) qI oc
noncomputable abbrev tJ (oc : Option Addr) : Rg := tabR 30 (fpos stJ) qJ oc
/-- width, sizes; due -/
theorem segA (B : Base P h₀) (a : Amb A) (hc : ∀ p ∈ (lawEnv L fa cd).cells, s₀.heap.get? p.2 = none) (F : Fm h₀ NoX s₀ (lawEnv L fa cd) [("script", .ref l)] [tI none, tJ none] s) (hl : h₀.IsList l vs.toArray) (hi : IntsAre vs ns) (hz : vs.length ≤ 63)
    (hcl : ∀ n S, 1 ≤ n → n ≤ 3 → S.length = 3 → (∀ x ∈ S, Dr n x) → ∃ U : List Nat, (∀ x, Clos n S x → x ∈ U) ∧ U.length < 64 ∧ ∀ x ∈ U, (bagL n x 0).length ≤ 64)
    (h : ∀ s' lz ld us vd S D n t, s₀.heap.get? lz = none → s₀.heap.get? ld = none → IntsAre us (asI S) → S.length = 3 → 1 ≤ n → n ≤ 3 → (∀ x ∈ S, Dr n x) → IntsAre vd (asI D) → D.Pairwise (· < ·) → (∀ x, x ∈ D ↔ Clos n S x) →
      Fm h₀ NoX s₀ (lawEnv L fa cd) [("script", .ref l), ("width", .int (n : Nat) t), ("sizes", .ref lz), ("due", .ref ld)] [listR ld vd, listR lz us, tI none, tJ none] s' → wpAny (model prog w) A (execs (lw 2) (lawEnv L fa cd)) Q E s') :
    wpAny (model prog w) A (execs (lw 0) (lawEnv L fa cd)) Q E s := by
  have S := sc_law B L fa cd
  have K197 := fn_drawn B
  have K211 := fn_due B
  obtain ⟨c1, c2, c3, c4, c5⟩ := cel_law hc
  have hd := a.depth
  refine x_assignT2 (h₀ := h₀) (X := NoX) (s₀ := s₀) a.han ?_
  kfm_turns
  refine drawn_ok B (by lia) a.han F.base hl hi hz ?_
  intro s1 T lz us S1 n t m1 hT hlz H1 hus hS3 hn1 hn3 hDr
  have F1 := F.gotL m1 H1 (fun r hr a f => by
    rcases List.mem_cons.mp hr with rfl | hr
    · rw [show a = T from f]; exact hT
    · rw [List.mem_singleton.mp hr] at f; rw [show a = lz from f]; exact hlz)
  simp only [List.cons_append, List.nil_append] at F1
  refine ⟨_, _, T, _, _, rfl, F1, by kqd_in, ?_⟩
  intro s2 F2
  kfm_turns
  rename_i s3 F3
  obtain ⟨U, hU, hU64, hT64⟩ := hcl n S1 hn1 hn3 hS3 hDr
  refine due_ok B (show A.depth < 899 by lia) (F3.hands (rs' := [listR lz us]) (by k_subL)) hus hn1 hn3 hU hU64 (by lia) hT64 ?_
  intro s4 ld vd D m4 hld H4 hvd hD1 hD2
  have F4 := F3.gotL m4 H4 (fun r hr a f => by rw [List.mem_singleton.mp hr] at f; rw [show a = ld from f]; exact hld)
  simp only [List.cons_append, List.nil_append] at F4
  refine st_cel F4 c1 (by kqd_sub) ?_; intro s5 F5
  exact h s5 lz ld us vd S1 D n t (F.mod.none_of hlz) (F3.mod.none_of hld) hus hS3 hn1 hn3 hDr hvd hD1 hD2 (F5.sub (by k_subL))
end
end
end

section -- N2
open PySem
set_option linter.unusedVariables false
noncomputable section

/-! heaps -/
structure TP (lt : Value → Value → Bool) (P : Value → Prop) : Prop where
  tot : ∀ a b, P a → P b → lt a b = true → lt b a = false
  tr : ∀ a b c, P a → P b → P c → lt b a = false → lt c b = false → lt c a = false
noncomputable abbrev gt0 (xs : List Value) (i : Nat) : Value := xs.getD i .none
theorem gt_set {xs : List Value} {p i : Nat} {v : Value} (hp : p < xs.length) : gt0 (xs.set p v) i = if i = p then v else gt0 xs i := by
  unfold gt0
  rw [List.getD_eq_getElem?_getD, List.getD_eq_getElem?_getD, List.getElem?_set]
  by_cases e : i = p
  · subst e; simp [hp]
  · rw [if_neg (fun q => e q.symm), if_neg e]
theorem gt_mem {xs : List Value} {P : Value → Prop} (h : ∀ x ∈ xs, P x) {i : Nat} (hi : i < xs.length) : P (gt0 xs i) := h _ (getD_mem hi)
noncomputable def HpFrom (lt : Value → Value → Bool) (lo : Nat) (xs : List Value) : Prop := ∀ i, 0 < i → i < xs.length → lo ≤ (i - 1) / 2 → lt (gt0 xs i) (gt0 xs ((i - 1) / 2)) = false
structure Hole (lt : Value → Value → Bool) (lo : Nat) (xs : List Value) (p : Nat) : Prop where
  e : ∀ i, 0 < i → i < xs.length → lo ≤ (i - 1) / 2 → i ≠ p → (i - 1) / 2 ≠ p → lt (gt0 xs i) (gt0 xs ((i - 1) / 2)) = false
  g : 0 < p → lo ≤ (p - 1) / 2 → ∀ c, (c - 1) / 2 = p → 0 < c → c < xs.length → lt (gt0 xs c) (gt0 xs ((p - 1) / 2)) = false
inductive Sub (lo : Nat) : Nat → Prop
  | refl : Sub lo lo
  | step {p : Nat} : 0 < p → Sub lo ((p - 1) / 2) → Sub lo p
theorem Sub.le {lo p : Nat} (h : Sub lo p) : lo ≤ p := by
  induction h with
  | refl => exact Nat.le_refl _
  | step h _ ih => lia
theorem Sub.up {lo p : Nat} (h : Sub lo p) (hp : lo < p) : Sub lo ((p - 1) / 2) := by
  cases h with
  | refl => lia
  | step _ h => exact h
theorem Sub.zero (p : Nat) : Sub 0 p := by
  induction p using Nat.strongRecOn with
  | ind p ih =>
    by_cases h : p = 0
    · subst h; exact .refl
    · exact .step (by lia) (ih _ (by lia))
theorem all_set {P : Value → Prop} {xs : List Value} {p : Nat} {v : Value} (h : ∀ x ∈ xs, P x) (hv : P v) : ∀ x ∈ xs.set p v, P x := fun x hx =>
  (List.mem_or_eq_of_mem_set hx).elim (h x) fun e => e ▸ hv

section
variable {lt : Value → Value → Bool} {P : Value → Prop} (T : TP lt P)
include T
theorem sdown_hp {lo : Nat} : ∀ (n p : Nat) (xs : List Value) (v : Value), p = n → (∀ x ∈ xs, P x) → P v → p < xs.length → Hole lt lo xs p → (∀ c, (c - 1) / 2 = p → 0 < c → c < xs.length → lt (gt0 xs c) v = false) → Sub lo p →
    HpFrom lt lo (sdown lt lo xs p v) := by
  intro n
  induction n using Nat.strongRecOn with
  | ind n ih =>
    intro p xs v hn hP hv hp H hc hS
    subst hn
    have fin : (lo < p → lt v (gt0 xs ((p - 1) / 2)) = false) → HpFrom lt lo (xs.set p v) := by
      intro hq i h0 hi hlo
      rw [List.length_set] at hi
      rw [gt_set hp, gt_set hp]
      by_cases e1 : i = p
      · subst e1
        rw [if_pos rfl, if_neg (by lia)]
        exact hq (by have := hS.le; lia)
      · rw [if_neg e1]
        by_cases e2 : (i - 1) / 2 = p
        · rw [if_pos e2]; exact hc i e2 h0 hi
        · rw [if_neg e2]; exact H.e i h0 hi hlo e1 e2
    unfold sdown
    split
    · rename_i hlt
      have hp' : (p - 1) / 2 < xs.length := by lia
      have hpp : (p - 1) / 2 ≠ p := by lia
      have hSu := hS.up hlt
      have hlo' := hSu.le
      rw [getD_some hp']
      dsimp only
      split
      · rename_i hl
        have hq : P (gt0 xs ((p - 1) / 2)) := gt_mem hP hp'
        have hvq := T.tot _ _ hv hq hl
        refine ih ((p - 1) / 2) (by lia) _ _ v rfl (all_set hP hq) hv (by rw [List.length_set]; exact hp') ⟨?_, ?_⟩ ?_ hSu
        · intro i h0 hi hlo e1 e2
          rw [List.length_set] at hi
          have e3 : i ≠ p := fun q => e2 (by rw [q])
          rw [gt_set hp, gt_set hp, if_neg e3]
          by_cases e4 : (i - 1) / 2 = p
          · rw [if_pos e4]; exact H.g (by lia) hlo' i e4 h0 hi
          · rw [if_neg e4]; exact H.e i h0 hi hlo e3 e4
        · intro h0 hlo c ec hc0 hcl
          rw [List.length_set] at hcl
          rw [gt_set hp, gt_set hp, if_neg (show ((p - 1) / 2 - 1) / 2 ≠ p by lia)]
          have h1 := H.e ((p - 1) / 2) h0 hp' hlo hpp (by lia)
          by_cases e1 : c = p
          · rw [if_pos e1]; exact h1
          · rw [if_neg e1]
            have h2 := H.e c hc0 hcl (by rw [ec]; exact hlo') e1 (by rw [ec]; exact hpp)
            rw [ec] at h2
            exact T.tr _ _ _ (gt_mem hP (by lia)) hq (gt_mem hP hcl) h1 h2
        · intro c ec hc0 hcl
          rw [List.length_set] at hcl
          rw [gt_set hp]
          by_cases e1 : c = p
          · rw [if_pos e1]; exact hvq
          · rw [if_neg e1]
            have h2 := H.e c hc0 hcl (by rw [ec]; exact hlo') e1 (by rw [ec]; exact hpp)
            rw [ec] at h2
            exact T.tr _ _ _ hv hq (gt_mem hP hcl) hvq h2
      · rename_i hl
        exact fin fun _ => by simpa using hl
    · rename_i hlt
      exact fin fun h => absurd h hlt
theorem sup1_hole {lo : Nat} : ∀ (n p : Nat) (xs : List Value), xs.length - p = n → (∀ x ∈ xs, P x) → p < xs.length → Hole lt lo xs p → Sub lo p →
    Hole lt lo (sup1 lt xs p).1 (sup1 lt xs p).2 ∧ Sub lo (sup1 lt xs p).2 ∧ (sup1 lt xs p).2 < (sup1 lt xs p).1.length ∧ (sup1 lt xs p).1.length ≤ 2 * (sup1 lt xs p).2 + 1 ∧ ∀ x ∈ (sup1 lt xs p).1, P x := by
  intro n
  induction n using Nat.strongRecOn with
  | ind n ih =>
    intro p xs hn hP hp H hS
    unfold sup1
    split
    · rename_i h
      have hc := chd_lt (lt := lt) h
      have hpar : (chd lt xs p - 1) / 2 = p := by unfold chd; split <;> lia
      refine ih _ (by simp only [List.length_set]; lia) _ _ rfl (all_set hP (gt_mem hP hc.2)) (by rw [List.length_set]; exact hc.2) ⟨?_, ?_⟩ (.step (by lia) (by rw [hpar]; exact hS))
      · intro i h0 hi hlo e1 e2
        rw [List.length_set] at hi
        rw [gt_set hp, gt_set hp]
        by_cases e3 : i = p
        · subst e3
          rw [if_pos rfl, if_neg (by lia)]
          exact H.g h0 hlo _ hpar (by lia) hc.2
        · rw [if_neg e3]
          by_cases e4 : (i - 1) / 2 = p
          · rw [if_pos e4]
            show lt (gt0 xs i) (gt0 xs (chd lt xs p)) = false
            unfold chd at e1 ⊢
            split
            · rename_i hh
              rw [if_pos hh] at e1
              have : i = 2 * p + 1 := by lia
              rw [this]; exact hh.2
            · rename_i hh
              rw [if_neg hh] at e1
              have : i = 2 * p + 2 := by lia
              subst this
              rcases Bool.eq_false_or_eq_true (lt (gt0 xs (2 * p + 1)) (gt0 xs (2 * p + 2))) with q | q
              · exact T.tot _ _ (gt_mem hP (by lia)) (gt_mem hP hi) q
              · exact absurd ⟨hi, q⟩ hh
          · rw [if_neg e4]; exact H.e i h0 hi hlo e3 e4
      · intro h0 hlo c ec hc0 hcl
        rw [List.length_set] at hcl
        rw [gt_set hp, gt_set hp, hpar, if_pos rfl, if_neg (by lia)]
        have := H.e c hc0 hcl (by have := hS.le; lia) (by lia) (by lia)
        rw [ec] at this
        exact this
    · rename_i h
      exact ⟨H, hS, hp, by show xs.length ≤ 2 * p + 1; lia, hP⟩
theorem sup_hp {p : Nat} {xs : List Value} (hP : ∀ x ∈ xs, P x) (hp : p < xs.length) (h : HpFrom lt (p + 1) xs) : HpFrom lt p (sup lt xs p) := by
  obtain ⟨H, hS, hq, hlen, hP'⟩ := sup1_hole T (lo := p) _ p xs rfl hP hp ⟨fun i h0 hi hlo e1 e2 => h i h0 hi (by lia), fun h0 hlo => by lia⟩ .refl
  unfold sup
  generalize sup1 lt xs p = r at H hS hq hlen hP'
  obtain ⟨ys, q⟩ := r
  dsimp only at H hS hq hlen hP' ⊢
  refine sdown_hp T _ q _ _ rfl (all_set hP' (gt_mem hP hp)) (gt_mem hP hp) (by rw [List.length_set]; exact hq) ⟨?_, ?_⟩ ?_ hS
  · intro i h0 hi hlo e1 e2
    rw [List.length_set] at hi
    rw [gt_set hq, gt_set hq, if_neg e1, if_neg e2]; exact H.e i h0 hi hlo e1 e2
  · intro h0 hlo c ec hc0 hcl
    rw [List.length_set] at hcl; lia
  · intro c ec hc0 hcl
    rw [List.length_set] at hcl; lia
theorem hfy_hp : ∀ (i : Nat) (xs : List Value), i ≤ xs.length → (∀ x ∈ xs, P x) → HpFrom lt i xs → HpFrom lt 0 (hfy lt i xs)
  | 0, xs, _, _, h => h
  | i + 1, xs, hi, hP, h => hfy_hp i _ (by rw [sup_len lt (by lia)]; lia) (fun x hx => hP x ((sup_perm lt (by lia)).mem_iff.mp hx)) (sup_hp T hP (by lia) h)
theorem heapify_hp {xs : List Value} (hP : ∀ x ∈ xs, P x) : HpFrom lt 0 (hfy lt (xs.length / 2) xs) :=
  hfy_hp T _ _ (by lia) hP fun i h0 hi hlo => by lia
theorem push_hp {xs : List Value} {v : Value} (hP : ∀ x ∈ xs, P x) (hv : P v) (h : HpFrom lt 0 xs) : HpFrom lt 0 (sdown lt 0 (xs ++ [v]) xs.length v) := by
  have gl : ∀ i, i < xs.length → gt0 (xs ++ [v]) i = gt0 xs i := fun i hi => by
    unfold gt0
    rw [List.getD_eq_getElem?_getD, List.getD_eq_getElem?_getD, List.getElem?_append_left hi]
  refine sdown_hp T _ _ _ _ rfl (fun x hx => (List.mem_append.mp hx).elim (hP x) fun m => List.mem_singleton.mp m ▸ hv) hv (by simp) ⟨?_, ?_⟩ ?_ (Sub.zero _)
  · intro i h0 hi hlo e1 e2
    simp only [List.length_append, List.length_cons, List.length_nil] at hi
    rw [gl i (by lia), gl _ (by lia)]
    exact h i h0 (by lia) hlo
  · intro h0 hlo c ec hc0 hcl
    simp only [List.length_append, List.length_cons, List.length_nil] at hcl; lia
  · intro c ec hc0 hcl
    simp only [List.length_append, List.length_cons, List.length_nil] at hcl; lia
theorem pop_hp {u v : Value} {r : List Value} (hP : ∀ x ∈ u :: r, P x) (hv : P v) (h : HpFrom lt 0 (u :: r ++ [v])) : HpFrom lt 0 (sup lt (v :: r) 0) := by
  have gl : ∀ i, 0 < i → i < r.length + 1 → gt0 (v :: r) i = gt0 (u :: r ++ [v]) i := fun i h0 hi => by
    obtain ⟨j, rfl⟩ : ∃ j, i = j + 1 := ⟨i - 1, by lia⟩
    unfold gt0
    rw [List.getD_eq_getElem?_getD, List.getD_eq_getElem?_getD, List.cons_append, List.getElem?_cons_succ, List.getElem?_cons_succ, List.getElem?_append_left (by lia)]
  refine sup_hp T (fun x hx => (List.mem_cons.mp hx).elim (fun e => e ▸ hv) fun m => hP x (.tail _ m)) (by simp) fun i h0 hi hlo => ?_
  simp only [List.length_cons] at hi
  rw [gl i h0 (by lia), gl _ (by lia) (by lia)]
  exact h i h0 (by simp; lia) (by lia)
theorem hp_min {u : Value} {r : List Value} (hP : ∀ x ∈ u :: r, P x) (h : HpFrom lt 0 (u :: r)) : ∀ x ∈ u :: r, lt x u = false := by
  have hu : P u := hP u (.head _)
  have irr : lt u u = false := by
    rcases Bool.eq_false_or_eq_true (lt u u) with q | q
    · exact T.tot _ _ hu hu q
    · exact q
  have key : ∀ i, i < (u :: r).length → lt (gt0 (u :: r) i) u = false := by
    intro i
    induction i using Nat.strongRecOn with
    | ind i ih =>
      intro hi
      by_cases h0 : i = 0
      · subst h0; exact irr
      · have h1 := ih ((i - 1) / 2) (by lia) (by lia)
        have h2 := h i (by lia) hi (by lia)
        exact T.tr _ _ _ hu (gt_mem hP (by lia)) (gt_mem hP hi) h1 h2
  intro x hx
  obtain ⟨i, hi, rfl⟩ := List.mem_iff_getElem.mp hx
  have := key i hi
  unfold gt0 at this
  rw [List.getD_eq_getElem?_getD, List.getElem?_eq_getElem hi] at this
  exact this
end
theorem tpI : TP ltV IsI := by
  refine ⟨?_, ?_⟩
  · rintro _ _ ⟨a, t, rfl⟩ ⟨b, u, rfl⟩ h
    have : a < b := of_decide_eq_true h
    exact decide_eq_false (by lia)
  · rintro _ _ _ ⟨a, t, rfl⟩ ⟨b, u, rfl⟩ ⟨c, v, rfl⟩ h1 h2
    have h1' : ¬ b < a := of_decide_eq_false h1
    have h2' : ¬ c < b := of_decide_eq_false h2
    exact decide_eq_false (by lia)
theorem tpS : TP ltV IsS := by
  refine ⟨?_, ?_⟩
  · rintro _ _ ⟨a, t, rfl⟩ ⟨b, u, rfl⟩ h
    have : a.cps.toList < b.cps.toList := of_decide_eq_true h
    exact decide_eq_false (List.lt_asymm this)
  · rintro _ _ _ ⟨a, t, rfl⟩ ⟨b, u, rfl⟩ ⟨c, v, rfl⟩ h1 h2
    have h1' : ¬ b.cps.toList < a.cps.toList := of_decide_eq_false h1
    have h2' : ¬ c.cps.toList < b.cps.toList := of_decide_eq_false h2
    refine decide_eq_false ?_
    exact List.not_lt.mpr (List.le_trans (List.not_lt.mp h1') (List.not_lt.mp h2'))
end
end

section -- N3
open PySem PyProof.Rows
set_option linter.unusedVariables false
noncomputable section

/-! bags: the digits of a number, as places -/
noncomputable abbrev bag (n x : Nat) : List Nat := bagL n x 0
section
variable {n : Nat} (hn : 1 ≤ n)
include hn
theorem one_lt_B : 1 < 2 ^ n := Nat.one_lt_two_pow (by lia)
theorem bagL_rec (x s : Nat) : bagL n x s = bagL n (x / 2 ^ n) (s + 1) ++ List.replicate (x % 2 ^ n) s := by
  by_cases h : x = 0
  · subst h; simp [bagL_zero]
  · exact bagL_pos (by lia) h
theorem bagL_ge : ∀ (N x s p : Nat), x ≤ N → p ∈ bagL n x s → s ≤ p
  | 0, x, s, p, h, hp => by
    have : x = 0 := by lia
    subst this; rw [bagL_zero] at hp; cases hp
  | N + 1, x, s, p, h, hp => by
    by_cases h0 : x = 0
    · subst h0; rw [bagL_zero] at hp; cases hp
    rw [bagL_rec hn] at hp
    rcases List.mem_append.mp hp with hp | hp
    · have := bagL_ge N (x / 2 ^ n) (s + 1) p (by have := Nat.div_lt_self (show 0 < x by lia) (one_lt_B hn); lia) hp
      lia
    · rw [(List.mem_replicate.mp hp).2]; exact Nat.le_refl _
/-- the greatest place first -/
theorem bagL_top : ∀ (N x s : Nat), x ≤ N → 0 < x → ∃ a, 2 ^ (n * a) ≤ x ∧ x < 2 ^ (n * (a + 1)) ∧ bagL n x s = (s + a) :: bagL n (x - 2 ^ (n * a)) s
  | 0, x, s, h, h0 => by lia
  | N + 1, x, s, h, h0 => by
    have hB := one_lt_B hn
    by_cases hx : x < 2 ^ n
    · refine ⟨0, by simp; lia, by simpa using hx, ?_⟩
      rw [bagL_rec hn x s, bagL_rec hn (x - 2 ^ (n * 0)) s]
      simp only [Nat.mul_zero, Nat.pow_zero, Nat.add_zero]
      rw [Nat.div_eq_of_lt hx, Nat.div_eq_of_lt (show x - 1 < 2 ^ n by lia), Nat.mod_eq_of_lt hx, Nat.mod_eq_of_lt (show x - 1 < 2 ^ n by lia), bagL_zero, List.nil_append, List.nil_append]
      obtain ⟨y, rfl⟩ : ∃ y, x = y + 1 := ⟨x - 1, by lia⟩
      rw [List.replicate_succ]; simp
    · have hd := Nat.div_lt_self h0 hB
      have hd0 : 0 < x / 2 ^ n := Nat.div_pos (by lia) (by lia)
      obtain ⟨a, h1, h2, h3⟩ := bagL_top N (x / 2 ^ n) (s + 1) (by lia) hd0
      have e1 : 2 ^ (n * (a + 1)) = 2 ^ n * 2 ^ (n * a) := by rw [Nat.mul_succ, Nat.pow_add, Nat.mul_comm]
      have e2 : 2 ^ (n * (a + 1 + 1)) = 2 ^ n * 2 ^ (n * (a + 1)) := by rw [Nat.mul_succ n (a + 1), Nat.pow_add, Nat.mul_comm]
      have hm := Nat.div_add_mod x (2 ^ n)
      have hle : 2 ^ n * 2 ^ (n * a) ≤ x := by
        have := Nat.mul_le_mul_left (2 ^ n) h1
        lia
      refine ⟨a + 1, by rw [e1]; exact hle, ?_, ?_⟩
      · rw [e2]
        have := (Nat.div_lt_iff_lt_mul (by lia)).mp h2
        rw [Nat.mul_comm]; exact this
      · rw [bagL_rec hn x s, h3, bagL_rec hn (x - 2 ^ (n * (a + 1))) s, e1]
        have q1 : (x - 2 ^ n * 2 ^ (n * a)) / 2 ^ n = x / 2 ^ n - 2 ^ (n * a) := Nat.sub_mul_div x (2 ^ n) (2 ^ (n * a))
        have q2 : (x - 2 ^ n * 2 ^ (n * a)) % 2 ^ n = x % 2 ^ n := Nat.sub_mul_mod hle
        rw [q1, q2]
        rw [List.cons_append, show s + 1 + a = s + (a + 1) by lia]
theorem bag_top {x : Nat} (h : 0 < x) : ∃ a, 2 ^ (n * a) ≤ x ∧ x < 2 ^ (n * (a + 1)) ∧ bag n x = a :: bag n (x - 2 ^ (n * a)) := by
  obtain ⟨a, h1, h2, h3⟩ := bagL_top hn x x 0 (Nat.le_refl _) h
  exact ⟨a, h1, h2, by show bagL n x 0 = _; rw [h3, Nat.zero_add]⟩
theorem pow_lt_iff {a b : Nat} : 2 ^ (n * a) < 2 ^ (n * b) ↔ a < b := by
  rw [Nat.pow_lt_pow_iff_right (by decide)]
  exact Nat.mul_lt_mul_left (show 0 < n by lia)
theorem self_lt_pow (a : Nat) : a < 2 ^ (n * a) := Nat.lt_of_lt_of_le Nat.lt_two_pow_self (Nat.pow_le_pow_right (by decide) (Nat.le_mul_of_pos_left a (by lia)))
theorem bag_pow : ∀ (N x p : Nat), x ≤ N → p ∈ bag n x → 2 ^ (n * p) ≤ x
  | 0, x, p, h, hp => by
    have : x = 0 := by lia
    subst this; unfold bag at hp; rw [bagL_zero] at hp; cases hp
  | N + 1, x, p, h, hp => by
    by_cases h0 : x = 0
    · subst h0; unfold bag at hp; rw [bagL_zero] at hp; cases hp
    obtain ⟨a, h1, h2, h3⟩ := bag_top hn (show 0 < x by lia)
    rw [h3] at hp
    have := Nat.two_pow_pos (n * a)
    rcases List.mem_cons.mp hp with rfl | hp
    · exact h1
    · have := bag_pow N (x - 2 ^ (n * a)) p (by lia) hp; lia
theorem bag_lt {x p : Nat} (h : p ∈ bag n x) : p < x := Nat.lt_of_lt_of_le (self_lt_pow hn p) (bag_pow hn x x p (Nat.le_refl _) h)
theorem bag_nil {x : Nat} : bag n x = [] ↔ x = 0 := by
  constructor
  · intro h
    rcases Nat.eq_zero_or_pos x with h0 | h0
    · exact h0
    · obtain ⟨a, _, _, e⟩ := bag_top hn h0
      rw [h] at e; cases e
  · rintro rfl; exact bagL_zero _ _
theorem bag_all {x c : Nat} : (∀ p ∈ bag n x, p < c) ↔ x < 2 ^ (n * c) := by
  constructor
  · intro h
    rcases Nat.eq_zero_or_pos x with h0 | h0
    · subst h0; exact Nat.two_pow_pos _
    · obtain ⟨a, _, h2, e⟩ := bag_top hn h0
      have : a < c := h a (by rw [e]; exact .head _)
      exact Nat.lt_of_lt_of_le h2 (Nat.pow_le_pow_right (by decide) (Nat.mul_le_mul_left n this))
  · intro h p hp
    exact (pow_lt_iff hn).mp (Nat.lt_of_le_of_lt (bag_pow hn x x p (Nat.le_refl _) hp) h)
/-- bags in the order of their numbers -/
theorem bag_lex : ∀ (N x y : Nat), y ≤ N → x < y → ∃ q bx by', bag n x = q ++ bx ∧ bag n y = q ++ by' ∧ ((bx = [] ∧ by' ≠ []) ∨ ∃ a b r r', bx = a :: r ∧ by' = b :: r' ∧ a < b)
  | 0, x, y, h, hxy => by lia
  | N + 1, x, y, h, hxy => by
    obtain ⟨b, b1, b2, b3⟩ := bag_top hn (show 0 < y by lia)
    rcases Nat.eq_zero_or_pos x with h0 | h0
    · subst h0
      exact ⟨[], [], _, (bag_nil hn).mpr rfl, rfl, .inl ⟨rfl, fun q => by have := b3.symm.trans q; cases this⟩⟩
    · obtain ⟨a, a1, a2, a3⟩ := bag_top hn h0
      have hab : a < b + 1 := (pow_lt_iff hn).mp (by lia)
      by_cases e : a = b
      · subst e
        have := Nat.two_pow_pos (n * a)
        obtain ⟨q, bx, by', e1, e2, e3⟩ := bag_lex N (x - 2 ^ (n * a)) (y - 2 ^ (n * a)) (by lia) (by lia)
        exact ⟨a :: q, bx, by', by rw [a3, e1]; rfl, by rw [b3, e2]; rfl, e3⟩
      · exact ⟨[], _, _, rfl, rfl, .inr ⟨a, b, _, _, a3, b3, by lia⟩⟩
theorem bag_inj {x y : Nat} (h : bag n x = bag n y) : x = y := by
  rcases Nat.lt_trichotomy x y with c | c | c
  · obtain ⟨q, bx, by', e1, e2, e3⟩ := bag_lex hn y x y (Nat.le_refl _) c
    rw [e1, e2] at h
    have := List.append_cancel_left h
    rcases e3 with ⟨rfl, h2⟩ | ⟨a, b, r, r', rfl, rfl, hl⟩
    · exact absurd this.symm h2
    · injection this with h1 _; lia
  · exact c
  · obtain ⟨q, bx, by', e1, e2, e3⟩ := bag_lex hn x y x (Nat.le_refl _) c
    rw [e1, e2] at h
    have := List.append_cancel_left h
    rcases e3 with ⟨rfl, h2⟩ | ⟨a, b, r, r', rfl, rfl, hl⟩
    · exact absurd this h2
    · injection this with h1 _; lia
theorem bag_len_le : ∀ (N x : Nat), x ≤ N → (bag n x).length ≤ x
  | 0, x, h => by
    have : x = 0 := by lia
    subst this; simp [bagL_zero]
  | N + 1, x, h => by
    rcases Nat.eq_zero_or_pos x with h0 | h0
    · subst h0; simp [bagL_zero]
    · obtain ⟨a, a1, a2, a3⟩ := bag_top hn h0
      have := Nat.two_pow_pos (n * a)
      have := bag_len_le N (x - 2 ^ (n * a)) (by lia)
      rw [a3, List.length_cons]; lia
/-- how many: the sum of the digits -/
theorem bagL_len_shift : ∀ (N x s t : Nat), x ≤ N → (bagL n x s).length = (bagL n x t).length
  | 0, x, s, t, h => by
    have : x = 0 := by lia
    subst this; simp [bagL_zero]
  | N + 1, x, s, t, h => by
    by_cases h0 : x = 0
    · subst h0; simp [bagL_zero]
    rw [bagL_rec hn x s, bagL_rec hn x t, List.length_append, List.length_append, List.length_replicate, List.length_replicate,
      bagL_len_shift N (x / 2 ^ n) (s + 1) (t + 1) (by have := Nat.div_lt_self (show 0 < x by lia) (one_lt_B hn); lia)]
theorem ds_rec (x : Nat) : (bag n x).length = (bag n (x / 2 ^ n)).length + x % 2 ^ n := by
  unfold bag
  rw [bagL_rec hn x 0, List.length_append, List.length_replicate, bagL_len_shift hn _ _ (0 + 1) 0 (Nat.le_refl _)]
theorem ds_one : ∀ (N x : Nat), x ≤ N → (bag n (x + 1)).length ≤ (bag n x).length + 1 := by
  intro N
  induction N with
  | zero => intro x h; have : x = 0 := by lia
            subst this; exact Nat.le_trans (bag_len_le hn 1 _ (Nat.le_refl _)) (by lia)
  | succ N ih =>
    intro x h
    have hB := one_lt_B hn
    have hm := Nat.mod_lt x (show 0 < 2 ^ n by lia)
    have hdm := Nat.div_add_mod x (2 ^ n)
    rw [ds_rec hn (x + 1), ds_rec hn x]
    by_cases hc : x % 2 ^ n + 1 < 2 ^ n
    · have e1 : (x + 1) / 2 ^ n = x / 2 ^ n := by
        refine Nat.div_eq_of_lt_le ?_ ?_
        · rw [Nat.mul_comm]; lia
        · rw [Nat.mul_comm, Nat.mul_succ]; lia
      have e2 : (x + 1) % 2 ^ n = x % 2 ^ n + 1 := by
        rw [Nat.add_mod, Nat.mod_eq_of_lt (show 1 < 2 ^ n by lia), Nat.mod_eq_of_lt hc]
      rw [e1, e2]; lia
    · have hc' : x % 2 ^ n + 1 = 2 ^ n := by lia
      have e0 : x + 1 = 2 ^ n * (x / 2 ^ n + 1) := by rw [Nat.mul_succ]; lia
      have e1 : (x + 1) / 2 ^ n = x / 2 ^ n + 1 := by rw [e0]; exact Nat.mul_div_cancel_left _ (by lia)
      have e2 : (x + 1) % 2 ^ n = 0 := by rw [e0]; exact Nat.mul_mod_right _ _
      rw [e1, e2]
      have hx0 : 0 < x := by
        rcases Nat.eq_zero_or_pos x with q | q
        · subst q; simp at hc'; lia
        · exact q
      have := ih (x / 2 ^ n) (by have := Nat.div_lt_self hx0 hB; lia)
      lia
theorem ds_add : ∀ (e x : Nat), (bag n (x + 2 ^ (n * e))).length ≤ (bag n x).length + 1
  | 0, x => by simpa using ds_one hn x x (Nat.le_refl _)
  | e + 1, x => by
    have hB := one_lt_B hn
    have e1 : 2 ^ (n * (e + 1)) = 2 ^ n * 2 ^ (n * e) := by rw [Nat.mul_succ, Nat.pow_add, Nat.mul_comm]
    rw [ds_rec hn (x + _), ds_rec hn x, e1, Nat.add_mul_div_left _ _ (by lia), Nat.add_mul_mod_self_left]
    have := ds_add e (x / 2 ^ n)
    lia
theorem dr_len {x : Nat} (h : Dr n x) : (bag n x).length ≤ 4 ∧ x ≤ 4 * 2 ^ (n * 9) := by
  obtain ⟨es, h1, h2, rfl⟩ := h
  have : ∀ es : List Nat, (∀ e ∈ es, e ≤ 9) → (bag n (es.map fun e => 2 ^ (n * e)).sum).length ≤ es.length ∧ (es.map fun e => 2 ^ (n * e)).sum ≤ es.length * 2 ^ (n * 9) := by
    intro es
    induction es with
    | nil => intro _; simp [bagL_zero]
    | cons e r ih =>
      intro h
      obtain ⟨i1, i2⟩ := ih fun x hx => h x (.tail _ hx)
      have h9 := h e (.head _)
      have hp : 2 ^ (n * e) ≤ 2 ^ (n * 9) := Nat.pow_le_pow_right (by decide) (Nat.mul_le_mul_left n h9)
      have := ds_add hn e (r.map fun e => 2 ^ (n * e)).sum
      rw [List.map_cons, List.sum_cons, List.length_cons, Nat.add_comm (2 ^ (n * e)), Nat.succ_mul]
      lia
  obtain ⟨i1, i2⟩ := this es h2
  have : es.length * 2 ^ (n * 9) ≤ 4 * 2 ^ (n * 9) := Nat.mul_le_mul_right _ h1
  lia
theorem dr_mem {x p : Nat} (h : Dr n x) (hp : p ∈ bag n x) : p < 12 := by
  have h1 := bag_pow hn x x p (Nat.le_refl _) hp
  have h2 := (dr_len hn h).2
  have h3 : 4 * 2 ^ (n * 9) = 2 ^ (n * 9 + 2) := by rw [Nat.pow_add]; lia
  have h4 : 2 ^ (n * p) ≤ 2 ^ (n * 9 + 2) := by lia
  have h5 : n * p ≤ n * 9 + 2 := (Nat.pow_le_pow_iff_right (by decide)).mp h4
  apply Nat.lt_of_not_le
  intro h6
  have h7 := Nat.mul_le_mul_left n h6
  lia
theorem clos_in {S : List Nat} (hS : ∀ x ∈ S, Dr n x) {x : Nat} (h : Clos n S x) : x ∈ S ++ List.range 12 := by
  induction h with
  | base h => exact List.mem_append_left _ h
  | step h hp ih =>
    rename_i x p
    refine List.mem_append_right _ (List.mem_range.mpr ?_)
    rcases List.mem_append.mp ih with m | m
    · exact dr_mem hn (hS _ m) hp
    · have := bag_lt hn hp
      have := List.mem_range.mp m
      lia
theorem clos_len {S : List Nat} (hS : ∀ x ∈ S, Dr n x) : ∀ x ∈ S ++ List.range 12, (bag n x).length ≤ 11 := by
  intro x hx
  rcases List.mem_append.mp hx with m | m
  · have := (dr_len hn (hS _ m)).1; lia
  · have := bag_len_le hn x x (Nat.le_refl _)
    have := List.mem_range.mp m
    lia
/-- digits -/
theorem bagL_count : ∀ (N x s i : Nat), x ≤ N → (bagL n x s).count (s + i) = x / 2 ^ (n * i) % 2 ^ n
  | 0, x, s, i, h => by
    have : x = 0 := by lia
    subst this; simp [bagL_zero]
  | N + 1, x, s, i, h => by
    by_cases h0 : x = 0
    · subst h0; simp [bagL_zero]
    have hd : x / 2 ^ n ≤ N := by have := Nat.div_lt_self (show 0 < x by lia) (one_lt_B hn); lia
    rw [bagL_rec hn x s, List.count_append, List.count_replicate]
    cases i with
    | zero =>
      have : (bagL n (x / 2 ^ n) (s + 1)).count (s + 0) = 0 := List.count_eq_zero.mpr fun m => by have := bagL_ge hn _ _ _ _ (Nat.le_refl _) m; lia
      rw [this]; simp
    | succ i =>
      rw [show s + (i + 1) = s + 1 + i by lia, bagL_count N (x / 2 ^ n) (s + 1) i hd, Nat.div_div_eq_div_mul, ← Nat.pow_add, show n + n * i = n * (i + 1) by rw [Nat.mul_succ]; lia]
      simp; lia
theorem bag_count (x i : Nat) : (bag n x).count i = x / 2 ^ (n * i) % 2 ^ n := by
  have := bagL_count hn x x 0 i (Nat.le_refl _)
  rwa [Nat.zero_add] at this
theorem bagL_row : ∀ (k x s : Nat), x < 2 ^ (n * k) → (bagL n x s).reverse = (List.range k).flatMap fun i => List.replicate (x / 2 ^ (n * i) % 2 ^ n) (s + i)
  | 0, x, s, h => by
    have : x = 0 := by simpa using h
    subst this; simp [bagL_zero]
  | k + 1, x, s, h => by
    have e1 : 2 ^ (n * (k + 1)) = 2 ^ n * 2 ^ (n * k) := by rw [Nat.mul_succ, Nat.pow_add, Nat.mul_comm]
    rw [bagL_rec hn x s, List.reverse_append, List.reverse_replicate, bagL_row k (x / 2 ^ n) (s + 1) (by rw [Nat.div_lt_iff_lt_mul (Nat.two_pow_pos n), Nat.mul_comm, ← e1]; exact h), List.range_succ_eq_map, List.flatMap_cons, List.flatMap_map]
    simp only [Nat.mul_zero, Nat.pow_zero, Nat.div_one, Nat.add_zero]
    congr 1
    have key : ∀ (l : List Nat) (f g : Nat → List Nat), (∀ i, f i = g i) → l.flatMap f = l.flatMap g := fun l f g e => by rw [funext e]
    refine key _ _ _ fun i => ?_
    rw [Nat.div_div_eq_div_mul, ← Nat.pow_add, show n + n * i = n * (i + 1) by rw [Nat.mul_succ]; lia, show s + 1 + i = s + (i + 1) by lia]
theorem bag_row {k x : Nat} (h : x < 2 ^ (n * k)) : (bag n x).reverse = (List.range k).flatMap fun i => List.replicate (x / 2 ^ (n * i) % 2 ^ n) i := by
  have := bagL_row hn k x 0 h
  simpa using this
theorem dval_digits (x : Nat) : ∀ (k L : Nat), dval n (fun i => x / 2 ^ (n * i) % 2 ^ n) L k = x / 2 ^ (n * L) % 2 ^ (n * k)
  | 0, L => by simp [dval, Nat.mod_one]
  | k + 1, L => by
    have e1 : 2 ^ (n * (k + 1)) = 2 ^ n * 2 ^ (n * k) := by rw [Nat.mul_succ, Nat.pow_add, Nat.mul_comm]
    rw [dval, dval_digits x k (L + 1), e1, Nat.mod_mul, Nat.div_div_eq_div_mul, ← Nat.pow_add, show n * L + n = n * (L + 1) by rw [Nat.mul_succ]]
end
end
end

section -- N4
open PySem PyProof.Rows
set_option linter.unusedVariables false
noncomputable section

/-! words -/
noncomputable def wdF (n : Nat) : Nat → Nat → List Nat
  | 0, _ => []
  | k + 1, x => 49 :: (bag n x).flatMap (wdF n k) ++ [48]
noncomputable def wd (n x : Nat) : List Nat := wdF n (x + 1) x
theorem fm_congr {l : List Nat} {f g : Nat → List Nat} (h : ∀ x ∈ l, f x = g x) : l.flatMap f = l.flatMap g := by
  induction l with
  | nil => rfl
  | cons a r ih => rw [List.flatMap_cons, List.flatMap_cons, h a (.head _), ih fun x hx => h x (.tail _ hx)]
section
variable {n : Nat} (hn : 1 ≤ n)
include hn
theorem wdF_fuel : ∀ (k x : Nat), x < k → wdF n k x = wd n x := by
  have key : ∀ (N x k j : Nat), x ≤ N → x < k → x < j → wdF n k x = wdF n j x := by
    intro N
    induction N with
    | zero =>
      intro x k j h hk hj
      have : x = 0 := by lia
      subst this
      cases k with
      | zero => lia
      | succ k => cases j with
        | zero => lia
        | succ j => unfold wdF; rw [(bag_nil hn).mpr rfl]; rfl
    | succ N ih =>
      intro x k j h hk hj
      cases k with
      | zero => lia
      | succ k => cases j with
        | zero => lia
        | succ j =>
          unfold wdF
          rw [fm_congr fun p hp => ih p k j (by have := bag_lt hn hp; lia) (by have := bag_lt hn hp; lia) (by have := bag_lt hn hp; lia)]
  exact fun k x h => key x x k (x + 1) (Nat.le_refl _) h (Nat.lt_succ_self _)
theorem wd_rec (x : Nat) : wd n x = 49 :: (bag n x).flatMap (wd n) ++ [48] := by
  show wdF n (x + 1) x = _
  unfold wdF
  rw [fm_congr fun p hp => wdF_fuel hn x p (bag_lt hn hp)]
theorem bal_flat {W : Nat → List Nat} {l : List Nat} (h : ∀ p ∈ l, bal (W p) = 0) : bal (l.flatMap W) = 0 := by
  induction l with
  | nil => rfl
  | cons a r ih => rw [List.flatMap_cons, bal_app, h a (.head _), ih fun p hp => h p (.tail _ hp)]; rfl
theorem pre_flat {W : Nat → List Nat} : ∀ {l : List Nat}, (∀ p ∈ l, Prim (W p)) → ∀ v r, l.flatMap W = v ++ r → 0 ≤ bal v
  | [], _, v, r, e => by
    have : v = [] := by cases v with
      | nil => rfl
      | cons a b => simp at e
    subst this; exact Int.le_refl 0
  | a :: l, h, v, r, e => by
    rw [List.flatMap_cons] at e
    have ha := h a (.head _)
    rcases List.append_eq_append_iff.mp e with ⟨m, e1, e2⟩ | ⟨m, e1, e2⟩
    · rw [e1, bal_app, ha.tot]
      have := pre_flat (fun p hp => h p (.tail _ hp)) m r e2
      lia
    · by_cases hv : v = []
      · subst hv; exact Int.le_refl 0
      · by_cases hm : m = []
        · subst hm
          rw [List.append_nil] at e1
          rw [← e1, ha.tot]; exact Int.le_refl 0
        · exact Int.le_of_lt (ha.pos v m e1 hv hm)
theorem wd_prim : ∀ (N x : Nat), x ≤ N → Prim (wd n x) := by
  intro N
  induction N using Nat.strongRecOn with
  | ind N ih =>
    intro x hx
    have hP : ∀ p ∈ bag n x, Prim (wd n p) := fun p hp => by
      have := bag_lt hn hp
      exact ih p (by lia) p (Nat.le_refl _)
    rw [wd_rec hn]
    refine ⟨by simp, ?_, ?_, ?_⟩
    · rw [bal_app]
      show (if (49 : Nat) = 49 then (1 : Int) else -1) + bal ((bag n x).flatMap (wd n)) + bal [48] = 0
      rw [bal_flat hn fun p hp => (hP p hp).tot]; decide
    · intro v r e hv hr
      cases v with
      | nil => exact absurd rfl hv
      | cons c v =>
        rw [List.cons_append, List.cons_append] at e
        injection e with e1 e2
        subst e1
        obtain ⟨r', c', rfl⟩ : ∃ r' c', r = r' ++ [c'] := by
          rcases List.eq_nil_or_concat r with rfl | ⟨a, b, e⟩
          · exact absurd rfl hr
          · exact ⟨a, b, by simpa using e⟩
        rw [← List.append_assoc] at e2
        have e3 := List.append_inj_left' e2 rfl
        have := pre_flat hn hP v r' e3
        show 0 < (if (49 : Nat) = 49 then (1 : Int) else -1) + bal v
        simp; lia
    · intro c hc
      rcases List.mem_append.mp hc with hc | hc
      · rcases List.mem_cons.mp hc with rfl | hc
        · decide
        · obtain ⟨p, hp, hc⟩ := List.mem_flatMap.mp hc
          exact (hP p hp).asc c hc
      · rw [List.mem_singleton.mp hc]; decide
/-- words in the order of their numbers -/
noncomputable def Dif (u v : List Nat) : Prop := ∃ c r r', u = c ++ 48 :: r ∧ v = c ++ 49 :: r'
omit hn in
theorem Dif.lt {u v : List Nat} (h : Dif u v) : u < v := by
  obtain ⟨c, r, r', rfl, rfl⟩ := h
  induction c with
  | nil => exact List.cons_lt_cons_iff.mpr (.inl (by decide))
  | cons a c ih => exact List.cons_lt_cons_iff.mpr (.inr ⟨rfl, ih⟩)
theorem wd_dif : ∀ (N x y : Nat), y ≤ N → x < y → Dif (wd n x) (wd n y) := by
  intro N
  induction N using Nat.strongRecOn with
  | ind N ih =>
    intro x y hy hxy
    obtain ⟨q, bx, by', e1, e2, e3⟩ := bag_lex hn y x y (Nat.le_refl _) hxy
    have ex := wd_rec hn x
    have ey := wd_rec hn y
    rw [e1, List.flatMap_append] at ex
    rw [e2, List.flatMap_append] at ey
    rcases e3 with ⟨rfl, h2⟩ | ⟨a, b, r, r', rfl, rfl, hl⟩
    · obtain ⟨b, s, rfl⟩ := List.exists_cons_of_ne_nil h2
      rw [List.flatMap_cons, wd_rec hn b] at ey
      exact ⟨49 :: q.flatMap (wd n), [], (bag n b).flatMap (wd n) ++ 48 :: (s.flatMap (wd n) ++ [48]), by rw [ex]; simp, by rw [ey]; simp⟩
    · have hb : b ∈ bag n y := by rw [e2]; simp
      have := bag_lt hn hb
      obtain ⟨c, s, s', d1, d2⟩ := ih b (by lia) a b (Nat.le_refl _) hl
      rw [List.flatMap_cons, d1] at ex
      rw [List.flatMap_cons, d2] at ey
      exact ⟨49 :: q.flatMap (wd n) ++ c, s ++ (r.flatMap (wd n) ++ [48]), s' ++ (r'.flatMap (wd n) ++ [48]), by rw [ex]; simp, by rw [ey]; simp⟩
theorem wd_lt {x y : Nat} (h : x < y) : wd n x < wd n y := (wd_dif hn y x y (Nat.le_refl _) h).lt
theorem wd_inj {x y : Nat} (h : wd n x = wd n y) : x = y := by
  rcases Nat.lt_trichotomy x y with c | c | c
  · have := wd_lt hn c; rw [h] at this; exact absurd this (List.lt_irrefl _)
  · exact c
  · have := wd_lt hn c; rw [h] at this; exact absurd this (List.lt_irrefl _)
omit hn in
theorem flat_len {W : Nat → List Nat} {M : Nat} : ∀ {l : List Nat}, (∀ p ∈ l, (W p).length ≤ M) → (l.flatMap W).length ≤ l.length * M
  | [], _ => by simp
  | a :: l, h => by
    have h1 := h a (.head _)
    have h2 := flat_len (W := W) (l := l) fun p hp => h p (.tail _ hp)
    rw [List.flatMap_cons, List.length_append, List.length_cons, Nat.succ_mul]; lia
theorem wd_len1 {x M k : Nat} (h : ∀ p ∈ bag n x, (wd n p).length ≤ M) (hk : (bag n x).length ≤ k) : (wd n x).length ≤ 2 + k * M := by
  have := flat_len h
  have := Nat.mul_le_mul_right M hk
  rw [wd_rec hn]; simp only [List.cons_append, List.length_cons, List.length_append, List.length_nil]; lia
theorem two_pow_mem {x p : Nat} (h : p ∈ bag n x) : 2 ^ p ≤ x :=
  Nat.le_trans (Nat.pow_le_pow_right (by decide) (Nat.le_mul_of_pos_left p (by lia))) (bag_pow hn x x p (Nat.le_refl _) h)
theorem wd_len_1 {x : Nat} (h : x ≤ 1) : (wd n x).length ≤ 4 := by
  refine Nat.le_trans (wd_len1 hn (M := 2) (k := 1) (fun p hp => ?_) (Nat.le_trans (bag_len_le hn x x (Nat.le_refl _)) h)) (by decide)
  have := bag_lt hn hp
  have : p = 0 := by lia
  subst this
  rw [wd_rec hn, (bag_nil hn).mpr rfl]; simp
theorem wd_len_3 {x : Nat} (h : x ≤ 3) : (wd n x).length ≤ 14 := by
  refine Nat.le_trans (wd_len1 hn (M := 4) (k := 3) (fun p hp => wd_len_1 hn ?_) (Nat.le_trans (bag_len_le hn x x (Nat.le_refl _)) h)) (by decide)
  have h1 := two_pow_mem hn hp
  apply Nat.le_of_not_lt; intro h2
  have := Nat.pow_le_pow_right (show 0 < 2 by decide) h2
  simp at this; lia
theorem wd_len_11 {x : Nat} (h : x ≤ 11) : (wd n x).length ≤ 156 := by
  refine Nat.le_trans (wd_len1 hn (M := 14) (k := 11) (fun p hp => wd_len_3 hn ?_) (Nat.le_trans (bag_len_le hn x x (Nat.le_refl _)) h)) (by decide)
  have h1 := two_pow_mem hn hp
  apply Nat.le_of_not_lt; intro h2
  have := Nat.pow_le_pow_right (show 0 < 2 by decide) h2
  simp at this; lia
theorem wd_len_D {x : Nat} (h : ∀ p ∈ bag n x, p < 12) (hk : (bag n x).length ≤ 11) : (wd n x).length ≤ 1718 ∧ ((bag n x).flatMap (wd n)).length ≤ 1716 := by
  have hm : ∀ p ∈ bag n x, (wd n p).length ≤ 156 := fun p hp => wd_len_11 hn (by have := h p hp; lia)
  have h2 := flat_len hm
  have := Nat.mul_le_mul_right 156 hk
  exact ⟨wd_len1 hn hm hk, by lia⟩
omit hn in
theorem bump_get (ds : List Nat) (p i : Nat) : (bump ds p).getD i 0 = ds.getD i 0 + if i = p then 1 else 0 := by
  have hg : ∀ i, (grow ds p).getD i 0 = ds.getD i 0 := fun i => by
    unfold grow
    rw [List.getD_eq_getElem?_getD, List.getD_eq_getElem?_getD]
    by_cases h : i < ds.length
    · rw [List.getElem?_append_left h]
    · rw [List.getElem?_append_right (by lia), List.getElem?_replicate, List.getElem?_eq_none (show ds.length ≤ i by lia)]
      split <;> rfl
  have hl := grow_len ds p
  unfold bump
  rw [List.getD_eq_getElem?_getD, List.getElem?_modify]
  have hgi := hg i
  rw [List.getD_eq_getElem?_getD] at hgi
  by_cases e : p = i
  · subst e
    rw [List.getElem?_eq_getElem hl] at hgi ⊢
    simp at hgi ⊢
    lia
  · rw [if_neg (fun q => e q.symm)]
    simp only [e, if_false]
    cases q : (grow ds p)[i]? <;> rw [q] at hgi <;> simpa using hgi
omit hn in
theorem bump_ge (ds : List Nat) (p : Nat) : ds.length ≤ (bump ds p).length ∧ p < (bump ds p).length := by simp [bump, grow]; lia
omit hn in
theorem fold_bump : ∀ (ps ds : List Nat), ds.length ≤ (ps.foldl bump ds).length ∧ (∀ p ∈ ps, p < (ps.foldl bump ds).length) ∧ (∀ m, ds.length ≤ m → (∀ p ∈ ps, p < m) → (ps.foldl bump ds).length ≤ m) ∧
    ∀ i, (ps.foldl bump ds).getD i 0 = ds.getD i 0 + ps.count i
  | [], ds => ⟨Nat.le_refl _, (fun _ h => nomatch h), fun m h _ => h, fun i => by simp⟩
  | p :: ps, ds => by
    obtain ⟨h1, h2, h3, h4⟩ := fold_bump ps (bump ds p)
    have hb := bump_ge ds p
    refine ⟨Nat.le_trans hb.1 h1, fun q hq => ?_, fun m hm hp => h3 m (bump_len ds p m hm (hp p (.head _))) fun q hq => hp q (.tail _ hq), fun i => ?_⟩
    · rcases List.mem_cons.mp hq with rfl | hq
      · exact Nat.lt_of_lt_of_le hb.2 h1
      · exact h2 q hq
    · rw [List.foldl_cons, h4, bump_get, List.count_cons]
      by_cases e : p = i
      · subst e; simp; lia
      · have e' : ¬ i = p := fun q => e q.symm
        simp [e, e']
theorem dig_val (x : Nat) {m : Nat} (hm : ∀ p ∈ bag n x, p < m) : ((bag n x).foldl bump []).length ≤ m ∧
    (∀ i, i < ((bag n x).foldl bump []).length → ((bag n x).foldl bump [])[i]? = some (x / 2 ^ (n * i) % 2 ^ n)) ∧ dval n (fun i => x / 2 ^ (n * i) % 2 ^ n) 0 ((bag n x).foldl bump []).length = x := by
  obtain ⟨h1, h2, h3, h4⟩ := fold_bump (bag n x) []
  refine ⟨h3 m (Nat.zero_le _) hm, fun i hi => ?_, ?_⟩
  · have := h4 i
    rw [bag_count hn, List.getD_eq_getElem?_getD, List.getElem?_eq_getElem hi] at this
    rw [List.getElem?_eq_getElem hi]
    simpa using this
  · rw [dval_digits hn]
    have := (bag_all hn).mp h2
    simpa using Nat.mod_eq_of_lt this
end
end
end

section -- N5
open PySem PyProof.Rows
set_option linter.unusedVariables false
noncomputable section

/-! the order in which a sorter gives its nodes -/
theorem tk_mem {D : List Nat} (hD : D.Pairwise (· < ·)) {j x y : Nat} (hx : x ∈ D) (hy : y ∈ D.take j) (h : x ≤ y) : x ∈ D.take j := by
  have e := List.take_append_drop j D
  rw [← e] at hD hx
  rcases List.mem_append.mp hx with m | m
  · exact m
  · have := (List.pairwise_append.mp hD).2.2 y hy x m
    lia
theorem tk_lt {D : List Nat} (hD : D.Pairwise (· < ·)) {j x y : Nat} (hx : x ∈ D) (hy : y ∈ D.take (j + 1)) (h : x < y) : x ∈ D.take j := by
  have hx1 := tk_mem hD hx hy (Nat.le_of_lt h)
  rw [List.take_succ] at hx1 hy
  rcases List.mem_append.mp hx1 with m | m
  · exact m
  · rcases List.mem_append.mp hy with m2 | m2
    · exact tk_mem hD hx m2 (Nat.le_of_lt h)
    · cases q : D[j]? with
      | none => rw [q] at m; simp at m
      | some z => rw [q] at m m2; simp at m m2; lia
theorem nd_of {D : List Nat} (hD : D.Pairwise (· < ·)) : D.Nodup := hD.imp fun h => Nat.ne_of_lt h
theorem tk_pre {D : List Nat} (hD : D.Pairwise (· < ·)) {A : Nat → Bool} (hA : ∀ x ∈ D, ∀ y ∈ D, x < y → A y = true → A x = true) : D.filter A = D.take (D.filter A).length := by
  induction D with
  | nil => rfl
  | cons a r ih =>
    rw [List.pairwise_cons] at hD
    have ih := ih hD.2 fun x hx y hy => hA x (.tail _ hx) y (.tail _ hy)
    by_cases h : A a = true
    · rw [List.filter_cons_of_pos h, List.length_cons, List.take_succ_cons, ← ih]
    · have : r.filter A = [] := List.filter_eq_nil_iff.mpr fun y hy q => h (hA a (.head _) y (.tail _ hy) (hD.1 y hy) q)
      rw [List.filter_cons_of_neg h, this]; rfl
theorem tk_mid {D : List Nat} (hD : D.Nodup) {A B : Nat → Bool} {a b : Nat} (ha : D.take a = D.filter A) (hb : D.take b = D.filter B) (hab : a ≤ b) : (D.take b).drop a = D.filter fun x => B x && !A x := by
  have e1 : (D.filter fun x => B x && !A x) = (D.filter B).filter fun x => !A x := by
    rw [List.filter_filter]
    exact List.filter_congr fun x _ => by rw [Bool.and_comm]
  have e2 : D.take b = D.take a ++ (D.take b).drop a := by
    have := List.take_append_drop a (D.take b)
    rw [List.take_take, Nat.min_eq_left hab] at this
    exact this.symm
  have nd : (D.take b).Nodup := (List.take_sublist b D).nodup hD
  rw [e1, ← hb]
  rw [e2] at nd
  conv => rhs; rw [e2]
  rw [List.filter_append]
  have n1 : (D.take a).filter (fun x => !A x) = [] := List.filter_eq_nil_iff.mpr fun x hx => by
    rw [ha] at hx
    simp [(List.mem_filter.mp hx).2]
  have n2 : ((D.take b).drop a).filter (fun x => !A x) = (D.take b).drop a := List.filter_eq_self.mpr fun x hx => by
    have hxD : x ∈ D := List.mem_of_mem_take (List.mem_of_mem_drop hx)
    have hxa : x ∉ D.take a := fun q => (List.nodup_append.mp nd).2.2 x q x hx rfl
    rw [ha, List.mem_filter] at hxa
    have : ¬ A x = true := fun q => hxa ⟨hxD, q⟩
    simpa using this
  rw [n1, n2, List.nil_append]

noncomputable def cnt (n : Nat) (D : List Nat) (j x : Nat) : Nat := ((bag n x).filter fun p => decide (p ∉ D.take j)).length
noncomputable def en (n : Nat) (D : List Nat) (j : Nat) : Nat := (D.filter fun x => decide (cnt n D j x = 0)).length
section
variable {n : Nat} (hn : 1 ≤ n) {D : List Nat} (hD : D.Pairwise (· < ·)) (hcl : ∀ x ∈ D, ∀ p ∈ bag n x, p ∈ D)
theorem cnt_zero {j x : Nat} : cnt n D j x = 0 ↔ ∀ p ∈ bag n x, p ∈ D.take j := by
  unfold cnt
  rw [List.length_eq_zero_iff, List.filter_eq_nil_iff]
  exact ⟨fun h p hp => by simpa using h p hp, fun h p hp => by simpa using h p hp⟩
theorem en_le (j : Nat) : en n D j ≤ D.length := List.length_filter_le _ _
theorem cnt_first (x : Nat) : cnt n D 0 x = (bag n x).length := by
  unfold cnt
  rw [List.take_zero, List.filter_eq_self.mpr fun p _ => by simp]
theorem cnt_mono {i j : Nat} (h : i ≤ j) {x : Nat} (hz : cnt n D i x = 0) : cnt n D j x = 0 := by
  rw [cnt_zero] at hz ⊢
  exact fun p hp => (List.take_subset_take_left D h) (hz p hp)
theorem en_mono {i j : Nat} (h : i ≤ j) : en n D i ≤ en n D j := by
  unfold en
  rw [← List.countP_eq_length_filter, ← List.countP_eq_length_filter]
  exact List.countP_mono_left fun x _ hx => decide_eq_true (cnt_mono h (of_decide_eq_true hx))
include hD in
theorem cnt_succ {j z x : Nat} (hz : D[j]? = some z) : cnt n D j x = cnt n D (j + 1) x + (bag n x).count z := by
  have hzt : z ∉ D.take j := fun q => by
    have e := List.take_append_drop j D
    have nd := nd_of hD
    rw [← e] at nd
    refine (List.nodup_append.mp nd).2.2 z q z ?_ rfl
    have : (D.drop j)[0]? = some z := by rw [List.getElem?_drop]; simpa using hz
    exact List.mem_of_getElem? this
  unfold cnt
  rw [List.take_succ, hz]
  rw [show (some z).toList = [z] from rfl]
  generalize D.take j = T at hzt
  generalize bag n x = l
  induction l with
  | nil => rfl
  | cons p r ih =>
    rw [List.count_cons]
    by_cases e : p = z
    · subst e
      rw [List.filter_cons_of_pos (by simpa using hzt), List.filter_cons_of_neg (by simp), List.length_cons, ih]
      simp; lia
    · by_cases h : p ∈ T
      · rw [List.filter_cons_of_neg (by simpa using h), List.filter_cons_of_neg (by simp [h]), ih]
        simp [e]
      · rw [List.filter_cons_of_pos (by simpa using h), List.filter_cons_of_pos (by simp [h, e]), List.length_cons, List.length_cons, ih]
        simp [e]; lia
include hn hD hcl
theorem en_pre (j : Nat) : D.take (en n D j) = D.filter fun x => decide (cnt n D j x = 0) := by
  refine (tk_pre hD fun x hx y hy hxy h => ?_).symm
  have h := of_decide_eq_true h
  refine decide_eq_true (cnt_zero.mpr fun p hp => ?_)
  obtain ⟨b, b1, b2, b3⟩ := bag_top hn (show 0 < y by lia)
  have hb : b ∈ D.take j := cnt_zero.mp h b (by rw [b3]; exact .head _)
  have := (bag_all hn (c := b + 1)).mpr (show x < _ by lia) p hp
  exact tk_mem hD (hcl x hx p hp) hb (by lia)
theorem en_succ {j : Nat} (hj : j < D.length) : j + 1 ≤ en n D j := by
  have key : (D.take (j + 1)).filter (fun x => decide (cnt n D j x = 0)) = D.take (j + 1) := List.filter_eq_self.mpr fun x hx => by
    refine decide_eq_true (cnt_zero.mpr fun p hp => ?_)
    exact tk_lt hD (hcl x (List.mem_of_mem_take hx) p hp) hx (bag_lt hn hp)
  have : D.filter (fun x => decide (cnt n D j x = 0)) = (D.take (j + 1)).filter (fun x => decide (cnt n D j x = 0)) ++ (D.drop (j + 1)).filter (fun x => decide (cnt n D j x = 0)) := by
    rw [← List.filter_append, List.take_append_drop]
  unfold en
  rw [this, key, List.length_append, List.length_take]
  lia
theorem mid_en {i j : Nat} (h : i ≤ j) : (D.take (en n D j)).drop (en n D i) = D.filter fun x => decide (cnt n D j x = 0) && !decide (cnt n D i x = 0) :=
  tk_mid (nd_of hD) (en_pre hn hD hcl i) (en_pre hn hD hcl j) (en_mono h)
end

/-! what finishing does to the counts -/
theorem relax_rep (y : Nat) : ∀ (m : Nat) (np : Nat → Int) (rd : List Nat), (m : Int) ≤ np y → (List.replicate m y).foldl relax (np, rd) = (upd np y (np y - m), rd ++ if 0 < m ∧ np y = m then [y] else [])
  | 0, np, rd, h => by
    have : upd np y (np y - ((0 : Nat) : Int)) = np := by
      funext k; unfold upd; split
      · rename_i e; subst e; simp
      · rfl
    rw [this]; simp
  | m + 1, np, rd, h => by
    rw [List.replicate_succ, List.foldl_cons]
    show (List.replicate m y).foldl relax (upd np y (np y - 1), if np y - 1 = 0 then rd ++ [y] else rd) = _
    rw [relax_rep y m _ _ (by rw [upd_same]; lia), upd_same, upd_upd]
    refine Prod.ext ?_ ?_
    · show upd np y (np y - 1 - m) = upd np y (np y - (m + 1 : Nat))
      congr 1; push_cast; lia
    · show (if np y - 1 = 0 then rd ++ [y] else rd) ++ (if 0 < m ∧ np y - 1 = m then [y] else []) = rd ++ if 0 < m + 1 ∧ np y = (m + 1 : Nat) then [y] else []
      by_cases hm : m = 0
      · subst hm
        by_cases hy : np y = 1
        · simp [hy]
        · have : ¬ np y - 1 = 0 := by lia
          simp [this, hy]
      · have h1 : ¬ np y - 1 = 0 := by lia
        rw [if_neg h1]
        by_cases hy : np y = (m + 1 : Nat)
        · rw [if_pos ⟨by lia, by lia⟩, if_pos ⟨by lia, hy⟩]
        · rw [if_neg (fun q => hy (by have := q.2; push_cast; lia)), if_neg (fun q => hy q.2)]
theorem relax_all (m : Nat → Nat) : ∀ (D : List Nat) (np : Nat → Int) (rd : List Nat), D.Nodup → (∀ y ∈ D, m y = 0 ∨ (m y : Int) ≤ np y) →
    (∀ x, ((D.flatMap fun y => List.replicate (m y) y).foldl relax (np, rd)).1 x = if x ∈ D then np x - m x else np x) ∧
    ((D.flatMap fun y => List.replicate (m y) y).foldl relax (np, rd)).2 = rd ++ D.filter fun y => decide (0 < m y ∧ np y = m y)
  | [], np, rd, _, _ => by simp
  | a :: r, np, rd, nd, h => by
    rw [List.nodup_cons] at nd
    rw [List.flatMap_cons, List.foldl_append]
    have ha := h a (.head _)
    have e1 : (List.replicate (m a) a).foldl relax (np, rd) = (upd np a (np a - m a), rd ++ if 0 < m a ∧ np a = m a then [a] else []) := by
      rcases ha with ha | ha
      · rw [ha]
        have : upd np a (np a - ((0 : Nat) : Int)) = np := by
          funext k; unfold upd; split
          · rename_i e; subst e; simp
          · rfl
        rw [this]; simp
      · exact relax_rep a _ np rd ha
    have ne : ∀ y ∈ r, y ≠ a := fun y hy e => nd.1 (e ▸ hy)
    obtain ⟨i1, i2⟩ := relax_all m r (upd np a (np a - m a)) (rd ++ if 0 < m a ∧ np a = m a then [a] else []) nd.2 fun y hy => by
      rw [upd_ne _ _ (ne y hy)]; exact h y (.tail _ hy)
    rw [e1]
    refine ⟨fun x => ?_, ?_⟩
    · rw [i1]
      by_cases e : x = a
      · subst e
        rw [if_neg nd.1, upd_same, if_pos (.head _)]
      · rw [upd_ne _ _ e]
        have : (x ∈ a :: r) ↔ x ∈ r := by simp [e]
        by_cases hx : x ∈ r
        · rw [if_pos hx, if_pos (this.mpr hx)]
        · rw [if_neg hx, if_neg (fun q => hx (this.mp q))]
    · rw [i2, List.filter_cons, List.append_assoc]
      congr 1
      have : (r.filter fun y => decide (0 < m y ∧ upd np a (np a - m a) y = m y)) = r.filter fun y => decide (0 < m y ∧ np y = m y) := List.filter_congr fun y hy => by rw [upd_ne _ _ (ne y hy)]
      rw [this]
      by_cases c : 0 < m a ∧ np a = m a
      · rw [if_pos c, if_pos (decide_eq_true c)]; rfl
      · rw [if_neg c, if_neg (by simpa using c)]; rfl
noncomputable def slD (n : Nat) (D : List Nat) (p : Nat) : List Nat := D.flatMap fun y => List.replicate ((bag n y).count p) y
section
variable {n : Nat} (hn : 1 ≤ n) {D : List Nat} (hD : D.Pairwise (· < ·)) (hcl : ∀ x ∈ D, ∀ p ∈ bag n x, p ∈ D)
theorem slD_mem {p q : Nat} : q ∈ slD n D p ↔ q ∈ D ∧ p ∈ bag n q := by
  unfold slD
  rw [List.mem_flatMap]
  constructor
  · rintro ⟨y, hy, h⟩
    obtain ⟨h1, rfl⟩ := List.mem_replicate.mp h
    exact ⟨hy, List.count_pos_iff.mp (by lia)⟩
  · rintro ⟨h1, h2⟩
    exact ⟨q, h1, List.mem_replicate.mpr ⟨by have := List.count_pos_iff.mpr h2; lia, rfl⟩⟩
include hn hD hcl
/-- one node finished -/
theorem fin_step {i b z : Nat} {np : Nat → Int} {rd : List Nat} (hz : D[i]? = some z) (hib : i < b) (hb : b ≤ en n D i) (hnp : ∀ y ∈ D, y ∉ D.take b → np y = cnt n D i y) :
    (∀ y ∈ D, y ∉ D.take b → (fin1 (slD n D) (np, rd) z).1 y = cnt n D (i + 1) y) ∧ (fin1 (slD n D) (np, rd) z).2 = rd ++ (D.take (en n D (i + 1))).drop (en n D i) := by
  have nd := nd_of hD
  have hzb : z ∈ D.take b := by
    have : (D.take b)[i]? = some z := by rw [List.getElem?_take, if_pos hib]; exact hz
    exact List.mem_of_getElem? this
  have hcount : ∀ y, cnt n D i y = cnt n D (i + 1) y + (bag n y).count z := fun y => cnt_succ hD hz
  have hpos : ∀ y ∈ D, 0 < (bag n y).count z → y ∉ D.take b := fun y hy h q => by
    have h1 : y ∈ D.take (en n D i) := (List.take_subset_take_left D hb) q
    rw [en_pre hn hD hcl i, List.mem_filter] at h1
    have := of_decide_eq_true h1.2
    have := hcount y
    lia
  have hne : ∀ y ∈ D, y ∉ D.take b → y ≠ z := fun y _ q e => q (e ▸ hzb)
  unfold fin1
  obtain ⟨r1, r2⟩ := relax_all (fun y => (bag n y).count z) D (upd np z (-2)) rd nd fun y hy => by
    by_cases h0 : (bag n y).count z = 0
    · exact .inl h0
    · right
      have hy2 := hpos y hy (by lia)
      rw [upd_ne _ _ (hne y hy hy2), hnp y hy hy2]
      have := hcount y
      lia
  refine ⟨fun y hy hyb => ?_, ?_⟩
  · show ((D.flatMap _).foldl relax (upd np z (-2), rd)).1 y = _
    rw [r1, if_pos hy, upd_ne _ _ (hne y hy hyb), hnp y hy hyb]
    have := hcount y
    lia
  · show ((D.flatMap _).foldl relax (upd np z (-2), rd)).2 = _
    rw [r2, mid_en hn hD hcl (Nat.le_succ i)]
    congr 1
    refine List.filter_congr fun y hy => ?_
    have hc := hcount y
    by_cases h0 : (bag n y).count z = 0
    · rw [decide_eq_false (fun q => by have := q.1; lia)]
      by_cases h1 : cnt n D (i + 1) y = 0
      · simp [h1, show cnt n D i y = 0 by lia]
      · simp [h1]
    · have hy2 := hpos y hy (by lia)
      rw [upd_ne _ _ (hne y hy hy2), hnp y hy hy2]
      have h3 : ¬ cnt n D i y = 0 := by lia
      by_cases h1 : cnt n D (i + 1) y = 0
      · rw [decide_eq_true (show 0 < (bag n y).count z ∧ (cnt n D i y : Int) = ((bag n y).count z : Nat) from ⟨by lia, by lia⟩)]
        simp [h1, h3]
      · rw [decide_eq_false (fun q => by have := q.2; lia)]
        simp [h1]
/-- a round finished -/
theorem done_run {p : Nat} {np : Nat → Int} (hp : p ≤ D.length) (hnp : ∀ y ∈ D, y ∉ D.take (en n D p) → np y = cnt n D p y) (hpe : p ≤ en n D p) :
    (∀ y ∈ D, y ∉ D.take (en n D p) → (doneS (slD n D) (np, []) ((D.take (en n D p)).drop p)).1 y = cnt n D (en n D p) y) ∧
      (doneS (slD n D) (np, []) ((D.take (en n D p)).drop p)).2 = (D.take (en n D (en n D p))).drop (en n D p) := by
  have hel : en n D p ≤ D.length := en_le p
  have key : ∀ k, p + k ≤ en n D p → (∀ y ∈ D, y ∉ D.take (en n D p) → (doneS (slD n D) (np, []) ((D.take (p + k)).drop p)).1 y = cnt n D (p + k) y) ∧
      (doneS (slD n D) (np, []) ((D.take (p + k)).drop p)).2 = (D.take (en n D (p + k))).drop (en n D p) := by
    intro k
    induction k with
    | zero =>
      intro _
      have : (D.take (p + 0)).drop p = [] := by rw [List.drop_eq_nil_iff, List.length_take]; lia
      rw [this]
      refine ⟨hnp, ?_⟩
      show [] = _
      rw [eq_comm, List.drop_eq_nil_iff, List.length_take, Nat.add_zero]; lia
    | succ k ih =>
      intro hk
      obtain ⟨i1, i2⟩ := ih (by lia)
      obtain ⟨z, hz⟩ : ∃ z, D[p + k]? = some z := ⟨_, List.getElem?_eq_getElem (show p + k < D.length by lia)⟩
      have e : (D.take (p + (k + 1))).drop p = (D.take (p + k)).drop p ++ [z] := by
        rw [show p + (k + 1) = p + k + 1 by lia, List.take_succ, hz, List.drop_append_of_le_length (by rw [List.length_take]; lia)]; rfl
      rw [e, doneS_snoc]
      obtain ⟨f1, f2⟩ := fin_step hn hD hcl (i := p + k) (b := en n D p) (z := z) (np := (doneS (slD n D) (np, []) ((D.take (p + k)).drop p)).1) (rd := (doneS (slD n D) (np, []) ((D.take (p + k)).drop p)).2)
        hz (by lia) (en_mono (by lia)) i1
      refine ⟨f1, ?_⟩
      rw [show ((doneS (slD n D) (np, []) ((D.take (p + k)).drop p)).1, (doneS (slD n D) (np, []) ((D.take (p + k)).drop p)).2) = doneS (slD n D) (np, []) ((D.take (p + k)).drop p) from rfl] at f2
      rw [f2, i2]
      have h1 : en n D p ≤ en n D (p + k) := en_mono (by lia)
      have h2 : en n D (p + k) ≤ en n D (p + (k + 1)) := en_mono (by lia)
      have h3 : en n D (p + (k + 1)) ≤ D.length := en_le _
      have e2 : D.take (en n D (p + (k + 1))) = D.take (en n D (p + k)) ++ (D.take (en n D (p + (k + 1)))).drop (en n D (p + k)) := by
        have := List.take_append_drop (en n D (p + k)) (D.take (en n D (p + (k + 1))))
        rw [List.take_take, Nat.min_eq_left h2] at this
        exact this.symm
      conv => rhs; rw [e2]
      rw [List.drop_append_of_le_length (by rw [List.length_take]; lia)]
      rfl
  have := key (en n D p - p) (by lia)
  rwa [show p + (en n D p - p) = en n D p by lia] at this
end

/-! depths -/
noncomputable def dpF (n : Nat) : Nat → Nat → Nat
  | 0, _ => 0
  | k + 1, x => (bag n x).foldl (fun a p => max a (dpF n k p + 1)) 0
noncomputable def dp (n x : Nat) : Nat := dpF n (x + 1) x
theorem foldl_max_le (f : Nat → Nat) : ∀ (l : List Nat) (a k : Nat), l.foldl (fun a p => max a (f p + 1)) a ≤ k ↔ a ≤ k ∧ ∀ p ∈ l, f p < k
  | [], a, k => by simp
  | p :: l, a, k => by
    rw [List.foldl_cons, foldl_max_le f l]
    constructor
    · rintro ⟨h1, h2⟩
      refine ⟨by lia, fun q hq => ?_⟩
      rcases List.mem_cons.mp hq with rfl | hq
      · lia
      · exact h2 q hq
    · rintro ⟨h1, h2⟩
      have := h2 p (.head _)
      exact ⟨by lia, fun q hq => h2 q (.tail _ hq)⟩
theorem dp_le {n : Nat} (hn : 1 ≤ n) {x k : Nat} : dp n x ≤ k ↔ ∀ p ∈ bag n x, dp n p < k := by
  have key : ∀ (N x k j : Nat), x ≤ N → x < k → x < j → dpF n k x = dpF n j x := by
    intro N
    induction N with
    | zero =>
      intro x k j h hk hj
      have : x = 0 := by lia
      subst this
      cases k with
      | zero => lia
      | succ k => cases j with
        | zero => lia
        | succ j => unfold dpF; rw [(bag_nil hn).mpr rfl]; rfl
    | succ N ih =>
      intro x k j h hk hj
      cases k with
      | zero => lia
      | succ k => cases j with
        | zero => lia
        | succ j =>
          unfold dpF
          have : ∀ (l : List Nat) (a : Nat), (∀ p ∈ l, dpF n k p = dpF n j p) → l.foldl (fun a p => max a (dpF n k p + 1)) a = l.foldl (fun a p => max a (dpF n j p + 1)) a := by
            intro l
            induction l with
            | nil => intro a _; rfl
            | cons b r ihr => intro a h; rw [List.foldl_cons, List.foldl_cons, h b (.head _), ihr _ fun p hp => h p (.tail _ hp)]
          exact this _ _ fun p hp => ih p k j (by have := bag_lt hn hp; lia) (by have := bag_lt hn hp; lia) (by have := bag_lt hn hp; lia)
  show dpF n (x + 1) x ≤ k ↔ _
  unfold dpF
  rw [foldl_max_le]
  constructor
  · rintro ⟨_, h⟩ p hp
    have := h p hp
    rwa [key p p x (p + 1) (Nat.le_refl _) (bag_lt hn hp) (Nat.lt_succ_self _)] at this
  · intro h
    refine ⟨Nat.zero_le _, fun p hp => ?_⟩
    have := h p hp
    rwa [key p p x (p + 1) (Nat.le_refl _) (bag_lt hn hp) (Nat.lt_succ_self _)]
/-- where the k-th round begins -/
noncomputable def rb (n : Nat) (D : List Nat) : Nat → Nat
  | 0 => 0
  | k + 1 => en n D (rb n D k)
section
variable {n : Nat} (hn : 1 ≤ n) {D : List Nat} (hD : D.Pairwise (· < ·)) (hcl : ∀ x ∈ D, ∀ p ∈ bag n x, p ∈ D)
include hn hD hcl
theorem rb_take : ∀ k, D.take (rb n D k) = D.filter fun x => decide (dp n x < k)
  | 0 => by
    show D.take 0 = _
    rw [List.take_zero, eq_comm, List.filter_eq_nil_iff]
    intro x _; simp
  | k + 1 => by
    show D.take (en n D (rb n D k)) = _
    rw [en_pre hn hD hcl]
    refine List.filter_congr fun x hx => decide_eq_decide.mpr ?_
    rw [cnt_zero, Nat.lt_succ_iff, dp_le hn]
    constructor
    · intro h p hp
      have := h p hp
      rw [rb_take k, List.mem_filter] at this
      exact of_decide_eq_true this.2
    · intro h p hp
      rw [rb_take k, List.mem_filter]
      exact ⟨hcl x hx p hp, decide_eq_true (h p hp)⟩
theorem rb_mono (k : Nat) (h : rb n D k ≤ D.length) : rb n D k ≤ rb n D (k + 1) := by
  show rb n D k ≤ en n D (rb n D k)
  rcases Nat.lt_or_ge (rb n D k) D.length with c | c
  · have := en_succ hn hD hcl c; lia
  · have e : rb n D k = D.length := by lia
    have : D.take (en n D (rb n D k)) = D := by
      rw [en_pre hn hD hcl, List.filter_eq_self]
      intro x hx
      refine decide_eq_true (cnt_zero.mpr fun p hp => ?_)
      rw [e, List.take_length]; exact hcl x hx p hp
    have := congrArg List.length this
    rw [List.length_take] at this
    lia
theorem rb_le : ∀ k, rb n D k ≤ D.length
  | 0 => Nat.zero_le _
  | k + 1 => en_le _
theorem rb_round (k : Nat) : (D.take (rb n D (k + 1))).drop (rb n D k) = D.filter fun x => decide (dp n x = k) := by
  rw [tk_mid (nd_of hD) (rb_take hn hD hcl k) (rb_take hn hD hcl (k + 1)) (rb_mono hn hD hcl k (rb_le hn hD hcl k))]
  refine List.filter_congr fun x _ => ?_
  by_cases h : dp n x = k
  · simp [h]
  · rw [decide_eq_false h]
    by_cases h2 : dp n x < k
    · simp [h2]
    · simp; lia
end
end
end

section -- L2
open PySem PySem.Calls PySem.W PyProof.Rows PySem.Builtin
set_option Elab.async false
set_option maxRecDepth 100000
set_option linter.unusedVariables false
noncomputable section



theorem updL_new {x : Str} {v : Value} : ∀ {vals : List (Str × Value)}, (∀ p ∈ vals, p.1 ≠ x) → UpdL x v vals (vals ++ [(x, v)])
  | [], _ => .nil
  | p :: r, h => .skip (h p (.head _)) (updL_new fun q hq => h q (.tail _ hq))
theorem updL_old {x : Str} {v u : Value} : ∀ {vals : List (Str × Value)}, (∀ p ∈ vals, p.1 ≠ x) → UpdL x v (vals ++ [(x, u)]) (vals ++ [(x, v)])
  | [], _ => .hit
  | p :: r, h => .skip (h p (.head _)) (updL_old fun q hq => h q (.tail _ hq))
section
variable {prog : Program} {w : World} {A : Around} {P : Params} {h₀ : Heap} {s₁ s : Shared} {cenv : Env} {vals : List (Str × Value)} {rs : List Rg} {l : Addr} {xs : List Value}
/-- a comprehension over a list, without tests -/
theorem loop_list {x : Str} {px : Pos} {elt : Expr} {I D : Addr} {gs : List (Str × Value)} (R : Nat → Value → Prop) (hh : A.handled = none) (F : Fm h₀ NoX s₁ cenv vals (listR D [] :: liR I l 0 :: rs) s) (S : Sc h₀ cenv [x] gs) (hm : listR l xs ∈ rs)
    (hI : s₁.heap.get? I = none) (hD : s₁.heap.get? D = none) (hIl : I ≠ l) (hv : ∀ p ∈ vals, p.1 ≠ x) (hz : xs.length ≤ 2 ^ 19)
    (step : ∀ i v ys s' (Q : Value → Shared → Prop), xs[i]? = some v → Fm h₀ NoX s₁ cenv (vals ++ [(x, v)]) (listR D ys :: liR I l (i + 1) :: rs) s' →
      (∀ y s'', R i y → Fm h₀ NoX s₁ cenv (vals ++ [(x, v)]) (listR D ys :: liR I l (i + 1) :: rs) s'' → Q y s'') → wpAny (model prog w) A (eval elt cenv) Q NoE s') :
    CompLoop prog w A h₀ s₁ rs elt x px [] cenv I D (fun new => s₁.heap.get? D = none ∧ ∃ ys, new = [listR D ys] ∧ ys.length = xs.length ∧ ∀ i y, ys[i]? = some y → R i y) s := by
  refine ⟨fun n s' => E3 fun (i : Nat) (ys : List Value) (loc' : List (Str × Value)) => i + n = xs.length ∧ (loc' = vals ∨ ∃ v, loc' = vals ++ [(x, v)]) ∧ ys.length = i ∧ (∀ j y, ys[j]? = some y → R j y) ∧
    Fm h₀ NoX s₁ cenv loc' (listR D ys :: liR I l i :: rs) s', xs.length, ⟨0, [], vals, by lia, .inl rfl, rfl, (fun _ _ h => by simp at h), F⟩, ?_⟩
  intro n s7
  (repeat (first | (with_reducible refine WithL.in fun _ _ _ _ => ?_) | (with_reducible refine WithE.in fun _ _ _ => ?_)))
  rintro ⟨i, ys, loc', hin, hl', hys, hR, F7⟩
  have hm' : listR l xs ∈ listR D ys :: liR I l i :: rs := .tail _ (.tail _ hm)
  by_cases hn : n = 0
  · have hi : i = xs.length := by lia
    subst hi
    refine nd_list hh F7 hm' hIl (.skip .hit) hI ?_; intro s8 F8
    exact ⟨[listR D ys], loc', F8, fun r hr a f => by rw [List.mem_singleton.mp hr] at f; rw [show a = D from f]; exact hD, hD, ys, rfl, hys, hR⟩
  · refine nx_list hh F7 hm' hIl (i := i) (by lia) (.skip .hit) hI ?_; intro v s8 hv8 F8
    refine as_name (st_loc (loc' := vals ++ [(x, v)]) F8 S (by simp) (by rcases hl' with rfl | ⟨u, rfl⟩; exact updL_new hv; exact updL_old hv) ?_); intro s9 F9
    refine wpAny_tests_nil ?_
    rw [if_pos rfl]
    refine step i v ys s9 _ hv8 F9 ?_
    intro y s10 hy F10
    refine app_list F10 .hit (.inr hD) (by lia) ?_; intro s11 F11
    refine ⟨xs.length - (i + 1), by lia, i + 1, ys ++ [y], _, by lia, .inr ⟨v, rfl⟩, by simp [hys], fun j z hz => ?_, F11⟩
    by_cases hj : j < i
    · rw [List.getElem?_append_left (by lia)] at hz; exact hR j z hz
    · rw [List.getElem?_append_right (by lia), hys] at hz
      have : j - i = 0 := by
        rcases Nat.eq_zero_or_pos (j - i) with q | q
        · exact q
        · rw [List.getElem?_eq_none (by simp; lia)] at hz; cases hz
      rw [this] at hz
      have hji : j = i := by lia
      subst hji
      simp at hz; subst hz; exact hy
end
/-- what the law's numbers are -/
structure Dt (n : Nat) (S D : List Nat) : Prop where
  n1 : 1 ≤ n
  n3 : n ≤ 3
  S3 : S.length = 3
  dr : ∀ x ∈ S, Dr n x
  rise : D.Pairwise (· < ·)
  mem : ∀ x, x ∈ D ↔ Clos n S x
section
variable {n : Nat} {S D : List Nat} (d : Dt n S D)
include d
theorem Dt.cl : ∀ x ∈ D, ∀ p ∈ bag n x, p ∈ D := fun x hx p hp => (d.mem p).mpr (.step ((d.mem x).mp hx) hp)
theorem Dt.nd : D.Nodup := nd_of d.rise
theorem Dt.inU {x : Nat} (h : x ∈ D) : x ∈ S ++ List.range 12 := clos_in d.n1 d.dr ((d.mem x).mp h)
theorem Dt.len : D.length ≤ 15 := by
  have := sub_len d.nd (U := S ++ List.range 12) fun x hx => d.inU hx
  simpa [d.S3] using this
theorem Dt.bagLen {x : Nat} (h : x ∈ D) : (bag n x).length ≤ 11 := clos_len d.n1 d.dr x (d.inU h)
theorem Dt.small {x p : Nat} (h : x ∈ D) (hp : p ∈ bag n x) : p < 12 := by
  rcases List.mem_append.mp (d.inU h) with m | m
  · exact dr_mem d.n1 (d.dr _ m) hp
  · have := bag_lt d.n1 hp
    have := List.mem_range.mp m
    lia
theorem Dt.bound {x : Nat} (h : x ∈ D) : x < 2 ^ 36 := (bag_all d.n1 (c := 12)).mp (fun p hp => d.small h hp) |> fun q => Nat.lt_of_lt_of_le q (Nat.pow_le_pow_right (by decide) (by have := d.n3; lia))
theorem Dt.sub {x : Nat} (h : x ∈ S) : x ∈ D := (d.mem x).mpr (.base h)
theorem Dt.ne : D ≠ [] := fun e => by
  have h3 := d.S3
  cases S with
  | nil => simp at h3
  | cons a r => have := d.sub (x := a) (.head _); rw [e] at this; cases this
end
end
end

section -- L3
open PySem PySem.Calls PySem.W PyProof.Rows
set_option Elab.async false
set_option maxRecDepth 100000
set_option linter.unusedVariables false
noncomputable section



noncomputable abbrev ngI (ns : List Nat) : List Int := ns.map fun (n : Nat) => -(n : Int)
theorem ints_of {vs : List Value} {ns : List Int} (hl : vs.length = ns.length) (h : ∀ (i : Nat) (v : Value), vs[i]? = some v → ∃ k t, ns[i]? = some k ∧ v = Value.int k t) : IntsAre vs ns := by
  induction vs generalizing ns with
  | nil => cases ns with
    | nil => exact .nil
    | cons _ _ => simp at hl
  | cons v r ih => cases ns with
    | nil => simp at hl
    | cons k m =>
      obtain ⟨k', t, e1, e2⟩ := h 0 v rfl
      have : k = k' := by simpa using e1
      subst this; subst e2
      exact .cons _ _ (ih (by simpa using hl) fun i v hv => by simpa using h (i + 1) v (by simpa using hv))
theorem ints_perm {us vs : List Value} (p : us.Perm vs) : ∀ {ns : List Int}, IntsAre vs ns → ∃ ms, IntsAre us ms ∧ ms.Perm ns := by
  induction p with
  | nil => exact fun h => ⟨_, h, .refl _⟩
  | cons x _ ih =>
    intro ns h
    cases h with
    | cons k t h => obtain ⟨ms, h1, h2⟩ := ih h; exact ⟨k :: ms, .cons k t h1, h2.cons _⟩
  | swap x y l =>
    intro ns h
    cases h with
    | cons k t h => cases h with
      | cons k2 t2 h => exact ⟨_, .cons _ _ (.cons _ _ h), .swap _ _ _⟩
  | trans _ _ ih1 ih2 =>
    intro ns h
    obtain ⟨ms, h1, h2⟩ := ih2 h
    obtain ⟨ms', h3, h4⟩ := ih1 h1
    exact ⟨ms', h3, h4.trans h2⟩
theorem ng_back {ms : List Int} {S : List Nat} (h : ms.Perm (ngI S)) : ∃ zs, ms = ngI zs ∧ zs.Perm S := by
  refine ⟨ms.map fun i => (-i).toNat, ?_, ?_⟩
  · rw [ngI, List.map_map]
    have : ∀ i ∈ ms, ((fun (n : Nat) => -(n : Int)) ∘ fun (i : Int) => (-i).toNat) i = i := fun i hi => by
      obtain ⟨x, _, rfl⟩ := List.mem_map.mp (h.mem_iff.mp hi)
      simp
    exact (List.map_id ms).symm.trans (List.map_congr_left fun i hi => (this i hi).symm)
  · have := h.map fun i : Int => (-i).toNat
    rw [ngI, List.map_map] at this
    have e : S.map ((fun (i : Int) => (-i).toNat) ∘ fun (n : Nat) => -(n : Int)) = S := by
      rw [show ((fun (i : Int) => (-i).toNat) ∘ fun (n : Nat) => -(n : Int)) = id by funext x; simp, List.map_id]
    rwa [e] at this
theorem ints_kin {vs : List Value} {ns : List Int} (h : IntsAre vs ns) : ∀ v ∈ vs, IsI v := by
  induction h with
  | nil => intro v hv; cases hv
  | cons n t _ ih => intro v hv; rcases List.mem_cons.mp hv with rfl | hv; exact ⟨_, _, rfl⟩; exact ih v hv

noncomputable def NegAt (S : List Nat) (i : Nat) (y : Value) : Prop := ∃ (x : Nat) (t : Tok), S[i]? = some x ∧ y = Value.int (-(x : Int)) t
set_option maxHeartbeats 8000000
section
variable {prog : Program} {w : World} {P : Params} {h₀ : Heap} {A : Around} {E : Value → Shared → Prop} {s₀ s : Shared} {L fa : Addr} {cd : Value} {l lz ld : Addr} {us vd : List Value} {S D : List Nat} {n : Nat} {t : Tok} {Q : Flow → Shared → Prop}
/-- heap, falling, holds -/
theorem segB (B : Base P h₀) (a : Amb A) (F : Fm h₀ NoX s₀ (lawEnv L fa cd) [("script", .ref l), ("width", .int (n : Nat) t), ("sizes", .ref lz), ("due", .ref ld)] [listR ld vd, listR lz us, tI none, tJ none] s) (hus : IntsAre us (asI S)) (hS3 : S.length = 3)
    (h : ∀ s' lh lf hd hs zs, s₀.heap.get? lh = none → s₀.heap.get? lf = none → s₀.heap.get? hd = none → IntsAre hs (ngI zs) → zs.Perm S → HpFrom ltV 0 hs →
      Fm h₀ NoX s₀ (lawEnv L fa cd) [("script", .ref l), ("width", .int (n : Nat) t), ("sizes", .ref lz), ("due", .ref ld), ("heap", .ref lh), ("falling", .ref lf), ("holds", .ref hd)]
        [dicR (intKind prog w) hd [], listR lf [], listR lh hs, listR ld vd, tI none, tJ none] s' → wpAny (model prog w) A (execs (lw 6) (lawEnv L fa cd)) Q E s') :
    wpAny (model prog w) A (execs (lw 2) (lawEnv L fa cd)) Q E s := by
  have S0 := sc_law B L fa cd
  have K176 := fn_heapify B
  have hd := a.depth
  have hul := hus.length
  rw [asI_len] at hul
  refine x_assignComp (cl := []) (h₀ := h₀) (X := NoX) (s₀ := s₀) (by decide) rfl (by decide) S0 (by simp) ?_ (by kernel_rfl) (by kernel_rfl)
  kfm_turns
  have hlz : listR lz us ∈ [listR ld vd, listR lz us, tI none, tJ none] := by kqd_in
  refine ⟨_, [], _, _, fun Dl new => s.heap.get? Dl = none ∧ ∃ ys, new = [listR Dl ys] ∧ ys.length = us.length ∧ ∀ (i : Nat) (y : Value), ys[i]? = some y → NegAt S i y, F,
    ⟨by kernel_rfl, (fun _ h => nomatch h), .nil, .nil, (fun _ h => nomatch h)⟩, iters_list F hlz, ?_, ?_⟩
  · intro Dl I C s6 hDl hI F6
    have S6 := F6.sc (ls := ["size"]) (gs := []) B (by kernel_rfl) (by kernel_rfl) (by kernel_rfl) (by kernel_rfl)
    have hIl : I ≠ lz := fun e => by
      obtain ⟨_, ⟨o, e'⟩, _⟩ := F.rd _ hlz lz rfl
      rw [e, e'] at hI; cases hI
    refine loop_list (NegAt S) a.han F6 S6 hlz hI hDl hIl (fun _ h => nomatch h) (by lia) ?_
    intro i v ys s7 Q' hv F7 hq
    simp only [List.nil_append] at F7 hq
    obtain ⟨x, hx⟩ : ∃ x, S[i]? = some x := by
      have : i < us.length := by
        rcases Nat.lt_or_ge i us.length with c | c
        · exact c
        · rw [List.getElem?_eq_none c] at hv; cases hv
      exact ⟨_, List.getElem?_eq_getElem (show i < S.length by lia)⟩
    obtain ⟨tx, htx⟩ := ints_at hus (i := i) (n := (x : Int)) (by rw [asI, List.getElem?_map, hx]; rfl)
    rw [htx] at hv
    cases hv
    kfm_turns
    exact hq _ _ ⟨x, _, hx, rfl⟩ (by assumption)
  · rintro lh new ⟨hlh, ys, rfl, hyl, hys⟩
    refine ⟨_, by kqd_sub, ?_⟩
    intro s8 F8
    have hyi : IntsAre ys (ngI S) := ints_of (by rw [hyl, ngI, List.length_map]; lia) fun i v hv => by
      obtain ⟨x, tx, h1, h2⟩ := hys i v hv
      exact ⟨_, tx, by rw [ngI, List.getElem?_map, h1]; rfl, h2⟩
    simp only [List.cons_append, List.nil_append] at F8
    refine x_if ?_
    kfm_turns
    refine heapify_ok B (show A.depth < 898 by lia) a.han (F8.hands (rs' := [listR lh ys]) (by k_subL)) (.inl (ints_kin hyi)) (by lia) ?_
    intro s9 m9 h9
    have F9 := F8.ch1 (rs' := [listR lh (hfy ltV (ys.length / 2) ys), listR ld vd, listR lz us, tI none, tJ none]) (by kd_subs) m9 (.inr (F.mod.none_of hlh)) h9
    kfm_turns
    refine isnot_none0 ?_
    kfm_turns
    refine ev_list ?_
    kfm_turns
    refine nl_list (by assumption) (by simp) ?_; intro lf s10 hlf F10
    kfm_turns
    refine ev_dicE (intKind prog w) B.three (by assumption) ?_; intro hd' s11 hhd F11
    kfm_turns
    have hp : (hfy ltV (ys.length / 2) ys).Perm ys := hfy_perm ltV _ _ (by lia)
    obtain ⟨ms, hm1, hm2⟩ := ints_perm hp hyi
    obtain ⟨zs, rfl, hz⟩ := ng_back hm2
    exact h _ lh lf hd' _ zs (F.mod.none_of hlh) hlf hhd hm1 hz (heapify_hp tpI (ints_kin hyi)) (Fm.sub (by assumption) (by k_subL))
end
end
end

section -- L4
open PySem PySem.Calls PySem.W PyProof.Rows
set_option Elab.async false
set_option maxRecDepth 100000
set_option linter.unusedVariables false
noncomputable section



/-! lists of values that code numbers -/
inductive Cd (c : Nat → Value → Prop) : List Value → List Nat → Prop
  | nil : Cd c [] []
  | cons {x : Nat} {v : Value} {vs : List Value} {ns : List Nat} : c x v → Cd c vs ns → Cd c (v :: vs) (x :: ns)
theorem Cd.length {c : Nat → Value → Prop} {vs : List Value} {ns : List Nat} (h : Cd c vs ns) : vs.length = ns.length := by
  induction h with
  | nil => rfl
  | cons _ _ ih => simp [ih]
theorem Cd.perm {c : Nat → Value → Prop} {us vs : List Value} (p : us.Perm vs) : ∀ {ns : List Nat}, Cd c vs ns → ∃ ms, Cd c us ms ∧ ms.Perm ns := by
  induction p with
  | nil => exact fun h => ⟨_, h, .refl _⟩
  | cons x _ ih =>
    intro ns h
    cases h with
    | cons k h => obtain ⟨ms, h1, h2⟩ := ih h; exact ⟨_, .cons k h1, h2.cons _⟩
  | swap x y l =>
    intro ns h
    cases h with
    | cons k h => cases h with
      | cons k2 h => exact ⟨_, .cons k2 (.cons k h), .swap _ _ _⟩
  | trans _ _ ih1 ih2 =>
    intro ns h
    obtain ⟨ms, h1, h2⟩ := ih2 h
    obtain ⟨ms', h3, h4⟩ := ih1 h1
    exact ⟨ms', h3, h4.trans h2⟩
theorem Cd.mem {c : Nat → Value → Prop} {vs : List Value} {ns : List Nat} (h : Cd c vs ns) : (∀ v ∈ vs, ∃ x ∈ ns, c x v) ∧ ∀ x ∈ ns, ∃ v ∈ vs, c x v := by
  induction h with
  | nil => exact ⟨(fun _ h => nomatch h), (fun _ h => nomatch h)⟩
  | cons k _ ih =>
    constructor
    · intro v hv
      rcases List.mem_cons.mp hv with rfl | hv
      · exact ⟨_, .head _, k⟩
      · obtain ⟨x, h1, h2⟩ := ih.1 v hv; exact ⟨x, .tail _ h1, h2⟩
    · intro x hx
      rcases List.mem_cons.mp hx with rfl | hx
      · exact ⟨_, .head _, k⟩
      · obtain ⟨v, h1, h2⟩ := ih.2 x hx; exact ⟨v, .tail _ h1, h2⟩
theorem Cd.app {c : Nat → Value → Prop} {vs us : List Value} {ns ms : List Nat} (h : Cd c vs ns) (k : Cd c us ms) : Cd c (vs ++ us) (ns ++ ms) := by
  induction h with
  | nil => exact k
  | cons x _ ih => exact .cons x ih
theorem Cd.split {c : Nat → Value → Prop} {vs : List Value} {v : Value} : ∀ {ns : List Nat}, Cd c (vs ++ [v]) ns → ∃ ms x, ns = ms ++ [x] ∧ Cd c vs ms ∧ c x v := by
  induction vs with
  | nil => intro ns h; cases h with
    | cons k h => cases h; exact ⟨[], _, rfl, .nil, k⟩
  | cons a r ih => intro ns h; cases h with
    | cons k h => obtain ⟨ms, x, rfl, h1, h2⟩ := ih h; exact ⟨_ :: ms, x, rfl, .cons k h1, h2⟩
noncomputable def ngC (x : Nat) (v : Value) : Prop := ∃ t, v = Value.int (-(x : Int)) t
theorem cd_ng {vs : List Value} : ∀ {zs : List Nat}, IntsAre vs (ngI zs) → Cd ngC vs zs := by
  induction vs with
  | nil => intro zs h; cases zs with
    | nil => exact .nil
    | cons _ _ => cases h
  | cons v r ih => intro zs h; cases zs with
    | nil => cases h
    | cons z zs => cases h with
      | cons n t h => exact .cons ⟨t, rfl⟩ (ih h)

section
variable {prog : Program} {w : World} {P : Params} {h₀ : Heap} {A : Around} {E : Value → Shared → Prop} {X : Addr → Prop} {s₀ s : Shared} {env : Env} {loc : List (Str × Value)} {rs : List Rg} {rr : List Value → List Rg} {lh : Addr} {hs : List Value} {zs : List Nat} {c : Nat → Value → Prop} {K : Value → Prop}
theorem pop_ok {Q : Value → Shared → Prop} (B : Base P h₀) (room : A.depth < 898) (T : TP ltV K) (hK : (∀ v ∈ hs, IsI v) ∨ ∀ v ∈ hs, IsS v) (hK2 : ∀ v ∈ hs, K v) (F : Fm h₀ X s₀ env loc rs s) (u : ∀ ys, UpdR (listR lh hs) (listR lh ys) rs (rr ys))
    (hw : Wr X s₀ lh) (hcd : Cd c hs zs) (hp : HpFrom ltV 0 hs) (hne : hs ≠ []) (hsz : hs.length < 2 ^ 19)
    (h : ∀ x v hs' zs' s', c x v → v ∈ hs → zs.Perm (x :: zs') → (∀ u ∈ hs, ltV u v = false) → Cd c hs' zs' → (∀ u ∈ hs', u ∈ hs) → HpFrom ltV 0 hs' → Fm h₀ X s₀ env loc (rr hs') s' → Q v s') :
    wpAny (model prog w) A (call (.ref 169) [.ref lh]) Q E s := by
  obtain ⟨xs, v, rfl⟩ : ∃ xs v, hs = xs ++ [v] := by
    rcases List.eq_nil_or_concat hs with rfl | ⟨r, y, e⟩
    · exact absurd rfl hne
    · exact ⟨r, y, by simpa using e⟩
  rw [List.length_append] at hsz
  have H : Hands h₀ [listR lh (xs ++ [v])] s := F.hands (List.singleton_sublist.mpr (u []).mem)
  refine heappop_ok B room H hK (by simp at hsz; lia) ?_ ?_
  · rintro rfl s' m hl
    obtain ⟨ms, x, rfl, h1, h2⟩ := hcd.split
    cases h1
    refine h x v [] [] s' h2 (by simp) (.refl _) (hp_min T (u := v) (r := []) hK2 hp) .nil (fun _ h => nomatch h) (fun i h0 hi => by simp at hi) (F.ch1 (u []) m hw hl)
  · rintro u0 r rfl s' m hl
    have hperm : (sup ltV (v :: r) 0).Perm (v :: r) := sup_perm ltV (by simp)
    cases hcd with
    | @cons x _ _ ns hx hcd =>
      have hcd2 : ∃ ms, Cd c (v :: r) ms ∧ ms.Perm ns := Cd.perm (List.perm_append_singleton v r).symm hcd
      obtain ⟨ms, q1, q2⟩ := hcd2
      obtain ⟨ms', q3, q4⟩ := Cd.perm hperm q1
      refine h x u0 _ ms' s' hx (by simp) ((q4.trans q2).symm.cons _) (hp_min T (u := u0) (r := r ++ [v]) hK2 hp) q3 (fun u hu => ?_) (pop_hp T (u := u0) (v := v) (r := r) (fun y hy => hK2 y ?_) (hK2 v (by simp)) hp) (F.ch1 (u _) m hw hl)
      · have := hperm.mem_iff.mp hu
        rcases List.mem_cons.mp this with rfl | hu
        · simp
        · simp [hu]
      · rcases List.mem_cons.mp hy with rfl | hy
        · simp
        · simp [hy]
theorem push_ok {Q : Value → Shared → Prop} {v : Value} {x : Nat} (B : Base P h₀) (room : A.depth < 898) (T : TP ltV K) (hK : (∀ u ∈ hs ++ [v], IsI u) ∨ ∀ u ∈ hs ++ [v], IsS u) (hK2 : ∀ u ∈ hs ++ [v], K u) (F : Fm h₀ X s₀ env loc rs s) (u : ∀ ys, UpdR (listR lh hs) (listR lh ys) rs (rr ys))
    (hw : Wr X s₀ lh) (hcd : Cd c hs zs) (hx : c x v) (hp : HpFrom ltV 0 hs) (hsz : hs.length < 2 ^ 19)
    (h : ∀ hs' zs' s', zs'.Perm (x :: zs) → Cd c hs' zs' → (∀ u ∈ hs', u ∈ hs ++ [v]) → HpFrom ltV 0 hs' → Fm h₀ X s₀ env loc (rr hs') s' → Q .none s') :
    wpAny (model prog w) A (call (.ref 162) [.ref lh, v]) Q E s := by
  refine heappush_ok B room (F.hands (List.singleton_sublist.mpr (u []).mem)) hK hsz fun s' m hl => ?_
  have hperm : (sdown ltV 0 (hs ++ [v]) hs.length v).Perm (hs ++ [v]) := by
    have := sdown_perm ltV 0 hs.length (hs ++ [v]) v (by simp)
    simpa using this
  obtain ⟨ms, q1, q2⟩ := Cd.perm hperm (hcd.app (.cons hx .nil))
  exact h _ ms s' (q2.trans (List.perm_append_singleton x zs)) q1 (fun y hy => hperm.mem_iff.mp hy) (push_hp T (fun y hy => hK2 y (by simp [hy])) (hK2 v (by simp)) hp) (F.ch1 (u _) m hw hl)
end
theorem pick_last {vs : List Value} : (slicePick vs.toArray (some (-1)) none none).toList = vs.drop (vs.length - 1) := by
  rw [kms_pick_eq]
  unfold kms_pick kms_lo kms_hi
  simp
  exact List.take_of_length_le (by simp)
end
end

section -- L5
open PySem PySem.Calls PySem.W PyProof.Rows
set_option Elab.async false
set_option maxRecDepth 100000
set_option linter.unusedVariables false
noncomputable section



theorem asI_snoc (f : List Nat) (x : Nat) : asI (f ++ [x]) = asI f ++ [(x : Int)] := by simp [asI]
theorem Fm.pick {h₀ : Heap} {X : Addr → Prop} {s₀ s : Shared} {env : Env} {loc : List (Str × Value)} {rs m rest : List Rg} (F : Fm h₀ X s₀ env loc rs s) (u : RemL rs m rest) : Fm h₀ X s₀ env loc m s :=
  (F.perm u.perm.symm).sub (List.sublist_append_left m rest)
noncomputable abbrev rowO (n : Nat) : Nat → List Nat := fun x => (bag n x).reverse
noncomputable def NoneAt (s₀ : Shared) (oc : Option Addr) : Prop := ∀ c, oc = some c → s₀.heap.get? c = none
theorem digs_bits {x n k : Nat} (hn : 1 ≤ n) (hk : (Builtin.Int.intBits (x : Int) + n - 1) / n = k) : x < 2 ^ (n * k) := by
  have h1 : x < 2 ^ Builtin.Int.intBits (x : Int) := by
    have := (PySem.intBits_le_iff (m := Builtin.Int.intBits (x : Int)) (x := (x : Int))).mp (Nat.le_refl _)
    simpa using this
  refine Nat.lt_of_lt_of_le h1 (Nat.pow_le_pow_right (by decide) ?_)
  have := Nat.div_add_mod (Builtin.Int.intBits (x : Int) + n - 1) n
  rw [hk] at this
  have := Nat.mod_lt (Builtin.Int.intBits (x : Int) + n - 1) (show n > 0 by lia)
  lia
theorem digs_le {x n k : Nat} (hn : 1 ≤ n) (hn3 : n ≤ 3) (hx : x < 2 ^ 36) (hk : (Builtin.Int.intBits (x : Int) + n - 1) / n = k) : k ≤ 36 := by
  have hb : Builtin.Int.intBits (x : Int) ≤ 36 := PyProof.Rows.intBits_le (by simpa using hx)
  subst hk
  rcases (show n = 1 ∨ n = 2 ∨ n = 3 by lia) with rfl | rfl | rfl <;> lia
noncomputable abbrev dg (n x i : Nat) : Nat := x / 2 ^ (n * i) % 2 ^ n
noncomputable abbrev rowU (n x i : Nat) : List Nat := (List.range i).flatMap fun j => List.replicate (dg n x j) j
theorem rowU_succ (n x i : Nat) : rowU n x (i + 1) = rowU n x i ++ List.replicate (dg n x i) i := by
  unfold rowU; rw [List.range_succ, List.flatMap_append]; simp
theorem dg_lt {n : Nat} (x i : Nat) (hn3 : n ≤ 3) : dg n x i < 8 := by
  have h1 := Nat.mod_lt (x / 2 ^ (n * i)) (Nat.two_pow_pos n)
  have h2 : 2 ^ n ≤ 2 ^ 3 := Nat.pow_le_pow_right (by decide) hn3
  show x / 2 ^ (n * i) % 2 ^ n < 8
  lia
theorem rowU_len {n : Nat} (x : Nat) (hn3 : n ≤ 3) : ∀ i, (rowU n x i).length ≤ 8 * i
  | 0 => by simp [rowU]
  | i + 1 => by
    have := rowU_len x hn3 i
    have := dg_lt x i hn3
    rw [rowU_succ, List.length_append, List.length_replicate]; lia
/-- the falling loop's state -/
structure Fal (n : Nat) (S D : List Nat) (hs vf : List Value) (zs f : List Nat) : Prop where
  co : Cd ngC hs zs
  hp : HpFrom ltV 0 hs
  hk : ∀ v ∈ hs, IsI v
  ivf : IntsAre vf (asI f)
  fall : f.Pairwise fun x y => y < x
  fD : ∀ x ∈ f, x ∈ D
  zD : ∀ x ∈ zs, x ∈ D
  le : ∀ z ∈ zs, ∀ y ∈ f, z ≤ y
  st : ∀ x ∈ S, x ∈ f ∨ x ∈ zs
  cl : ∀ x ∈ f, ∀ p ∈ bag n x, p ∈ f ∨ p ∈ zs
  zl : zs.length ≤ 3 + 36 * f.length

set_option maxHeartbeats 16000000
section
variable {prog : Program} {w : World} {P : Params} {h₀ : Heap} {A : Around} {E : Value → Shared → Prop} {s₀ s : Shared} {L fa : Addr} {cd : Value} {l lz ld lh lf hd : Addr} {us vd hs : List Value} {S D zs : List Nat} {n : Nat} {t : Tok} {Q : Flow → Shared → Prop}
noncomputable abbrev loc7 (l lz ld lh lf hd : Addr) (n : Nat) (t : Tok) : List (Str × Value) := [("script", .ref l), ("width", .int (n : Nat) t), ("sizes", .ref lz), ("due", .ref ld), ("heap", .ref lh), ("falling", .ref lf), ("holds", .ref hd)]
theorem segC (B : Base P h₀) (a : Amb A) (d : Dt n S D) (h23 : s₀.heap.get? 23 = none) (hlh : s₀.heap.get? lh = none) (hlf : s₀.heap.get? lf = none) (hhd : s₀.heap.get? hd = none)
    (F : Fm h₀ NoX s₀ (lawEnv L fa cd) [("script", .ref l), ("width", .int (n : Nat) t), ("sizes", .ref lz), ("due", .ref ld), ("heap", .ref lh), ("falling", .ref lf), ("holds", .ref hd)]
      [dicR (intKind prog w) hd [], listR lf [], listR lh hs, listR ld vd, tI none, tJ none] s)
    (hi : IntsAre hs (ngI zs)) (hz : zs.Perm S) (hp : HpFrom ltV 0 hs)
    (h : ∀ s' oc ad vf f, NoneAt s₀ oc → IntsAre vf (asI f) → f = D.reverse → 
      Fm h₀ NoX s₀ (lawEnv L fa cd) [("script", .ref l), ("width", .int (n : Nat) t), ("sizes", .ref lz), ("due", .ref ld), ("heap", .ref lh), ("falling", .ref lf), ("holds", .ref hd)]
        [lsR f ad (rowO n), dicR (intKind prog w) hd (nk f ad), listR lf vf, listR lh [], listR ld vd, tI oc, tJ none] s' → wpAny (model prog w) A (execs (lw 7) (lawEnv L fa cd)) Q E s') :
    wpAny (model prog w) A (execs (lw 6) (lawEnv L fa cd)) Q E s := by
  have S0 := sc_law B L fa cd
  have K162 := fn_heappush B
  have K169 := fn_heappop B
  have K28 := fn_int2digits B
  have hd' := a.depth
  have hn1 := d.n1
  have hn3 := d.n3
  have hDl := d.len
  have hS3 := d.S3
  have F0 := F.addL (new := [lsR [] (fun _ => 0) (rowO n)]) (.refl _) (by intro r hr a f; rw [List.mem_singleton.mp hr] at f; cases f) (by intro r hr; rw [List.mem_singleton.mp hr]; exact ⟨.nil, fun q hq => nomatch hq⟩) (List.pairwise_singleton _ _)
  simp only [List.cons_append, List.nil_append] at F0
  refine x_while (fun k s' => E6 fun hs zs vf f ad oc => Fal n S D hs vf zs f ∧ k = (15 - f.length) * 100 + zs.length ∧ NoneAt s₀ oc ∧
    Fm h₀ NoX s₀ (lawEnv L fa cd) [("script", .ref l), ("width", .int (n : Nat) t), ("sizes", .ref lz), ("due", .ref ld), ("heap", .ref lh), ("falling", .ref lf), ("holds", .ref hd)]
        [lsR f ad (rowO n), dicR (intKind prog w) hd (nk f ad), listR lf vf, listR lh hs, listR ld vd, tI oc, tJ none] s') _
    ⟨hs, zs, [], [], fun _ => 0, none, ⟨cd_ng hi, hp, ints_kin hi, .nil, .nil, (fun _ h => nomatch h), fun x hx => d.sub (hz.mem_iff.mp hx), (fun _ _ _ h => nomatch h), fun x hx => .inr (hz.mem_iff.mpr hx), (fun _ h => nomatch h), by rw [hz.length_eq, hS3]; lia⟩, rfl, (fun _ h => nomatch h), F0⟩ ?_
  intro k s1
  (repeat (first | (with_reducible refine WithL.in fun _ _ _ _ => ?_) | (with_reducible refine WithE.in fun _ _ _ => ?_)))
  rintro ⟨hs, zs, vf, f, ad, oc, J, hk, hoc, F1⟩
  have hfn : f.Nodup := J.fall.imp fun h => Nat.ne_of_gt h
  have hfl : f.length ≤ 15 := Nat.le_trans (sub_len hfn J.fD) hDl
  have hhl := J.co.length
  have hzl := J.zl
  have hvl := J.ivf.length
  rw [asI_len] at hvl
  refine PyProof.Rows.isTrue_plain ?_
  kfm_turns
  refine truthy_list F1 (by kqd_in) (by lia) ?_; intro s2 F2
  refine if_bool (fun c => ?_) (fun c => ?_)
  · have hne : hs ≠ [] := fun e => by subst e; simp at c
    refine x_assign ?_
    kfm_turns
    refine pop_ok B (show A.depth < 898 by lia) tpI (.inl J.hk) J.hk F2 (rr := fun ys => [lsR f ad (rowO n), dicR (intKind prog w) hd (nk f ad), listR lf vf, listR lh ys, listR ld vd, tI oc, tJ none]) (fun ys => by kd_subs) (.inr hlh) J.co J.hp hne (by lia) ?_
    rintro x v hs' zs' s3 ⟨tx, rfl⟩ hvm hpm hmin hcd' hsub hp' F3
    have hmax : ∀ z ∈ zs, z ≤ x := fun z hz => by
      obtain ⟨u, hu, tu, rfl⟩ := J.co.mem.2 z hz
      have : ¬ (-(z : Int) < -(x : Int)) := of_decide_eq_false (hmin _ hu)
      lia
    have hxz : x ∈ zs := hpm.mem_iff.mpr (.head _)
    have hxD := J.zD x hxz
    have hsub' : ∀ z ∈ zs', z ∈ zs := fun z hz => hpm.mem_iff.mpr (.tail _ hz)
    have hzl' : zs.length = zs'.length + 1 := hpm.length_eq
    kfm_turns
    rename_i tsz s3a F3a s3b F3b
    rw [Int.neg_neg] at F3b
    refine x_if ?_
    kfm_turns
    refine ev_slc ?_
    refine ep_some ?_
    kfm_turns
    refine ep_none ?_
    refine ep_none ?_
    refine nl_slc (by assumption) ?_; intro sl s4 hsl F4
    refine sub_slc F4 (F4.list (a := lf) (xs := vf) (by kqd_in)) (by kqd_in) (.int _ _) .none .none (by simp) (by lia) ?_; intro lb s5 hlb F5
    rw [pick_last] at F5
    kfm_turns
    refine ev_list ?_
    kfm_turns
    refine nl_list (by assumption) (by simp) ?_; intro lc s6 hlc F6
    have hdr : ∃ g, IntsAre (vf.drop (vf.length - 1)) (asI g) ∧ ((f = [] ∧ g = []) ∨ ∃ f' y, f = f' ++ [y] ∧ g = [y]) := by
      rcases List.eq_nil_or_concat f with e | ⟨f', y, e⟩
      · subst e
        have : vf = [] := List.length_eq_zero_iff.mp hvl
        subst this
        exact ⟨[], .nil, .inl ⟨rfl, rfl⟩⟩
      · have e : f = f' ++ [y] := by simpa using e
        have hi := J.ivf
        rw [e, asI_snoc] at hi
        obtain ⟨us, ty, e1, e2⟩ := ints_snoc hi ⟨_, rfl⟩
        refine ⟨[y], ?_, .inr ⟨f', y, e, rfl⟩⟩
        rw [e1]
        simp
        exact .cons _ _ .nil
    obtain ⟨g, hg1, hg2⟩ := hdr
    refine op_neL a.units F6 (l := lb) (b := lc) (by kqd_in) (by kqd_in) (reads_ints hg1) (reads_ints (.cons _ _ .nil)) (shaped_ints _) (shaped_ints _) ?_
    rw [eqv_ints]
    kfm_turns
    refine if_bool (fun c2 => ?_) (fun c2 => ?_)
    · have hlast : ∀ y ∈ f, x < y := by
        intro y hy
        have hxy := J.le x hxz y hy
        rcases hg2 with ⟨ef, _⟩ | ⟨f', q, ef, eg⟩
        · rw [ef] at hy; cases hy
        · rw [eg] at c2
          have hq : x ≠ q := fun e => by rw [e] at c2; simp at c2
          have hxq := J.le x hxz q (by rw [ef]; simp)
          rw [ef] at hy
          rcases List.mem_append.mp hy with m | m
          · have hfall := J.fall
            rw [ef] at hfall
            have := (List.pairwise_append.mp hfall).2.2 y m q (by simp)
            lia
          · rw [List.mem_singleton.mp m]; lia
      have hxn : x ∉ f := fun m => absurd (hlast x m) (Nat.lt_irrefl _)
      have hflt : f.length + 1 ≤ 15 := by
        have : (f ++ [x]).Nodup := by rw [List.nodup_append]; exact ⟨hfn, by simp, by intro a ha b hb e; simp at hb; subst hb; exact hxn (e ▸ ha)⟩
        have := sub_len this (U := D) fun y hy => (List.mem_append.mp hy).elim (J.fD y) fun m => List.mem_singleton.mp m ▸ hxD
        simp only [List.length_append, List.length_cons, List.length_nil] at this
        lia
      have hxb := d.bound hxD
      refine x_expr ?_
      refine ev_meth (pl := _) ?_
      kfm_turns
      refine meth_list F6 (by kqd_in) PySem.F.slot_list_append PySem.F.type_list_append ?_
      kfm_turns
      refine app_list (l := lf) (xs := vf) (by assumption) (by kd_subs) (.inr hlf) (by lia) ?_; intro s7 F7
      kfm_turns
      refine ev_list ?_
      kfm_turns
      refine nl_list (by assumption) (by simp) ?_; intro lr s8 hlr F8
      kfm_turns
      refine x_forT ?_
      kfm_turns
      rename_i s9 F9
      obtain ⟨k, hkk⟩ : ∃ k, (Builtin.Int.intBits (x : Int) + n - 1) / n = k := ⟨_, rfl⟩
      have hkb := digs_bits hn1 hkk
      have hkl := digs_le hn1 hn3 hxb hkk
      refine int2digits_ok B (show A.depth < 700 by lia) (F9.hands (rs' := [tI oc]) (by k_subL)) hn1 hn3 (Nat.lt_of_lt_of_le hxb (by decide)) hkk ?_
      intro s10 lg c' vg m10 hlg hoc' H10 hvg hdig
      have hc' : s₀.heap.get? c' = none := by
        rcases hoc' with e | ⟨_, e⟩
        · exact hoc c' e
        · exact F9.mod.none_of e
      have nx : Next h₀ [tI oc] [listR lg vg, tI (some c')] s9 s10 := by
        refine ⟨m10.wide fun a f => .inl ⟨_, .head _, f⟩, H10, fun r hr a f => ?_⟩
        rcases List.mem_cons.mp hr with rfl | hr
        · exact .inr (by rw [show a = lg from f]; exact hlg)
        · rw [List.mem_singleton.mp hr] at f
          rcases f with e | e
          · exact .inl ⟨_, .head _, .inl e⟩
          · cases e
            rcases hoc' with e | ⟨_, e⟩
            · exact .inl ⟨_, .head _, .inr e⟩
            · exact .inr e
      have F10 := F9.nx nx (by kd_subs) fun r hr a f => .inr (by
        rw [List.mem_singleton.mp hr] at f
        rcases f with e | e
        · rw [e]; exact h23
        · exact hoc a e)
      simp only [List.cons_append, List.nil_append] at F10
      refine op_enum F10 (by kqd_in) ?_; intro e it s11 he hit hel hil F11
      refine it_enum F11 (by kqd_in) ?_
      have hhl2 := hcd'.length
      refine ⟨fun m s' => E4 fun (i : Nat) (vr hs2 : List Value) (zs2 : List Nat) => i + m = k ∧ IntsAre vr (asI (rowU n x i)) ∧ Cd ngC hs2 zs2 ∧ HpFrom ltV 0 hs2 ∧ (∀ v ∈ hs2, IsI v) ∧ (∀ z ∈ zs2, z ∈ zs' ∨ z ∈ bag n x) ∧ (∀ z ∈ zs', z ∈ zs2) ∧
          (∀ j, j < i → dg n x j ≠ 0 → j ∈ zs2) ∧ zs2.length ≤ zs'.length + i ∧
          Fm h₀ NoX s₀ (lawEnv L fa cd) [("script", .ref l), ("width", .int (n : Nat) t), ("sizes", .ref lz), ("due", .ref ld), ("heap", .ref lh), ("falling", .ref lf), ("holds", .ref hd), ("size", .int (x : Int) tsz), ("row", .ref lr)]
            [enR e it lg i, listR lg vg, tI (some c'), listR lr vr, lsR f ad (rowO n), dicR (intKind prog w) hd (nk f ad), listR lf (vf ++ [Value.int (x : Int) tsz]), listR lh hs2, listR ld vd, tJ none] s', k,
        ⟨0, [], hs', zs', by lia, .nil, hcd', hp', fun v hv => J.hk v (hsub v hv), fun z hz => .inl hz, fun z hz => hz, (fun j hj => absurd hj (Nat.not_lt_zero j)), by lia, F11.sub (by k_subL)⟩, ?_⟩
      intro m s12
      (repeat (first | (with_reducible refine WithL.in fun _ _ _ _ => ?_) | (with_reducible refine WithE.in fun _ _ _ => ?_)))
      rintro ⟨i, vr, hs2, zs2, him, hvr, hcd2, hp2, hk2, hz2a, hz2b, hz2c, hz2l, F12⟩
      have hvrl := hvr.length
      rw [asI_len] at hvrl
      have hrl := rowU_len x hn3 i
      have hh2l := hcd2.length
      by_cases hm : m = 0
      · have hik : i = vg.length := by lia
        subst hik
        refine nd_enum a.han F12 (by kqd_in) .hit hit ?_; intro s13 F13
        show wpAny _ _ (execs [] _) _ _ _
        kfm_turns
        refine set_dic (k := (x : Int)) F13 (by kd_subs) (.inr hhd) (intKind_is _ _ _ _) (by rw [nk_len]; lia) ?_; intro s14 F14
        rw [nk_new hxn] at F14
        have e1 : rowU n x vg.length = rowO n x := (bag_row hn1 (by rw [hvg]; exact hkb)).symm
        rw [e1] at hvr
        have F15 := F14.lsNew (ns := rowO n x) hxn (by kd_subs) hvr (by kd_subs)
        have e2 : upd (rowO n) x (rowO n x) = rowO n := by
          funext y; unfold upd; split
          · rename_i e; rw [e]
          · rfl
        rw [e2] at F15
        kfm_turns
        have hbag : ∀ p ∈ bag n x, p ∈ zs2 := fun p hp => by
          have hp' : p ∈ rowU n x vg.length := by rw [e1]; exact List.mem_reverse.mpr hp
          obtain ⟨q, hq1, hq2⟩ := List.mem_flatMap.mp hp'
          obtain ⟨hq3, rfl⟩ := List.mem_replicate.mp hq2
          exact hz2c p (List.mem_range.mp hq1) hq3
        refine ⟨(15 - (f ++ [x]).length) * 100 + zs2.length, ?_, hs2, zs2, vf ++ [Value.int (x : Int) tsz], f ++ [x], upd ad x lr, some c', ⟨hcd2, hp2, hk2, by rw [asI_snoc]; exact ints_app J.ivf (.cons _ _ .nil), ?_, ?_, ?_, ?_, ?_, ?_, ?_⟩, rfl, ?_, Fm.locsub (F15.pick (by kd_subs)) (by k_subL)⟩
        · simp only [List.length_append, List.length_cons, List.length_nil]; lia
        · exact List.pairwise_append.mpr ⟨J.fall, List.pairwise_singleton _ _, fun y hy z hz => by rw [List.mem_singleton.mp hz]; exact hlast y hy⟩
        · intro y hy
          rcases List.mem_append.mp hy with m | m
          · exact J.fD y m
          · rw [List.mem_singleton.mp m]; exact hxD
        · intro z hz
          rcases hz2a z hz with m | m
          · exact J.zD z (hsub' z m)
          · exact d.cl x hxD z m
        · intro z hz y hy
          have hzx : z ≤ x := by
            rcases hz2a z hz with m | m
            · exact hmax z (hsub' z m)
            · exact Nat.le_of_lt (bag_lt hn1 m)
          rcases List.mem_append.mp hy with m | m
          · have := hlast y m; lia
          · rw [List.mem_singleton.mp m]; exact hzx
        · intro y hy
          rcases J.st y hy with m | m
          · exact .inl (by simp [m])
          · rcases List.mem_cons.mp (hpm.mem_iff.mp m) with rfl | m
            · exact .inl (by simp)
            · exact .inr (hz2b y m)
        · intro y hy p hp
          rcases List.mem_append.mp hy with m | m
          · rcases J.cl y m p hp with m | m
            · exact .inl (by simp [m])
            · rcases List.mem_cons.mp (hpm.mem_iff.mp m) with rfl | m
              · exact .inl (by simp)
              · exact .inr (hz2b p m)
          · rw [List.mem_singleton.mp m] at hp
            exact .inr (hbag p hp)
        · simp only [List.length_append, List.length_cons, List.length_nil]; lia
        · intro c e; cases e; exact hc'
      · obtain ⟨td, hd2⟩ := hdig i (by lia)
        refine nx_enum a.han F12 (xs := vg) (by kqd_in) hd2 hel hil .hit he hit ?_; intro t13 s13 F13
        kfm_turns
        refine ev_list ?_
        kfm_turns
        refine nl_list (by assumption) (by simp) ?_; intro lp s14 hlp F14
        kfm_turns
        have hdl : x / 2 ^ (n * i) % 2 ^ n < 8 := dg_lt x i hn3
        refine op_mulL F14 (by kqd_in) (by lia) (by rw [Int.toNat_natCast]; simp; lia) (by lia) ?_; intro lm s15 hlm F15
        rw [Int.toNat_natCast, show (List.replicate (x / 2 ^ (n * i) % 2 ^ n) [Value.int ((i : Nat) : Int) t13]).flatten = List.replicate (x / 2 ^ (n * i) % 2 ^ n) (Value.int ((i : Nat) : Int) t13) by
          generalize x / 2 ^ (n * i) % 2 ^ n = q
          induction q with
          | zero => rfl
          | succ q ih => rw [List.replicate_succ, List.replicate_succ, List.flatten_cons, ih]; rfl] at F15
        refine op_iaddL (l := lr) (xs := vr) F15 (by kd_subs) (by kqd_in) (.inr hlr) (by rw [List.length_replicate]; lia) ?_; intro s16 F16
        kfm_turns
        have hvr' : IntsAre (vr ++ List.replicate (dg n x i) (Value.int ((i : Nat) : Int) t13)) (asI (rowU n x (i + 1))) := by
          have : asI (rowU n x (i + 1)) = asI (rowU n x i) ++ List.replicate (dg n x i) ((i : Nat) : Int) := by rw [rowU_succ]; simp [asI]
          rw [this]; exact ints_app hvr (ints_rep _)
        refine x_if ?_
        (repeat (first | (with_reducible refine WithL.in fun _ _ _ _ => ?_) | (with_reducible refine WithE.in fun _ _ _ => ?_))); refine PyProof.Rows.isTrue_plain ?_
        kfm_turns
        refine PyProof.Rows.truthy_int ?_
        rename_i s17 F17 _ _ _
        refine if_bool (fun c3 => ?_) (fun c3 => ?_)
        · have hdz : dg n x i ≠ 0 := fun e => by
            have : ((x / 2 ^ (n * i) % 2 ^ n : Nat) : Int) = 0 := by rw [show x / 2 ^ (n * i) % 2 ^ n = 0 from e]; rfl
            rw [this] at c3; exact absurd c3 (by decide)
          have hib : i ∈ bag n x := by
            have h1 := bag_count hn1 x i
            exact List.count_pos_iff.mp (by rw [h1]; exact Nat.pos_of_ne_zero hdz)
          kfm_turns
          rename_i tn s18 F18
          have hall : ∀ u ∈ hs2 ++ [Value.int (-(i : Int)) tn], IsI u := fun u hu => by
            rcases List.mem_append.mp hu with hu | hu
            · exact hk2 u hu
            · rw [List.mem_singleton.mp hu]; exact ⟨_, _, rfl⟩
          refine push_ok (x := i) B (show A.depth < 898 by lia) tpI (.inl hall) hall F18 (rr := fun ys => [listR lm (List.replicate (dg n x i) (Value.int ((i : Nat) : Int) t13)), listR lp [Value.int ((i : Nat) : Int) t13], enR e it lg (i + 1), listR lg vg, tI (some c'), listR lr (vr ++ List.replicate (dg n x i) (Value.int ((i : Nat) : Int) t13)), lsR f ad (rowO n), dicR (intKind prog w) hd (nk f ad),
            listR lf (vf ++ [Value.int (x : Int) tsz]), listR lh ys, listR ld vd, tJ none]) (fun ys => by kd_subs) (.inr hlh) hcd2 ⟨_, rfl⟩ hp2 (by lia) ?_
          intro hs3 zs3 s19 hpm3 hcd3 hsub3 hp3 F19
          kfm_turns
          have hzl3 := hpm3.length_eq
          rw [List.length_cons] at hzl3
          refine ⟨k - (i + 1), by lia, i + 1, _, hs3, zs3, by lia, hvr', hcd3, hp3, fun v hv => hall v (hsub3 v hv), ?_, ?_, ?_, by lia, Fm.locsub (F19.sub (by k_subL)) (by k_subL)⟩
          · intro z hz
            rcases List.mem_cons.mp (hpm3.mem_iff.mp hz) with rfl | m
            · exact .inr hib
            · exact hz2a z m
          · intro z hz; exact hpm3.mem_iff.mpr (.tail _ (hz2b z hz))
          · intro j hj hjd
            by_cases e : j = i
            · subst e; exact hpm3.mem_iff.mpr (.head _)
            · exact hpm3.mem_iff.mpr (.tail _ (hz2c j (by lia) hjd))
        · have hdz : dg n x i = 0 := by
            apply Classical.byContradiction
            intro q
            have : ((x / 2 ^ (n * i) % 2 ^ n : Nat) : Int) ≠ 0 := fun e => q (show x / 2 ^ (n * i) % 2 ^ n = 0 by lia)
            have c4 := eq_of_beq (by simpa using c3 : (((x / 2 ^ (n * i) % 2 ^ n : Nat) : Int) == 0) = true)
            exact this c4
          kfm_turns
          refine ⟨k - (i + 1), by lia, i + 1, _, hs2, zs2, by lia, hvr', hcd2, hp2, hk2, hz2a, hz2b, fun j hj hjd => ?_, by lia, Fm.locsub (F17.sub (by k_subL)) (by k_subL)⟩
          by_cases e : j = i
          · subst e; exact absurd hdz hjd
          · exact hz2c j (by lia) hjd
    · have hxf : x ∈ f := by
        rcases hg2 with ⟨_, eg⟩ | ⟨f', q, ef, eg⟩
        · rw [eg] at c2; simp at c2
        · rw [eg] at c2
          have : (q : Int) = x := by simpa using c2
          have : q = x := by lia
          rw [ef]
          simp [this]
      kfm_turns
      refine ⟨(15 - f.length) * 100 + zs'.length, by lia, hs', zs', vf, f, ad, oc, ⟨hcd', hp', fun v hv => J.hk v (hsub v hv), J.ivf, J.fall, J.fD, fun z hz => J.zD z (hsub' z hz), fun z hz => J.le z (hsub' z hz), fun y hy => ?_, fun y hy p hp => ?_, by lia⟩, rfl, hoc,
        Fm.locsub (Fm.sub F6 (by k_subL)) (by k_subL)⟩
      · rcases J.st y hy with m | m
        · exact .inl m
        · rcases List.mem_cons.mp (hpm.mem_iff.mp m) with rfl | m
          · exact .inl hxf
          · exact .inr m
      · rcases J.cl y hy p hp with m | m
        · exact .inl m
        · rcases List.mem_cons.mp (hpm.mem_iff.mp m) with rfl | m
          · exact .inl hxf
          · exact .inr m
  · have hh0 : hs = [] := by
      rcases hs with _ | ⟨x, y⟩
      · rfl
      · simp at c
    subst hh0
    have hz0 : zs = [] := List.length_eq_zero_iff.mp (by simpa using hhl.symm)
    subst hz0
    kfm_turns
    refine h s2 oc ad vf f hoc J.ivf ?_ F2
    have hmem : ∀ x, x ∈ f ↔ x ∈ D := fun x => ⟨J.fD x, fun hx => by
      have := (d.mem x).mp hx
      induction this with
      | base hb => exact (J.st _ hb).elim id fun m => nomatch m
      | step hc hp ih => exact (J.cl _ (ih ((d.mem _).mpr hc)) _ hp).elim id fun m => nomatch m⟩
    have hr : f.reverse.Pairwise (· < ·) := List.pairwise_reverse.mpr J.fall
    have : f.reverse = D := by
      refine List.Perm.eq_of_pairwise (le := (· < ·)) (fun a b _ _ h1 h2 => by lia) hr d.rise ?_
      rw [List.perm_ext_iff_of_nodup ((List.reverse_perm f).nodup_iff.mpr hfn) d.nd]
      intro x; rw [List.mem_reverse]; exact hmem x
    rw [← this, List.reverse_reverse]
end
end
end

section -- L6
open PySem PySem.Calls PySem.W PyProof.Rows
set_option Elab.async false
set_option maxRecDepth 100000
set_option linter.unusedVariables false
noncomputable section



section
variable {prog : Program} {w : World} {A : Around} {E : Value → Shared → Prop} {P : Params} {h₀ : Heap} {X : Addr → Prop} {s₀ s s' : Shared} {env : Env} {loc : List (Str × Value)} {rs big big' rest : List Rg}
noncomputable abbrev WrAll (X : Addr → Prop) (s₀ : Shared) (big : List Rg) : Prop := ∀ r ∈ big, ∀ a, r.foot a → Wr X s₀ a
theorem Fm.nxW (F : Fm h₀ X s₀ env loc rs s) (n : Next h₀ big big' s s') (u : RemL rs big rest) (hw : WrAll X s₀ big) : Fm h₀ X s₀ env loc (big' ++ rest) s' ∧ WrAll X s₀ big' :=
  ⟨F.nx n u hw, fun r hr a f => (n.ft r hr a f).elim (fun ⟨q, hq, g⟩ => hw q hq a g) fun e => .inr (F.mod.none_of e)⟩
/-- a callee that may write slots of this frame -/
theorem Fm.lend0 (F : Fm h₀ X s₀ env loc rs s) (u : RemL rs big rest) (hw : WrAll X s₀ big) :
    ∃ oL, Hands h₀ (big ++ [frR [(env.locals, oL)]]) s ∧ ∀ s' big', Next h₀ (big ++ [frR [(env.locals, oL)]]) (big' ++ [frR [(env.locals, oL)]]) s s' → Fm h₀ X s₀ env loc (big' ++ rest) s' ∧ WrAll X s₀ big' := by
  obtain ⟨m, ⟨oL, es, ep, eL, hd, hr⟩, hv⟩ := F.ns
  have G := F.perm u.perm.symm
  have footL : ∀ {oL a}, (frR [(env.locals, oL)]).foot a → a = env.locals := fun f => by
    rcases List.mem_cons.mp f with e | f
    · exact e
    · cases f
  have inF : ∀ {r}, r ∈ big ++ [frR [(env.locals, oL)]] → ∀ a, r.foot a → (∃ q ∈ big, q.foot a) ∨ a = env.locals := fun hr a f => by
    rcases List.mem_append.mp hr with hr | hr
    · exact .inl ⟨_, hr, f⟩
    · rw [List.mem_singleton.mp hr] at f; exact .inr (footL f)
  refine ⟨oL, ⟨F.base, ?_, ?_, ?_⟩, fun s' big' n => ?_⟩
  · intro r hr
    rcases List.mem_append.mp hr with hr | hr
    · exact G.rg r (by simp [hr])
    · rw [List.mem_singleton.mp hr]
      intro p hp
      rw [List.mem_singleton.mp hp]
      exact ⟨⟨es, ep, hd⟩, oL.slots, eL⟩
  · intro r hr a f
    rcases List.mem_append.mp hr with hr | hr
    · obtain ⟨h1, h2, _⟩ := G.rd r (by simp [hr]) a f; exact ⟨h1, h2⟩
    · rw [List.mem_singleton.mp hr] at f
      rw [footL f]; exact F.vd _ (.head _)
  · refine List.pairwise_append.mpr ⟨(List.pairwise_append.mp G.rp).1, List.pairwise_singleton _ _, fun r hr q hq a f g => ?_⟩
    rw [List.mem_singleton.mp hq] at g
    exact (G.rd r (by simp [hr]) a f).2.2 (by rw [footL g]; exact .head _)
  · have md := n.md
    have hmL : frR [(env.locals, oL)] ∈ big' ++ [frR [(env.locals, oL)]] := by simp
    obtain ⟨_, sl, eL'⟩ := n.hands.rg _ hmL (env.locals, oL) (.head _)
    have offv : ∀ a, vf env a → a ≠ env.locals → ¬ ∃ r ∈ big ++ [frR [(env.locals, oL)]], r.foot a := fun a v hne ⟨r, hr, f⟩ => by
      rcases inF hr a f with ⟨q, hq, g⟩ | e
      · exact (G.rd q (by simp [hq]) a g).2.2 v
      · exact hne e
    have cne : ∀ c ∈ env.cells.map (·.2), c ≠ env.locals := fun c hc e => (List.nodup_cons.mp F.cnd).1 (e ▸ hc)
    have offr : ∀ q ∈ rest, ∀ a, q.foot a → ¬ ∃ r ∈ big ++ [frR [(env.locals, oL)]], r.foot a := fun q hq a f ⟨r, hr, g⟩ => by
      rcases inF hr a g with ⟨q2, hq2, g2⟩ | e
      · exact (List.pairwise_append.mp G.rp).2.2 q2 hq2 q hq a g2 f
      · exact (G.rd q (by simp [hq]) a f).2.2 (by rw [e]; exact .head _)
    have newf : ∀ r ∈ big', ∀ a, r.foot a → (∃ q ∈ big, q.foot a) ∨ s.heap.get? a = none := fun r hr a f => by
      rcases n.ft r (by simp [hr]) a f with ⟨q, hq, g⟩ | e
      · rcases inF hq a g with x | e
        · exact .inl x
        · exact absurd (show (frR [(env.locals, oL)]).foot a by rw [e]; exact .head _) ((List.pairwise_append.mp n.hands.rp).2.2 r hr _ (.head _) a f)
      · exact .inr e
    refine ⟨⟨F.mod.trans md fun b ⟨r, hr, f⟩ => ?_, md.base F.base fun a ⟨r, hr, f⟩ => ?_, F.fk, F.cnd, F.lnd, ⟨m, ⟨_, es, ep, eL', hd, hr⟩, fun p hp => ?_⟩, F.lw, ?_, ?_, ?_, ?_, ?_⟩, ?_⟩
    · rcases inF hr b f with ⟨q, hq, g⟩ | e
      · exact hw q hq b g
      · exact .inr (by rw [e]; exact F.lw)
    · rcases inF hr a f with ⟨q, hq, g⟩ | e
      · exact (G.rd q (by simp [hq]) a g).1
      · rw [e]; exact (F.vd _ (.head _)).1
    · cases hv p hp with
      | loc hk hd hm => exact .loc hk hd hm
      | cel c hk hd hc ho =>
        have hcm : c ∈ env.cells.map (·.2) := List.mem_map.mpr ⟨_, mem_of_lookup hc, rfl⟩
        exact .cel c hk hd hc (cell_keeps ho fun o e => md.keep _ o (offv c (.tail _ hcm) (cne c hcm)) e)
    · intro a v; obtain ⟨h1, o, e⟩ := F.vd a v; exact ⟨h1, md.dom a o e⟩
    · intro r hr'
      rcases List.mem_append.mp hr' with hr' | hr'
      · exact n.hands.rg r (by simp [hr'])
      · exact r.stable _ _ (fun a o f e => md.keep a o (offr r hr' a f) e) (G.rg r (by simp [hr']))
    · intro r hr' a f
      rcases List.mem_append.mp hr' with hr' | hr'
      · obtain ⟨h1, h2⟩ := n.hands.rd r (by simp [hr']) a f
        refine ⟨h1, h2, fun v => ?_⟩
        rcases newf r hr' a f with ⟨q, hq, g⟩ | e
        · exact (G.rd q (by simp [hq]) a g).2.2 v
        · obtain ⟨_, o, e'⟩ := F.vd a v
          rw [e] at e'; cases e'
      · obtain ⟨h1, ⟨o, e⟩, h3⟩ := G.rd r (by simp [hr']) a f; exact ⟨h1, md.dom a o e, h3⟩
    · refine List.pairwise_append.mpr ⟨(List.pairwise_append.mp n.hands.rp).1, (List.pairwise_append.mp G.rp).2.1, fun r hr' q hq a f g => ?_⟩
      rcases newf r hr' a f with ⟨q2, hq2, g2⟩ | e
      · exact (List.pairwise_append.mp G.rp).2.2 q2 hq2 q hq a g2 g
      · obtain ⟨_, ⟨o, e'⟩, _⟩ := G.rd q (by simp [hq]) a g
        rw [e] at e'; cases e'
    · intro p hp
      obtain ⟨v, y⟩ := F.cc p hp
      have hcm : p.2 ∈ env.cells.map (·.2) := List.mem_map.mpr ⟨p, hp, rfl⟩
      exact ⟨v, cell_keeps y fun o e => md.keep _ o (offv _ (.tail _ hcm) (cne _ hcm)) e⟩
    · intro r hr' a f
      rcases newf r hr' a f with ⟨q, hq, g⟩ | e
      · exact hw q hq a g
      · exact .inr (F.mod.none_of e)
end
theorem ints_rev {vs : List Value} {ns : List Int} (h : IntsAre vs ns) : IntsAre vs.reverse ns.reverse := by
  induction h with
  | nil => exact .nil
  | cons n t _ ih =>
    rw [List.reverse_cons, List.reverse_cons]
    have : ∀ {vs us : List Value} {ns ms : List Int}, IntsAre vs ns → IntsAre us ms → IntsAre (vs ++ us) (ns ++ ms) := ints_app
    exact this ih (.cons _ _ .nil)
theorem rev_pick {vs : List Value} : (slicePick vs.toArray none none (some (-1))).toList = vs.reverse := by
  rw [krv_pick]
noncomputable abbrev npB (n : Nat) : Nat → Int := fun x => ((bag n x).length : Int)
theorem slD_snoc {n : Nat} (hn : 1 ≤ n) {P : List Nat} {k : Nat} (hP : ∀ y ∈ P, y < k) : addS (slD n P) k (rowO n k) = slD n (P ++ [k]) := by
  funext x
  unfold addS
  have e1 : slD n (P ++ [k]) x = slD n P x ++ List.replicate ((bag n k).count x) k := by unfold slD; rw [List.flatMap_append]; simp
  rw [e1, List.count_reverse]
  by_cases h : x = k
  · subst h
    have h1 : (bag n x).count x = 0 := List.count_eq_zero.mpr fun m => absurd (bag_lt hn m) (Nat.lt_irrefl _)
    have h2 : slD n P x = [] := by
      rw [List.eq_nil_iff_forall_not_mem]
      intro y hy
      obtain ⟨q1, q2⟩ := slD_mem.mp hy
      have := bag_lt hn q2
      have := hP y q1
      lia
    rw [if_pos rfl, h1, h2]; rfl
  · rw [if_neg h]
theorem slD_len {n : Nat} {P : List Nat} {x M : Nat} (h : ∀ y ∈ P, (bag n y).length ≤ M) : (slD n P x).length ≤ P.length * M := by
  unfold slD
  refine flat_len fun y hy => ?_
  rw [List.length_replicate]
  exact Nat.le_trans List.count_le_length (h y hy)
end
end

section -- L7
open PySem PySem.Calls PySem.W PyProof.Rows
set_option Elab.async false
set_option maxRecDepth 100000
set_option linter.unusedVariables false
noncomputable section



/-! methods called with stars: bound first -/
noncomputable def bmR (q f x : Addr) : Rg := ⟨(· = q), fun h => h.get? q = some (methodObj (.ref f) (.ref x)), fun _ _ k e => k q _ rfl e⟩
structure BndOk (P : Params) (C f : Addr) (name : Str) : Prop where
  hd : hasDictIn (KH P) C = true
  gf : specialIn (KH P) (.ref f) "__get__" = some (some (.builtin "function.__get__"))
  tk : takesIn (KH P) (.ref f) = some false
  nc : copiedNames.contains name = false
  fn : fnIn (KH P) f = true
theorem bnd_add (P : Params) : BndOk P 151 101 "add" := ⟨by kernel_rfl, by kernel_rfl, by kernel_rfl, by kernel_rfl, by kernel_rfl⟩
theorem bnd_done (P : Params) : BndOk P 151 134 "done" := ⟨by kernel_rfl, by kernel_rfl, by kernel_rfl, by kernel_rfl, by kernel_rfl⟩
section
variable {M : Model} {prog : Program} {w : World} {A : Around} {E : Value → Shared → Prop} {P : Params} {h₀ : Heap} {X : Addr → Prop} {s₀ s : Shared} {env : Env} {loc : List (Str × Value)} {rs rs' : List Rg} {C T dx f q : Addr} {fs : List (Str × Value)} {name : Str}
theorem ev_methS {o : Expr} {apos pos : Pos} {args : List Expr} {Q : Value → Shared → Prop}
    (h : wpAny M A (eval o env) (fun ov s₁ => wpAny M A (getAttr ov name true) (fun f s₂ => wpAny M A (callWith pos f [] (backTo pos (starEach args env)) []) Q E s₂) E s₁) E s)
    (he : eval (.Call (.Attribute o name apos) args [] pos) env = (do
      let ov ← eval o env
      standAt apos.atName
      let p ← holding [ov] (do let f ← getAttr ov name true; pure (f, ([] : List Value)))
      callWith pos p.1 p.2 (backTo pos (starEach args env)) []) := by with_unfolding_all rfl) :
    wpAny M A (eval (.Call (.Attribute o name apos) args [] pos) env) Q E s := by
  rw [he]
  refine wpAny_bind (wpAny_mono h (fun ov s₁ h₁ => wpAny_bind (wpAny_standAt (wpAny_bind (wpAny_holding (wpAny_bind (wpAny_mono h₁ (fun fx s₂ h₂ => wpAny_pure h₂) fun _ _ x => x)))))) fun _ _ x => x)
theorem at_bound {expr : Bool} {Q : Value → Shared → Prop} (B : Base P h₀) (F : Fm h₀ X s₀ env loc rs s) (hm : insR w C T dx fs ∈ rs) (O : MthOk P C f name) (O2 : BndOk P C f name) (hl : fs.lookup name = none)
    (h : ∀ q s', s₀.heap.get? q = none → Fm h₀ X s₀ env loc (bmR q f T :: rs) s' → Q (.ref q) s') : wpAny (model prog w) A (getAttr (.ref T) name expr) Q E s := by
  obtain ⟨es, n, I, hf⟩ := ins_at (F.rg _ hm)
  exact get_bind (F.kin B) I (plainGet_of O.g).1 (findObj_fn O2.hd O.hf O2.gf O2.tk O2.nc (by rw [lookIn_dict, hf.get, hl])) (plainGet_of O.g).2
    (wpAny_call (fn_get (s := { s with toks := s.toks + 1 }) (F.kin B) (beq_iff_eq.mp O.ht) (handed_on rfl (h s.heap.objs.size _ (F.mod.none_of (get?_size _)) (F.alloc (s.toks + 1) rfl (fun a e => e) (Heap.get?_push_size _ rfl))))))
/-- q(e, .., *r), q a bound method -/
theorem cw_bstar2 {e : Expr} {rest : List Expr} {pos : Pos} {Q : Value → Shared → Prop} (O2 : BndOk P C f name) (h : wpAny M A (spliced (backTo pos (starEach (e :: rest) env))) (fun vs s₁ => MethP (KH P) q f (.ref T) s₁.heap ∧ wpAny M A (call (.ref q) vs) Q E s₁) E s)
    (he : starEach (e :: rest) env = (false, eval e env) :: starEach rest env := by with_unfolding_all rfl) (hst : (backTo pos (starEach rest env)).any (·.1) = true := by with_unfolding_all rfl) :
    wpAny M A (callWith pos (.ref q) [] (backTo pos (starEach (e :: rest) env)) []) Q E s := by
  rw [he] at h ⊢
  exact ks_call (by show (false || (backTo pos (starEach rest env)).any (·.1)) = true; rw [hst]; rfl) (keeps_M O2.fn) (evalArgs_plain h)
theorem cw_bstar {e : Expr} {pos p : Pos} {Q : Value → Shared → Prop} (O2 : BndOk P C f name) (h : wpAny M A (eval e env) (fun v s₁ => StarOf M A E v (fun vs s₂ => MethP (KH P) q f (.ref T) s₂.heap ∧ wpAny M A (call (.ref q) vs) Q E s₂) s₁) E s)
    (he : starEach [.Starred e p] env = [(true, eval e env)] := by with_unfolding_all rfl) :
    wpAny M A (callWith pos (.ref q) [] (backTo pos (starEach [.Starred e p] env)) []) Q E s := by
  rw [he]
  exact ks_call rfl (keeps_M O2.fn) (ks_lone h)
theorem call_bound {vs : List Value} {Q : Value → Shared → Prop} (F : Fm h₀ X s₀ env loc rs s) (hm : bmR q f T ∈ rs)
    (h : codeAny (model prog w) A (.call (.ref f) ⟨.ref T :: vs, []⟩) (fun r s' => match r with | .ok (.ret v) => Q v s' | .ok _ => False | .error e => E e s') s) : wpAny (model prog w) A (call (.ref q) vs) Q E s :=
  wpAny_call (method_call (F.rg _ hm) h)
end

set_option maxHeartbeats 16000000
section
variable {prog : Program} {w : World} {P : Params} {h₀ : Heap} {A : Around} {E : Value → Shared → Prop} {s₀ s : Shared} {L fa : Addr} {cd : Value} {l lz ld lh lf hd : Addr} {vf vd : List Value} {S D f : List Nat} {n : Nat} {t : Tok} {ad : Nat → Addr} {oc : Option Addr} {Q : Flow → Shared → Prop}
theorem segD (B : Base P h₀) (a : Amb A) (d : Dt n S D) (hvd : IntsAre vd (asI D)) (hvf : IntsAre vf (asI f)) (hf : f = D.reverse)
    (F : Fm h₀ NoX s₀ (lawEnv L fa cd) [("script", .ref l), ("width", .int (n : Nat) t), ("sizes", .ref lz), ("due", .ref ld), ("heap", .ref lh), ("falling", .ref lf), ("holds", .ref hd)]
        [lsR f ad (rowO n), dicR (intKind prog w) hd (nk f ad), listR lf vf, listR lh [], listR ld vd, tI oc, tJ none] s)
    (h : ∀ s' T dx dd t1 t2, s₀.heap.get? T = none → s₀.heap.get? dx = none → s₀.heap.get? dd = none →
      Fm h₀ NoX s₀ (lawEnv L fa cd) [("script", .ref l), ("width", .int (n : Nat) t), ("sizes", .ref lz), ("due", .ref ld), ("heap", .ref lh), ("falling", .ref lf), ("holds", .ref hd), ("sorter", .ref T)]
        [dicR (intKind prog w) dd [], insR w 151 T dx (tsF dd .none 0 0 t1 t2), lsR f ad (rowO n), dicR (intKind prog w) hd (nk f ad), listR lf vf, listR lh [], listR ld vd, tI oc, tJ none] s' → wpAny (model prog w) A (execs (lw 9) (lawEnv L fa cd)) Q E s') :
    wpAny (model prog w) A (execs (lw 7) (lawEnv L fa cd)) Q E s := by
  have S0 := sc_law B L fa cd
  have hd' := a.depth
  have hDl := d.len
  have hvdl := hvd.length
  rw [asI_len] at hvdl
  refine x_if ?_
  kfm_turns
  refine ev_slc ?_
  refine ep_none ?_
  refine ep_none ?_
  refine ep_some ?_
  kfm_turns
  refine nl_slc (by assumption) ?_; intro sl s4 hsl F4
  refine sub_slc F4 (F4.list (a := ld) (xs := vd) (by kqd_in)) (by kqd_in) .none .none (.int _ _) (by simp) (by lia) ?_; intro lb s5 hlb F5
  rw [rev_pick] at F5
  kfm_turns
  have hrv := ints_rev hvd
  have er : (asI D).reverse = asI f := by rw [hf]; simp [asI]
  refine op_neL a.units F5 (l := lf) (b := lb) (by kqd_in) (by kqd_in) (reads_ints hvf) (reads_ints hrv) (shaped_ints _) (shaped_ints _) ?_
  rw [eqv_ints, er, decide_eq_true rfl]
  kfm_turns
  refine if_ff ?_
  kfm_turns
  refine cw_cls0 B (by kernel_rfl) F5 ?_
  refine mk_ts B (show A.depth < 899 by lia) F5 ?_
  intro T dx dd t1 t2 s6 hT hdx hdd F6
  kfm_turns
  exact h _ T dx dd t1 t2 hT hdx hdd (Fm.sub (by assumption) (by k_subL))
theorem segE (B : Base P h₀) (a : Amb A) (d : Dt n S D) (hvd : IntsAre vd (asI D)) (hf : f = D.reverse) {T dx dd : Addr} {t1 t2 : Tok} (hT : s₀.heap.get? T = none) (hdx : s₀.heap.get? dx = none) (hdd : s₀.heap.get? dd = none)
    (F : Fm h₀ NoX s₀ (lawEnv L fa cd) [("script", .ref l), ("width", .int (n : Nat) t), ("sizes", .ref lz), ("due", .ref ld), ("heap", .ref lh), ("falling", .ref lf), ("holds", .ref hd), ("sorter", .ref T)]
        [dicR (intKind prog w) dd [], insR w 151 T dx (tsF dd .none 0 0 t1 t2), lsR f ad (rowO n), dicR (intKind prog w) hd (nk f ad), listR lf vf, listR lh [], listR ld vd, tI oc, tJ none] s)
    (h : ∀ s' info idc succ, WrAll NoX s₀ [dicR (intKind prog w) dd (nk D info), insR w 151 T dx (tsF dd .none 0 0 t1 t2), irR D info idc succ (npB n), lsR D succ (slD n D)] →
      Fm h₀ NoX s₀ (lawEnv L fa cd) [("script", .ref l), ("width", .int (n : Nat) t), ("sizes", .ref lz), ("due", .ref ld), ("heap", .ref lh), ("falling", .ref lf), ("holds", .ref hd), ("sorter", .ref T)]
        [dicR (intKind prog w) dd (nk D info), insR w 151 T dx (tsF dd .none 0 0 t1 t2), irR D info idc succ (npB n), lsR D succ (slD n D), lsR f ad (rowO n), dicR (intKind prog w) hd (nk f ad), listR lf vf, listR lh [], listR ld vd, tI oc, tJ none] s' →
        wpAny (model prog w) A (execs (lw 10) (lawEnv L fa cd)) Q E s') :
    wpAny (model prog w) A (execs (lw 9) (lawEnv L fa cd)) Q E s := by
  have S0 := sc_law B L fa cd
  have K101 := fn_add B
  have hd' := a.depth
  have hDl := d.len
  have hn1 := d.n1
  have hvdl := hvd.length
  rw [asI_len] at hvdl
  have hfm : ∀ x, x ∈ f ↔ x ∈ D := fun x => by rw [hf]; exact List.mem_reverse
  have hfn : f.Nodup := by rw [hf]; exact (List.reverse_perm D).nodup_iff.mpr d.nd
  have F0 := F.addL (new := [irR [] (fun _ => 0) (fun _ => 0) (fun _ => 0) (npB n), lsR [] (fun _ => 0) (slD n [])]) (.refl _)
    (by intro r hr a f; rcases List.mem_cons.mp hr with rfl | hr; cases f; rw [List.mem_singleton.mp hr] at f; cases f)
    (by intro r hr; rcases List.mem_cons.mp hr with rfl | hr; exact ⟨.nil, fun q hq => nomatch hq⟩; rw [List.mem_singleton.mp hr]; exact ⟨.nil, fun q hq => nomatch hq⟩)
    (by refine List.pairwise_cons.mpr ⟨fun q hq a f => ?_, List.pairwise_singleton _ _⟩; cases f)
  simp only [List.cons_append, List.nil_append] at F0
  refine x_for ?_
  kfm_turns
  refine it_list F0 (l := ld) (xs := vd) (by kqd_in) ?_; intro I s1 hI hIl F1
  refine ⟨fun m s' => E4 fun i info idc succ => i + m = D.length ∧ WrAll NoX s₀ [dicR (intKind prog w) dd (nk (D.take i) info), insR w 151 T dx (tsF dd .none 0 0 t1 t2), irR (D.take i) info idc succ (npB n), lsR (D.take i) succ (slD n (D.take i))] ∧
    Fm h₀ NoX s₀ (lawEnv L fa cd) [("script", .ref l), ("width", .int (n : Nat) t), ("sizes", .ref lz), ("due", .ref ld), ("heap", .ref lh), ("falling", .ref lf), ("holds", .ref hd), ("sorter", .ref T)]
      [liR I ld i, dicR (intKind prog w) dd (nk (D.take i) info), insR w 151 T dx (tsF dd .none 0 0 t1 t2), irR (D.take i) info idc succ (npB n), lsR (D.take i) succ (slD n (D.take i)), lsR f ad (rowO n), dicR (intKind prog w) hd (nk f ad), listR lf vf, listR lh [], listR ld vd, tI oc, tJ none] s',
    D.length, ⟨0, fun _ => 0, fun _ => 0, fun _ => 0, by lia, ?_, F1.pick (m := [liR I ld 0, dicR (intKind prog w) dd [], insR w 151 T dx (tsF dd .none 0 0 t1 t2), irR [] (fun _ => 0) (fun _ => 0) (fun _ => 0) (npB n), lsR [] (fun _ => 0) (slD n []), lsR f ad (rowO n), dicR (intKind prog w) hd (nk f ad), listR lf vf, listR lh [], listR ld vd, tI oc, tJ none]) (by kd_subs)⟩, ?_⟩
  · intro r hr a f
    rcases List.mem_cons.mp hr with rfl | hr
    · exact .inr (by rw [show a = dd from f]; exact hdd)
    rcases List.mem_cons.mp hr with rfl | hr
    · exact .inr (f.elim (fun e => e ▸ hT) fun e => e ▸ hdx)
    rcases List.mem_cons.mp hr with rfl | hr
    · cases f
    · rw [List.mem_singleton.mp hr] at f; cases f
  intro m s2
  (repeat (first | (with_reducible refine WithL.in fun _ _ _ _ => ?_) | (with_reducible refine WithE.in fun _ _ _ => ?_)))
  rintro ⟨i, info, idc, succ, him, hW, F2⟩
  by_cases hm : m = 0
  · have hi : i = vd.length := by lia
    subst hi
    refine nd_list a.han F2 (by kqd_in) hIl .hit hI ?_; intro s3 F3
    rw [hvdl, List.take_length] at F3 hW
    kfm_turns
    exact h _ info idc succ hW F3
  · obtain ⟨x, hx⟩ : ∃ x, D[i]? = some x := ⟨_, List.getElem?_eq_getElem (show i < D.length by lia)⟩
    have hxD : x ∈ D := List.mem_of_getElem? hx
    have hlt : ∀ y ∈ D.take i, y < x := by
      intro y hy
      have e := List.take_append_drop i D
      have hr := d.rise
      rw [← e] at hr
      refine (List.pairwise_append.mp hr).2.2 y hy x ?_
      have : (D.drop i)[0]? = some x := by rw [List.getElem?_drop]; simpa using hx
      exact List.mem_of_getElem? this
    have htk : D.take (i + 1) = D.take i ++ [x] := by rw [List.take_succ, hx]; rfl
    obtain ⟨tx, htx⟩ := ints_at hvd (i := i) (n := (x : Int)) (by rw [asI, List.getElem?_map, hx]; rfl)
    refine nx_list (i := i) a.han F2 (by kqd_in) hIl (by lia) .hit hI ?_; intro v s3 hv F3
    rw [htx] at hv
    cases hv
    kfm_turns
    rename_i s4 F4
    refine ev_methS ?_
    kfm_turns
    refine at_bound B F4 (by kqd_in) (mth_add P) (bnd_add P) (by kernel_rfl) ?_; intro q s5 hq F5
    refine cw_bstar2 (P := P) (T := T) (bnd_add P) ?_
    kfm_turns
    refine a_star ?_
    kfm_turns
    refine sub_int F5 (d := hd) (by kqd_in) (nk_in ((hfm x).mpr hxD)) ?_; intro s6 F6
    obtain ⟨rv, hrv, F7⟩ := F6.lsOut (D := f) (ad := ad) (ct := rowO n) ((hfm x).mpr hxD) (by kd_subs)
    have hrl := hrv.length
    rw [asI_len, List.length_reverse] at hrl
    have hbl := d.bagLen hxD
    refine star_list F7 (l := ad x) (xs := rv) (by kqd_in) (by lia) ?_; intro s8 F8
    have F9 := F8.lsIn (D := f) (ad := ad) (ct := rowO n) (ns := rowO n x) ((hfm x).mpr hxD) hfn (by kd_subs) hrv (by kd_subs)
    have e2 : upd (rowO n) x (rowO n x) = rowO n := by
      funext y; unfold upd; split
      · rename_i e; rw [e]
      · rfl
    rw [e2] at F9
    kfm_turns
    refine ⟨⟨F9.rg (bmR q 101 T) (by kqd_in), F9.kin B⟩, ?_⟩
    rw [List.append_nil]
    refine call_bound F9 (by kqd_in) ?_
    refine add_ok (D := D.take i) (ps := rowO n x) (info := info) (idc := idc) (succ := succ) (np := npB n) (sl := slD n (D.take i)) (dx := dx) (d := dd) (po := 0) (nf := 0) (t1 := t1) (t2 := t2) B (show A.depth < 890 by lia) a.han
      (F9.pick (m := [dicR (intKind prog w) dd (nk (D.take i) info), insR w 151 T dx (tsF dd .none 0 0 t1 t2), irR (D.take i) info idc succ (npB n), lsR (D.take i) succ (slD n (D.take i))]) (by kd_subs) |>.hands (.refl _))
      (d.nd.sublist (List.take_sublist _ _)) (fun m => absurd (hlt x m) (Nat.lt_irrefl _)) (fun p hp => ?_) hrv (by rw [List.length_take]; lia) (by rw [List.length_reverse]; lia) (fun p hp => ?_) ?_
    · have hp' : p ∈ bag n x := List.mem_reverse.mp hp
      exact tk_lt d.rise (d.cl x hxD p hp') (by rw [htk]; simp) (bag_lt hn1 hp')
    · have := slD_len (n := n) (P := D.take i) (x := p) (M := 11) fun y hy => d.bagLen (List.mem_of_mem_take hy)
      rw [List.length_take] at this
      lia
    · intro s10 info' idc' succ' nx
      obtain ⟨F10, W10⟩ := F9.nxW nx (by kd_subs) hW
      simp only [List.cons_append, List.nil_append] at F10
      have e3 : upd (npB n) x ((rowO n x).length : Int) = npB n := by
        funext y; unfold upd; split
        · rename_i e; subst e; rw [List.length_reverse]
        · rfl
      rw [e3, slD_snoc hn1 hlt, ← htk] at F10 W10
      dsimp only
      kfm_turns
      exact ⟨D.length - (i + 1), by lia, i + 1, info', idc', succ', by lia, W10, Fm.locsub (F10.pick (by kd_subs)) (by k_subL)⟩
end
end
end

section -- L8
open PySem PySem.Calls PySem.W PyProof.Rows
set_option Elab.async false
set_option maxRecDepth 100000
set_option linter.unusedVariables false
noncomputable section



set_option maxHeartbeats 16000000
section
variable {prog : Program} {w : World} {P : Params} {h₀ : Heap} {A : Around} {E : Value → Shared → Prop} {s₀ s : Shared} {L fa : Addr} {cd : Value} {l lz ld lh lf hd : Addr} {vf vd : List Value} {S D f : List Nat} {n : Nat} {t : Tok} {ad : Nat → Addr} {oc : Option Addr} {Q : Flow → Shared → Prop}
theorem segF (B : Base P h₀) (a : Amb A) (hfr : A.frames = some [lawEnv L fa cd]) (hc : ∀ p ∈ (lawEnv L fa cd).cells, s₀.heap.get? p.2 = none) (d : Dt n S D) {T dx dd : Addr} {t1 t2 : Tok} {info idc succ : Nat → Addr}
    (hW : WrAll NoX s₀ [dicR (intKind prog w) dd (nk D info), insR w 151 T dx (tsF dd .none 0 0 t1 t2), irR D info idc succ (npB n), lsR D succ (slD n D)])
    (F : Fm h₀ NoX s₀ (lawEnv L fa cd) [("script", .ref l), ("width", .int (n : Nat) t), ("sizes", .ref lz), ("due", .ref ld), ("heap", .ref lh), ("falling", .ref lf), ("holds", .ref hd), ("sorter", .ref T)]
        [dicR (intKind prog w) dd (nk D info), insR w 151 T dx (tsF dd .none 0 0 t1 t2), irR D info idc succ (npB n), lsR D succ (slD n D), lsR f ad (rowO n), dicR (intKind prog w) hd (nk f ad), listR lf vf, listR lh [], listR ld vd, tI oc, tJ none] s)
    (h : ∀ s' rl vr lr wd', s₀.heap.get? lr = none → s₀.heap.get? wd' = none → IntsAre vr (asI ((D.take (en n D 0)).drop 0)) →
      WrAll NoX s₀ [listR rl vr, dicR (intKind prog w) dd (nk D info), insR w 151 T dx (tsF dd (.ref rl) 0 0 t1 t2), irR D info idc succ (npB n), lsR D succ (slD n D)] →
      Fm h₀ NoX s₀ (lawEnv L fa cd) [("script", .ref l), ("width", .int (n : Nat) t), ("sizes", .ref lz), ("due", .ref ld), ("heap", .ref lh), ("falling", .ref lf), ("holds", .ref hd), ("sorter", .ref T), ("rounds", .ref lr), ("words", .ref wd')]
        [dicR (intKind prog w) wd' [], listR lr [], listR rl vr, dicR (intKind prog w) dd (nk D info), insR w 151 T dx (tsF dd (.ref rl) 0 0 t1 t2), irR D info idc succ (npB n), lsR D succ (slD n D), lsR f ad (rowO n), dicR (intKind prog w) hd (nk f ad), listR lf vf, listR lh [], listR ld vd, tI oc, tJ none] s' →
        wpAny (model prog w) A (execs (lw 13) (lawEnv L fa cd)) Q E s') :
    wpAny (model prog w) A (execs (lw 10) (lawEnv L fa cd)) Q E s := by
  have S0 := sc_law B L fa cd
  have K106 := fn_prep B
  obtain ⟨c1, c2, c3, c4, c5⟩ := cel_law hc
  have hd' := a.depth
  have hDl := d.len
  have hn1 := d.n1
  refine x_if ?_
  kfm_turns
  refine meth_ins B F (by kqd_in) (mth_prep P) (by kernel_rfl) ?_
  kfm_turns
  obtain ⟨oL, HL, back⟩ := Fm.lend0 (big := [dicR (intKind prog w) dd (nk D info), insR w 151 T dx (tsF dd .none 0 0 t1 t2), irR D info idc succ (npB n), lsR D succ (slD n D)]) F (by kd_subs) hW
  refine prep_ok B (show A.depth < 880 by lia) a.han ⟨[lawEnv L fa cd], hfr, fun e he => by rw [List.mem_singleton.mp he, F.fk]; decide, rfl⟩ HL d.nd (fun x hx y hy => ?_) (by lia) (fun x hx => ?_) ?_
  · obtain ⟨h1, h2⟩ := slD_mem.mp hy
    exact ⟨h1, bag_lt hn1 h2⟩
  · have := slD_len (n := n) (P := D) (x := x) (M := 11) fun y hy => d.bagLen hy
    lia
  intro s1 rl vr hvr hrl nx
  obtain ⟨F1, W1⟩ := back s1 [listR rl vr, dicR (intKind prog w) dd (nk D info), insR w 151 T dx (tsF dd (.ref rl) 0 0 t1 t2), irR D info idc succ (npB n), lsR D succ (slD n D)] nx
  simp only [List.cons_append, List.nil_append] at F1
  kfm_turns
  refine isnot_none0 ?_
  kfm_turns
  refine ev_list ?_
  kfm_turns
  refine nl_list F1 (by simp) ?_; intro lr s2 hlr F2
  kfm_turns
  refine ev_dicE (intKind prog w) B.three (by assumption) ?_; intro wd' s3 hwd F3
  refine st_cel F3 c2 (by kqd_sub) ?_; intro s4 F4
  refine h s4 rl vr lr wd' hlr hwd ?_ W1 F4
  have e : (D.take (en n D 0)).drop 0 = D.filter fun k => decide (npB n k = 0) := by
    rw [List.drop_zero, en_pre hn1 d.rise d.cl]
    refine List.filter_congr fun x _ => decide_eq_decide.mpr ?_
    rw [cnt_first]
    show _ ↔ ((bag n x).length : Int) = 0
    lia
  rw [e]; exact hvr
end
end
end

section -- L9
open PySem PySem.Calls PySem.W PyProof.Rows
set_option Elab.async false
set_option maxRecDepth 100000
set_option linter.unusedVariables false
noncomputable section



theorem cap1 {env : Env} {scope : Scope} {x : Str} {v : Value} {c : Addr} {loc : List (Str × Value)} (h1 : closureFor scope env = pure [(x, c)]) (h2 : env.cells.lookup x = some c) (hm : (x, v) ∈ loc) (h3 : env.kindOf x ≠ some .local)
    (h4 : (relabel scope env).names.lookup x = some .cell) (h5 : (x == ("__debug__" : Str)) = false) : Cap env scope [(x, c)] loc [(x, v)] :=
  ⟨h1, fun p hp => by rw [List.mem_singleton.mp hp]; exact h2, by simp, by simp, fun p hp => by
    rw [List.mem_singleton.mp hp]; exact ⟨hm, ⟨c, by simp⟩, h3, h4, h5⟩⟩
noncomputable def tpR (Ts : List (Addr × List Nat)) : Rg :=
  ⟨fun a => a ∈ Ts.map (fun (p : Addr × List Nat) => p.1), fun h => (Ts.map (fun (p : Addr × List Nat) => p.1)).Nodup ∧ ∀ p ∈ Ts, ∃ vs : List Value, h.IsTuple p.1 vs.toArray ∧ IntsAre vs (asI p.2),
   fun _ _ k x => ⟨x.1, fun p hp => by
     have h2 := x.2
     obtain ⟨vs, ⟨o, e, r⟩, q⟩ := h2 p hp
     exact ⟨vs, ⟨o, k _ _ (List.mem_map.mpr ⟨p, hp, rfl⟩) e, r⟩, q⟩⟩⟩
theorem Fm.tpPush {h₀ : Heap} {X : Addr → Prop} {s₀ s : Shared} {env : Env} {loc : List (Str × Value)} {rs rs1 rs' : List Rg} {Ts : List (Addr × List Nat)} {T : Addr} {vs : List Value} {ns : List Nat} (F : Fm h₀ X s₀ env loc rs s) (v : RemR (tupR T vs) rs rs1) (hi : IntsAre vs (asI ns))
    (u : UpdR (tpR Ts) (tpR (Ts ++ [(T, ns)])) rs1 rs') : Fm h₀ X s₀ env loc rs' s := by
  have ht := F.tup v.mem
  refine F.merge v u (fun a f => ?_) fun h1 ⟨g1, g2⟩ dj => ⟨?_, fun p hp => ?_⟩
  · have f' : a ∈ (Ts ++ [(T, ns)]).map fun p => p.1 := f
    rw [List.map_append] at f'
    rcases List.mem_append.mp f' with m | m
    · exact .inr m
    · exact .inl (show a = T by simpa using m)
  · rw [List.map_append, List.nodup_append]
    refine ⟨g1, by simp, fun a ha b hb e => ?_⟩
    have : b = T := by simpa using hb
    exact dj T rfl (by rw [← this, ← e]; exact ha)
  · rcases List.mem_append.mp hp with m | m
    · exact g2 p m
    · rw [List.mem_singleton.mp m]; exact ⟨vs, ht, hi⟩
/-- a table with numbers for keys -/
structure Mp (c : Nat → Value → Prop) (kvs : List (Int × Value)) (P : List Nat) : Prop where
  at' : ∀ x ∈ P, ∃ v, valueAt kvs (x : Int) = some v ∧ c x v
  off : ∀ x : Nat, x ∉ P → valueAt kvs (x : Int) = none
  len : kvs.length ≤ P.length
theorem Mp.nil (c : Nat → Value → Prop) : Mp c [] [] := ⟨(fun _ h => nomatch h), fun _ _ => rfl, Nat.le_refl _⟩
theorem Mp.store {c : Nat → Value → Prop} {kvs : List (Int × Value)} {P : List Nat} {x : Nat} {v : Value} (M : Mp c kvs P) (hx : x ∉ P) (hv : c x v) : Mp c (stored kvs (x : Int) v) (P ++ [x]) := by
  have hno : ¬ (kvs.any fun kv => decide (kv.1 = (x : Int))) = true := by
    rw [List.any_eq_true]
    rintro ⟨p, hp, e⟩
    have := M.off x hx
    unfold valueAt at this
    rw [Option.map_eq_none_iff, List.find?_eq_none] at this
    exact this p hp e
  have es : stored kvs (x : Int) v = kvs ++ [((x : Int), v)] := by unfold stored; rw [if_neg hno]
  have hat : ∀ k : Int, valueAt (kvs ++ [((x : Int), v)]) k = (valueAt kvs k).or (if (x : Int) = k then some v else none) := fun k => by
    unfold valueAt
    rw [List.find?_append]
    cases q : kvs.find? (fun kv => decide (kv.1 = k)) with
    | some z => simp
    | none =>
      by_cases e : (x : Int) = k
      · simp [e]
      · simp [e]
  rw [es]
  refine ⟨fun y hy => ?_, fun y hy => ?_, by have := M.len; simp; lia⟩
  · rw [hat]
    rcases List.mem_append.mp hy with m | m
    · obtain ⟨u, h1, h2⟩ := M.at' y m
      exact ⟨u, by rw [h1]; rfl, h2⟩
    · rw [List.mem_singleton.mp m, M.off x hx]
      exact ⟨v, by simp, hv⟩
  · have hne : ¬ (x : Int) = (y : Int) := fun e => hy (by
      have : y = x := by lia
      simp [this])
    rw [hat, M.off y (fun m => hy (by simp [m])), if_neg hne]; rfl
noncomputable def wdC (n x : Nat) (v : Value) : Prop := ∃ t, v = Value.str (mkS (wd n x)) t
theorem join_mk (ls : List (List Nat)) : Txt.join (mkS []) (ls.map mkS) = mkS ls.flatten := by
  have e : Txt.join (mkS []) (ls.map mkS) = Str.join (mkS []) (ls.map mkS) := eq_of_beq (join_plain_closes _ _)
  rw [e]
  induction ls with
  | nil => rfl
  | cons a r ih =>
    cases r with
    | nil => simp [Str.join]
    | cons b q =>
      rw [List.map_cons, List.map_cons, Str.join, List.flatten_cons, ← mkS_app]
      · rw [List.map_cons] at ih
        rw [ih (eq_of_beq (join_plain_closes _ _)), mkS_app, mkS_app, mkS_app, List.append_nil]
      · simp
end
end

section -- L10
open PySem PySem.Calls PySem.W PyProof.Rows
set_option Elab.async false
set_option maxRecDepth 100000
set_option linter.unusedVariables false
noncomputable section



noncomputable def WdAt (n : Nat) (ps : List Nat) (i : Nat) (y : Value) : Prop := ∃ q, ps[i]? = some q ∧ wdC n q y
theorem strs_of {n : Nat} : ∀ {ys : List Value} {ps : List Nat}, ys.length = ps.length → (∀ (i : Nat) (y : Value), ys[i]? = some y → WdAt n ps i y) → StrsAre ys (ps.map fun q => mkS (wd n q))
  | [], [], _, _ => .nil
  | [], _ :: _, h, _ => by simp at h
  | _ :: _, [], h, _ => by simp at h
  | y :: ys, p :: ps, hl, h => by
    obtain ⟨q, h1, t, rfl⟩ := h 0 y (by rfl)
    have : p = q := by simpa using h1
    subst this
    exact .cons _ t (strs_of (by simpa using hl) fun i z hz => by simpa [WdAt] using h (i + 1) z (by simpa using hz))
theorem fl_len (n : Nat) (ps : List Nat) : ((ps.map fun q => mkS (wd n q)).map (·.length)).sum = (ps.flatMap (wd n)).length := by
  induction ps with
  | nil => rfl
  | cons a r ih => rw [List.map_cons, List.map_cons, List.sum_cons, ih, List.flatMap_cons, List.length_append, mkS_len]
theorem join_wd (n : Nat) (ps : List Nat) : Txt.join (mkS []) (ps.map fun q => mkS (wd n q)) = mkS (ps.flatMap (wd n)) := by
  have := join_mk (ps.map (wd n))
  rw [List.map_map] at this
  rw [List.flatMap_def]
  exact this
theorem s1_eq : ("1" : Str) = mkS [49] := by decide
theorem s0_eq : ("0" : Str) = mkS [48] := by decide
theorem se_eq : ("" : Str) = mkS [] := by decide

set_option maxHeartbeats 16000000
section
variable {prog : Program} {w : World} {P : Params} {h₀ : Heap} {A : Around} {E : Value → Shared → Prop} {s₀ s : Shared} {L fa : Addr} {cd : Value} {l lz ld lh lf hd lr rl wd' T dx dd : Addr} {vf vd vr : List Value} {S D f : List Nat} {n : Nat} {t t1 t2 : Tok} {ad info idc succ : Nat → Addr} {oc : Option Addr} {Q : Flow → Shared → Prop}
theorem segG (B : Base P h₀) (a : Amb A) (hc : ∀ p ∈ (lawEnv L fa cd).cells, s₀.heap.get? p.2 = none) (d : Dt n S D) (hf : f = D.reverse) (hlr : s₀.heap.get? lr = none) (hwd : s₀.heap.get? wd' = none) (hvr : IntsAre vr (asI ((D.take (en n D 0)).drop 0)))
    (hW : WrAll NoX s₀ [listR rl vr, dicR (intKind prog w) dd (nk D info), insR w 151 T dx (tsF dd (.ref rl) 0 0 t1 t2), irR D info idc succ (npB n), lsR D succ (slD n D)])
    (F : Fm h₀ NoX s₀ (lawEnv L fa cd) [("script", .ref l), ("width", .int (n : Nat) t), ("sizes", .ref lz), ("due", .ref ld), ("heap", .ref lh), ("falling", .ref lf), ("holds", .ref hd), ("sorter", .ref T), ("rounds", .ref lr), ("words", .ref wd')]
        [dicR (intKind prog w) wd' [], listR lr [], listR rl vr, dicR (intKind prog w) dd (nk D info), insR w 151 T dx (tsF dd (.ref rl) 0 0 t1 t2), irR D info idc succ (npB n), lsR D succ (slD n D), lsR f ad (rowO n), dicR (intKind prog w) hd (nk f ad), listR lf vf, listR lh [], listR ld vd, tI oc, tJ none] s)
    (h : ∀ s' k Ts rvs kvs, rb n D k = D.length → (∀ j, j < k → rb n D j < D.length) → (Ts.map fun (q : Addr × List Nat) => q.2) = (List.range k).map (fun j => (D.take (rb n D (j + 1))).drop (rb n D j)) → rvs = Ts.map (fun (q : Addr × List Nat) => Value.ref q.1) → Mp (wdC n) kvs D →
      Fm h₀ NoX s₀ (lawEnv L fa cd) [("script", .ref l), ("width", .int (n : Nat) t), ("sizes", .ref lz), ("due", .ref ld), ("heap", .ref lh), ("falling", .ref lf), ("holds", .ref hd), ("rounds", .ref lr), ("words", .ref wd')]
        [dicR (intKind prog w) wd' kvs, listR lr rvs, tpR Ts, lsR f ad (rowO n), dicR (intKind prog w) hd (nk f ad), listR lf vf, listR lh [], listR ld vd, tI oc, tJ none] s' →
        wpAny (model prog w) A (execs (lw 14) (lawEnv L fa cd)) Q E s') :
    wpAny (model prog w) A (execs (lw 13) (lawEnv L fa cd)) Q E s := by
  have S0 := sc_law B L fa cd
  have K120 := fn_act B
  have K113 := fn_rdy B
  have hd' := a.depth
  have hDl := d.len
  have hn1 := d.n1
  obtain ⟨c1, c2, c3, c4, c5⟩ := cel_law hc
  have hfm : ∀ x, x ∈ f ↔ x ∈ D := fun x => by rw [hf]; exact List.mem_reverse
  have hfn : f.Nodup := by rw [hf]; exact (List.reverse_perm D).nodup_iff.mpr d.nd
  have F0 := F.addL (new := [tpR []]) (.refl _) (by intro r hr a f; rw [List.mem_singleton.mp hr] at f; cases f) (by intro r hr; rw [List.mem_singleton.mp hr]; exact ⟨.nil, fun q hq => nomatch hq⟩) (List.pairwise_singleton _ _)
  simp only [List.cons_append, List.nil_append] at F0
  refine x_while (fun m s' => E9 fun p k np t1' t2' vr rvs Ts kvs => p = rb n D k ∧ (∀ j, j < k → rb n D j < D.length) ∧ k ≤ p ∧ (∀ y ∈ D, y ∉ D.take p → np y = ((cnt n D p y : Nat) : Int)) ∧ IntsAre vr (asI ((D.take (en n D p)).drop p)) ∧
      (Ts.map fun (q : Addr × List Nat) => q.2) = (List.range k).map (fun j => (D.take (rb n D (j + 1))).drop (rb n D j)) ∧ rvs = Ts.map (fun (q : Addr × List Nat) => Value.ref q.1) ∧ Mp (wdC n) kvs (D.take p) ∧ m = D.length - p ∧
      WrAll NoX s₀ [listR rl vr, dicR (intKind prog w) dd (nk D info), insR w 151 T dx (tsF dd (.ref rl) (p : Int) (p : Int) t1' t2'), irR D info idc succ np, lsR D succ (slD n D)] ∧
      Fm h₀ NoX s₀ (lawEnv L fa cd) [("script", .ref l), ("width", .int (n : Nat) t), ("sizes", .ref lz), ("due", .ref ld), ("heap", .ref lh), ("falling", .ref lf), ("holds", .ref hd), ("sorter", .ref T), ("rounds", .ref lr), ("words", .ref wd')]
        [dicR (intKind prog w) wd' kvs, listR lr rvs, tpR Ts, listR rl vr, dicR (intKind prog w) dd (nk D info), insR w 151 T dx (tsF dd (.ref rl) (p : Int) (p : Int) t1' t2'), irR D info idc succ np, lsR D succ (slD n D), lsR f ad (rowO n), dicR (intKind prog w) hd (nk f ad), listR lf vf, listR lh [], listR ld vd, tI oc, tJ none] s') D.length
    ⟨0, 0, npB n, t1, t2, vr, [], [], [], rfl, (fun j hj => absurd hj (Nat.not_lt_zero j)), Nat.le_refl _, (fun y _ _ => by rw [cnt_first]), hvr, rfl, rfl, Mp.nil _, rfl, hW, F0.pick (m := [dicR (intKind prog w) wd' [], listR lr [], tpR [], listR rl vr, dicR (intKind prog w) dd (nk D info), insR w 151 T dx (tsF dd (.ref rl) 0 0 t1 t2), irR D info idc succ (npB n), lsR D succ (slD n D), lsR f ad (rowO n), dicR (intKind prog w) hd (nk f ad), listR lf vf, listR lh [], listR ld vd, tI oc, tJ none]) (by kd_subs)⟩ ?_
  intro m s1
  (repeat (first | (with_reducible refine WithL.in fun _ _ _ _ => ?_) | (with_reducible refine WithE.in fun _ _ _ => ?_)))
  rintro ⟨p, k, np, t1', t2', vr, rvs, Ts, kvs, hp, hjs, hkp, hnp, hvr, hTs, hrv, hM, hm, hW, F1⟩
  have hpl : p ≤ D.length := by rw [hp]; exact rb_le hn1 d.rise d.cl k
  have hel := en_le (n := n) (D := D) p
  have hvl := hvr.length
  rw [asI_len, List.length_drop, List.length_take] at hvl
  refine PyProof.Rows.isTrue_plain ?_
  kfm_turns
  refine meth_ins B F1 (by kqd_in) (mth_act P) (by kernel_rfl) ?_
  kfm_turns
  refine act_ok B (show A.depth < 890 by lia) (F1.pick (m := [insR w 151 T dx (tsF dd (.ref rl) (p : Int) (p : Int) t1' t2'), listR rl vr]) (by kd_subs) |>.hands (.refl _)) (by lia) ?_
  intro s2 m2
  have F2 := F1.keep m2
  kfm_turns
  refine if_bool (fun c => ?_) (fun c => ?_)
  · have hne : vr ≠ [] := fun e => by subst e; simp at c
    have hvpos : 0 < vr.length := List.length_pos_iff.mpr hne
    have hpe : p < en n D p := by lia
    kfm_turns
    refine meth_ins B F2 (by kqd_in) (mth_rdy P) (by kernel_rfl) ?_
    kfm_turns
    refine rdy_ok (R := (D.take (en n D p)).drop p) (np := np) (D := D) B (show A.depth < 890 by lia) a.han (F2.pick (m := [dicR (intKind prog w) dd (nk D info), insR w 151 T dx (tsF dd (.ref rl) (p : Int) (p : Int) t1' t2'), irR D info idc succ np, listR rl vr]) (by kd_subs) |>.hands (.refl _))
      (fun x hx => List.mem_of_mem_take (List.mem_of_mem_drop hx)) hvr (by rw [List.length_drop, List.length_take]; lia) ?_
    intro s3 Tr t1'' hTr nx
    obtain ⟨F3, W3⟩ := F2.nxW nx (by kd_subs) (by
      intro r hr a f
      rcases List.mem_cons.mp hr with rfl | hr
      · exact hW _ (by simp) a f
      rcases List.mem_cons.mp hr with rfl | hr
      · exact hW _ (by simp) a f
      rcases List.mem_cons.mp hr with rfl | hr
      · exact hW _ (by simp) a f
      · rw [List.mem_singleton.mp hr] at f; exact hW _ (by simp) a f)
    simp only [List.cons_append, List.nil_append] at F3
    have hTr0 := F2.mod.none_of hTr
    kfm_turns
    refine meth_list (by assumption) (l := lr) (xs := rvs) (by kqd_in) PySem.F.slot_list_append PySem.F.type_list_append ?_
    kfm_turns
    have hrl : rvs.length = k := by
      have := congrArg List.length hTs
      rw [List.length_map, List.length_map, List.length_range] at this
      rw [hrv, List.length_map]; exact this
    refine app_list (l := lr) (xs := rvs) (by assumption) (by kd_subs) (.inr hlr) (by lia) ?_; intro s4 F4
    kfm_turns
    refine x_for ?_
    kfm_turns
    refine it_tup F4 (l := Tr) (xs := vr) (by kqd_in) ?_; intro I s5 hI hIT F5
    have hRl : ((D.take (en n D p)).drop p).length = vr.length := by rw [List.length_drop, List.length_take]; lia
    refine ⟨fun m s' => E2 fun i kvs => i + m = vr.length ∧ Mp (wdC n) kvs (D.take (p + i)) ∧
      Fm h₀ NoX s₀ (lawEnv L fa cd) [("script", .ref l), ("width", .int (n : Nat) t), ("sizes", .ref lz), ("due", .ref ld), ("heap", .ref lh), ("falling", .ref lf), ("holds", .ref hd), ("sorter", .ref T), ("rounds", .ref lr), ("words", .ref wd'), ("ready", .ref Tr)]
        [tiR I Tr i, tupR Tr vr, dicR (intKind prog w) dd (nk D info), insR w 151 T dx (tsF dd (.ref rl) (p + ((D.take (en n D p)).drop p).length) (p : Int) t1'' t2'), irR D info idc succ (setAll np ((D.take (en n D p)).drop p) (-1)), listR rl [],
          dicR (intKind prog w) wd' kvs, listR lr (rvs ++ [Value.ref Tr]), tpR Ts, lsR D succ (slD n D), lsR f ad (rowO n), dicR (intKind prog w) hd (nk f ad), listR lf vf, listR lh [], listR ld vd, tI oc, tJ none] s', vr.length,
      ⟨0, kvs, by lia, hM, F5⟩, ?_⟩
    intro m' s6
    (repeat (first | (with_reducible refine WithL.in fun _ _ _ _ => ?_) | (with_reducible refine WithE.in fun _ _ _ => ?_)))
    rintro ⟨i, kvs, him, hM, F6⟩
    by_cases hm' : m' = 0
    · have hi : i = vr.length := by lia
      subst hi
      refine nd_tup a.han F6 (by kqd_in) hIT .hit hI ?_; intro s7 F7
      show wpAny _ _ (execs [] _) _ _ _
      kfm_turns
      refine ev_methS ?_
      kfm_turns
      refine at_bound B F7 (by kqd_in) (mth_done P) (bnd_done P) (by kernel_rfl) ?_; intro q s8 hq F8
      refine cw_bstar (P := P) (T := T) (bnd_done P) ?_
      kfm_turns
      refine star_tup F8 (l := Tr) (xs := vr) (by kqd_in) (by lia) ?_; intro s9 F9
      refine ⟨⟨F9.rg (bmR q 134 T) (by kqd_in), F9.kin B⟩, ?_⟩
      refine call_bound F9 (by kqd_in) ?_
      have hRmem : ∀ x ∈ (D.take (en n D p)).drop p, x ∈ D ∧ x ∉ D.take p ∧ x ∈ D.take (en n D p) := fun x hx => by
        have h1 := List.mem_of_mem_drop hx
        refine ⟨List.mem_of_mem_take h1, fun q => ?_, h1⟩
        have nd := (List.take_sublist (en n D p) D).nodup d.nd
        have e := List.take_append_drop p (D.take (en n D p))
        rw [List.take_take, Nat.min_eq_left (by lia)] at e
        rw [← e] at nd
        exact (List.nodup_append.mp nd).2.2 x q x hx rfl
      refine done_ok (R := (D.take (en n D p)).drop p) (rd := []) (np := setAll np ((D.take (en n D p)).drop p) (-1)) (D := D) (sl := slD n D) (succ := succ) (idc := idc) (info := info) (dx := dx) (d := dd) (rl := rl) (po := p + ((D.take (en n D p)).drop p).length) (nf := p) (t1 := t1'') (t2 := t2') (vs := []) (ps := vr) B (show A.depth < 890 by lia) a.han
        (F9.pick (m := [dicR (intKind prog w) dd (nk D info), insR w 151 T dx (tsF dd (.ref rl) (p + ((D.take (en n D p)).drop p).length) (p : Int) t1'' t2'), irR D info idc succ (setAll np ((D.take (en n D p)).drop p) (-1)), lsR D succ (slD n D), listR rl []]) (by kd_subs) |>.hands (.refl _))
        d.nd (fun x hx => (hRmem x hx).1) (((List.drop_sublist _ _).trans (List.take_sublist _ _)).nodup d.nd) (fun x hx => if_pos hx) (fun x hx y hy => ?_) .nil hvr (by lia) (fun x hx => ?_) ?_ ?_
      · obtain ⟨h1, h2⟩ := slD_mem.mp hy
        refine ⟨h1, fun hyR => ?_⟩
        have := (hRmem y hyR).2.2
        rw [en_pre hn1 d.rise d.cl, List.mem_filter] at this
        exact (hRmem x hx).2.1 (cnt_zero.mp (of_decide_eq_true this.2) x h2)
      · have := slD_len (n := n) (P := D) (x := x) (M := 11) fun y hy => d.bagLen hy
        lia
      · have h1 : ∀ x, (slD n D x).length ≤ 165 := fun x => by
          have := slD_len (n := n) (P := D) (x := x) (M := 11) fun y hy => d.bagLen hy
          lia
        have h2 : ∀ R : List Nat, (R.map fun x => (slD n D x).length).sum ≤ R.length * 165 := fun R => by
          induction R with
          | nil => simp
          | cons a r ih => have := h1 a; rw [List.map_cons, List.sum_cons, List.length_cons, Nat.succ_mul]; lia
        have := h2 ((D.take (en n D p)).drop p)
        rw [List.length_nil]
        lia
      · intro s10 t2'' vs' hvs' nx2
        obtain ⟨F10, W10⟩ := F9.nxW nx2 (by kd_subs) (by
          intro r hr a f
          rcases List.mem_cons.mp hr with rfl | hr
          · exact W3 _ (by simp) a f
          rcases List.mem_cons.mp hr with rfl | hr
          · exact W3 _ (by simp) a f
          rcases List.mem_cons.mp hr with rfl | hr
          · exact W3 _ (by simp) a f
          rcases List.mem_cons.mp hr with rfl | hr
          · exact hW _ (by simp) a f
          · rw [List.mem_singleton.mp hr] at f; exact W3 _ (by simp) a f)
        simp only [List.cons_append, List.nil_append] at F10
        have hee : (p : Int) + (((D.take (en n D p)).drop p).length : Nat) = ((en n D p : Nat) : Int) := by lia
        rw [hee] at F10 W10
        have F11 := F10.tpPush (T := Tr) (Ts := Ts) (by kd_subs) hvr (by kd_subs)
        obtain ⟨r1, r2⟩ := done_run hn1 d.rise d.cl (p := p) (np := setAll np ((D.take (en n D p)).drop p) (-1)) hpl (fun y hy hyn => by
          show (if y ∈ (D.take (en n D p)).drop p then (-1 : Int) else np y) = _
          rw [if_neg (fun q => hyn (List.mem_of_mem_drop q))]
          exact hnp y hy fun q => hyn (List.take_subset_take_left D (by lia) q)) (by lia)
        rw [r2] at hvs'
        show wpAny _ _ (execs [] _) _ _ _
        kfm_turns
        refine ⟨D.length - en n D p, by lia, en n D p, k + 1, _, t1'', t2'', vs', rvs ++ [Value.ref Tr], Ts ++ [(Tr, (D.take (en n D p)).drop p)], kvs, ?_, ?_, by lia, r1, hvs', ?_, ?_, ?_, rfl, ?_, Fm.locsub (F11.pick (by kd_subs)) (by k_subL)⟩
        · show en n D p = en n D (rb n D k); rw [hp]
        · intro j hj
          rcases Nat.lt_succ_iff_lt_or_eq.mp hj with q | rfl
          · exact hjs j q
          · rw [← hp]; lia
        · rw [List.map_append, hTs, List.range_succ, List.map_append]
          show _ ++ [(D.take (en n D p)).drop p] = _ ++ [(D.take (en n D (rb n D k))).drop (rb n D k)]
          rw [← hp]
        · rw [List.map_append, hrv]; rfl
        · rw [show p + vr.length = en n D p by lia] at hM; exact hM
        · intro r hr a f
          rcases List.mem_cons.mp hr with rfl | hr
          · exact W10 _ (by simp) a f
          rcases List.mem_cons.mp hr with rfl | hr
          · exact W10 _ (by simp) a f
          rcases List.mem_cons.mp hr with rfl | hr
          · exact W10 _ (by simp) a f
          rcases List.mem_cons.mp hr with rfl | hr
          · exact W10 _ (by simp) a f
          · rw [List.mem_singleton.mp hr] at f; exact W10 _ (by simp) a f
    · obtain ⟨x, hx⟩ : ∃ x, D[p + i]? = some x := ⟨_, List.getElem?_eq_getElem (show p + i < D.length by lia)⟩
      have hxD : x ∈ D := List.mem_of_getElem? hx
      have hxR : ((D.take (en n D p)).drop p)[i]? = some x := by rw [List.getElem?_drop, List.getElem?_take, if_pos (by lia)]; exact hx
      have hbp : ∀ q ∈ bag n x, q ∈ D.take p := by
        have : x ∈ D.take (en n D p) := List.mem_of_mem_drop (List.mem_of_getElem? hxR)
        rw [en_pre hn1 d.rise d.cl, List.mem_filter] at this
        exact cnt_zero.mp (of_decide_eq_true this.2)
      have htk : D.take (p + i + 1) = D.take (p + i) ++ [x] := by rw [List.take_succ, hx]; rfl
      have hxn : x ∉ D.take (p + i) := fun q => by
        have nd := d.nd
        have e := (List.take_sublist (p + i + 1) D).nodup nd
        rw [htk] at e
        exact (List.nodup_append.mp e).2.2 x q x (by simp) rfl
      obtain ⟨tx, htx⟩ := ints_at hvr (i := i) (n := (x : Int)) (by rw [asI, List.getElem?_map, hxR]; rfl)
      refine nx_tup (i := i) a.han F6 (by kqd_in) hIT (by lia) .hit hI ?_; intro v s7 hv F7
      rw [htx] at hv
      cases hv
      kfm_turns
      refine getMethod_builtin (typeIs_str _ _ _) PySem.F.plainAttrs_str PySem.F.slot_str_join PySem.F.type_str_join (fun _ e => nomatch e) ?_
      kfm_turns
      refine ev_comp (cl := [("words", L + 1 + 1)]) (h₀ := h₀) (X := NoX) (s₀ := s₀) (by decide) rfl (by decide) ?_ (by kernel_rfl)
      kfm_turns
      rename_i s8 F8
      refine sub_int F8 (d := hd) (by kqd_in) (nk_in ((hfm x).mpr hxD)) ?_; intro s9 F9
      obtain ⟨rv, hrl2, hri⟩ := F9.lsGet (D := f) (ad := ad) (ct := rowO n) (by kqd_in) ((hfm x).mpr hxD)
      refine ev_slc ?_
      refine ep_none ?_
      refine ep_none ?_
      refine ep_some ?_
      kfm_turns
      refine nl_slc (by assumption) ?_; intro sl s10 hsl F10
      obtain ⟨rv, hrl2, hri⟩ := F10.lsGet (D := f) (ad := ad) (ct := rowO n) (by kqd_in) ((hfm x).mpr hxD)
      have hrvl := hri.length
      rw [asI_len, List.length_reverse] at hrvl
      have hbl := d.bagLen hxD
      refine sub_slc F10 hrl2 (by kqd_in) .none .none (.int _ _) (by simp) (by lia) ?_; intro lb s11 hlb F11
      rw [rev_pick] at F11
      have hrv2 : IntsAre rv.reverse (asI (bag n x)) := by
        have := ints_rev hri
        rw [show (asI (rowO n x)).reverse = asI (bag n x) by simp [asI, rowO]] at this
        exact this
      have hrvl2 : rv.reverse.length = (bag n x).length := by rw [List.length_reverse]; exact hrvl
      refine ⟨_, [("words", .ref wd')], _, _, fun Dl new => s11.heap.get? Dl = none ∧ ∃ ys, new = [listR Dl ys] ∧ ys.length = rv.reverse.length ∧ ∀ (i : Nat) (y : Value), ys[i]? = some y → WdAt n (bag n x) i y, F11,
        cap1 (by kernel_rfl) (by kernel_rfl) (by kqd_in) (by rw [c2.1]; decide) (by kernel_rfl) (by decide), iters_list (xs := rv.reverse) F11 (by kqd_in), ?_, ?_⟩
      · intro Dl J C s12 hDl hJ F12
        have S12 := F12.sc (ls := ["place"]) (gs := []) B (by kernel_rfl) (by kernel_rfl) (by kernel_rfl) (by kernel_rfl)
        have hJl : J ≠ lb := fun e => by
          obtain ⟨_, ⟨o, e'⟩, _⟩ := F11.rd (listR lb rv.reverse) (by kqd_in) lb rfl
          rw [e, e'] at hJ; cases hJ
        refine loop_list (WdAt n (bag n x)) a.han F12 S12 (xs := rv.reverse) (by kqd_in) hJ hDl hJl (by intro p hp; rw [List.mem_singleton.mp hp]; show ("words" : Str) ≠ "place"; decide) (by lia) ?_
        intro i2 v ys s13 Q' hv F13 hq
        simp only [List.cons_append, List.nil_append] at F13 hq
        obtain ⟨q, hq2⟩ : ∃ q, (bag n x)[i2]? = some q := by
          have : i2 < rv.reverse.length := by
            rcases Nat.lt_or_ge i2 rv.reverse.length with c | c
            · exact c
            · rw [List.getElem?_eq_none c] at hv; cases hv
          exact ⟨_, List.getElem?_eq_getElem (show i2 < (bag n x).length by lia)⟩
        have hqb : q ∈ bag n x := List.mem_of_getElem? hq2
        obtain ⟨tq, htq⟩ := ints_at hrv2 (i := i2) (n := (q : Int)) (by rw [asI, List.getElem?_map, hq2]; rfl)
        rw [htq] at hv
        cases hv
        obtain ⟨wv, hw1, hw2⟩ := hM.at' q (List.take_subset_take_left D (Nat.le_add_right p i) (hbp q hqb))
        kfm_turns
        refine meth_dic (d := wd') F13 (by kqd_in) PySem.F.slot_dict_get PySem.F.type_dict_get ?_
        kfm_turns
        refine get2_dic (d := wd') (k := (q : Int)) (by assumption) (by kqd_in) (intKind_is _ _ _ _) ?_; intro s14 F14
        rw [hw1, Option.getD_some]
        exact hq _ _ ⟨q, hq2, hw2⟩ F14
      · rintro Dl new s12 ⟨hDl, ys, rfl, hyl, hys⟩ F12
        simp only [List.cons_append, List.nil_append] at F12
        have hst := strs_of (n := n) (ys := ys) (ps := bag n x) (by rw [hyl, hrvl2]) hys
        have hfl := wd_len_D hn1 (fun q hq => d.small hxD hq) hbl
        kfm_turns
        refine op_join F12 (by kqd_in) hst (by decide) (by rw [fl_len, List.length_map]; lia) ?_; intro tj s13 F13
        rw [se_eq, join_wd]
        kfm_turns
        rw [s1_eq]
        refine op_addS F13 (by rw [mkS_len, mkS_len]; simp only [List.length_cons, List.length_nil]; lia) ?_; intro ta s14 F14
        rw [mkS_app]
        kfm_turns
        rw [s0_eq]
        refine op_addS (by assumption) (by rw [mkS_len, mkS_len]; simp only [List.length_cons, List.length_nil, List.length_append]; lia) ?_; intro tb s15 F15
        rw [mkS_app, show [49] ++ (bag n x).flatMap (wd n) ++ [48] = wd n x from (wd_rec hn1 x).symm]
        kfm_turns
        have hML := hM.len
        rw [List.length_take] at hML
        refine set_dic (d := wd') (k := (x : Int)) F15 (by kd_subs) (.inr hwd) (intKind_is _ _ _ _) (by lia) ?_; intro s16 F16
        kfm_turns
        refine ⟨vr.length - (i + 1), by lia, i + 1, _, by lia, ?_, Fm.locsub (F16.pick (by kd_subs)) (by k_subL)⟩
        have := hM.store hxn (v := .str (mkS (wd n x)) tb) ⟨tb, rfl⟩
        rw [← htk] at this
        exact this
  · have hv0 : vr = [] := by
      rcases vr with _ | ⟨x, y⟩
      · rfl
      · simp at c
    subst hv0
    have hpD : p = D.length := by
      apply Classical.byContradiction
      intro q
      have := en_succ hn1 d.rise d.cl (show p < D.length by lia)
      simp only [List.length_nil] at hvl
      lia
    refine x_nil ?_
    first | (with_reducible refine (by assumption : ToN _ _) _ _ (by first | exact Nx.n | exact Nx.c) ?_) | (with_reducible refine (by assumption : ToF _ _ _) _ ?_)
    rw [hpD, List.take_length] at hM
    exact h s2 k Ts rvs kvs (hp ▸ hpD) hjs hTs hrv hM (Fm.locsub (F2.sub (by k_subL)) (by k_subL))
end
end
end

section -- L11
open PySem PySem.Calls PySem.W PyProof.Rows
set_option Elab.async false
set_option maxRecDepth 100000
set_option linter.unusedVariables false
noncomputable section



noncomputable def dpC (n x : Nat) (v : Value) : Prop := ∃ t, v = Value.int ((dp n x : Nat) : Int) t
noncomputable def CAt (c : Nat → Value → Prop) (ps : List Nat) (i : Nat) (y : Value) : Prop := ∃ q, ps[i]? = some q ∧ c q y
theorem dps_of {n : Nat} {ys : List Value} {ps : List Nat} (hl : ys.length = ps.length) (h : ∀ (i : Nat) (y : Value), ys[i]? = some y → CAt (dpC n) ps i y) : IntsAre ys (asI (ps.map (dp n))) :=
  ints_of (by rw [asI_len, List.length_map, hl]) fun i v hv => by
    obtain ⟨q, h1, t, rfl⟩ := h i v hv
    exact ⟨_, t, by rw [asI, List.getElem?_map, List.getElem?_map, h1]; rfl, rfl⟩
theorem dp_max {n x : Nat} (hn : 1 ≤ n) {M : Int} (h1 : M ∈ (-1 : Int) :: asI ((bag n x).map (dp n))) (h2 : ∀ a, a ∈ (-1 : Int) :: asI ((bag n x).map (dp n)) → a ≤ M) : 1 + M = ((dp n x : Nat) : Int) := by
  have hm1 := h2 (-1) (.head _)
  have hle : dp n x ≤ (1 + M).toNat := (dp_le hn).mpr fun p hp => by
    have := h2 ((dp n p : Nat) : Int) (.tail _ (asI_mem.mpr (List.mem_map.mpr ⟨p, hp, rfl⟩)))
    lia
  have hge : (1 + M).toNat ≤ dp n x := by
    rcases List.mem_cons.mp h1 with e | m
    · rw [e]; simp
    · obtain ⟨k, hk, e⟩ := List.mem_map.mp m
      obtain ⟨q, hq, rfl⟩ := List.mem_map.mp hk
      have := (dp_le hn).mp (Nat.le_refl (dp n x)) q hq
      lia
  lia

set_option maxHeartbeats 16000000
section
variable {prog : Program} {w : World} {P : Params} {h₀ : Heap} {A : Around} {E : Value → Shared → Prop} {s₀ s : Shared} {L fa : Addr} {cd : Value} {l lz ld lh lf hd lr wd' : Addr} {vf vd rvs : List Value} {kvs : List (Int × Value)} {Ts : List (Addr × List Nat)} {S D f : List Nat} {n : Nat} {t : Tok} {ad : Nat → Addr} {oc : Option Addr} {Q : Flow → Shared → Prop}
theorem segH (B : Base P h₀) (a : Amb A) (hc : ∀ p ∈ (lawEnv L fa cd).cells, s₀.heap.get? p.2 = none) (d : Dt n S D) (hvd : IntsAre vd (asI D))
    (F : Fm h₀ NoX s₀ (lawEnv L fa cd) [("script", .ref l), ("width", .int (n : Nat) t), ("sizes", .ref lz), ("due", .ref ld), ("heap", .ref lh), ("falling", .ref lf), ("holds", .ref hd), ("rounds", .ref lr), ("words", .ref wd')]
        [dicR (intKind prog w) wd' kvs, listR lr rvs, tpR Ts, lsR f ad (rowO n), dicR (intKind prog w) hd (nk f ad), listR lf vf, listR lh [], listR ld vd, tI oc, tJ none] s)
    (h : ∀ s' ddp dwn kd kw, s₀.heap.get? ddp = none → s₀.heap.get? dwn = none → Mp (dpC n) kd D → Mp (wdC n) kw D →
      Fm h₀ NoX s₀ (lawEnv L fa cd) [("width", .int (n : Nat) t), ("due", .ref ld), ("falling", .ref lf), ("rounds", .ref lr), ("words", .ref wd'), ("depths", .ref ddp), ("wanted", .ref dwn)]
        [dicR (intKind prog w) ddp kd, dicR (intKind prog w) dwn kw, dicR (intKind prog w) wd' kvs, listR lr rvs, tpR Ts, listR lf vf, listR ld vd, tI oc, tJ none] s' →
        wpAny (model prog w) A (execs (lw 17) (lawEnv L fa cd)) Q E s') :
    wpAny (model prog w) A (execs (lw 14) (lawEnv L fa cd)) Q E s := by
  have S0 := sc_law B L fa cd
  have K204 := fn_bag B
  have hd' := a.depth
  have hDl := d.len
  have hn1 := d.n1
  obtain ⟨c1, c2, c3, c4, c5⟩ := cel_law hc
  have hvdl := hvd.length
  rw [asI_len] at hvdl
  have F0 := Fm.locsub (loc' := [("width", .int (n : Nat) t), ("due", .ref ld), ("falling", .ref lf), ("rounds", .ref lr), ("words", .ref wd')]) (F.pick (m := [dicR (intKind prog w) wd' kvs, listR lr rvs, tpR Ts, listR lf vf, listR ld vd, tI oc, tJ none]) (by kd_subs)) (by k_subL)
  clear F
  refine x_assign ?_
  refine ev_dicE (intKind prog w) B.three F0 ?_; intro ddp s1 hdp F1
  refine st_cel F1 c3 (by kqd_sub) ?_; intro s2 F2
  refine x_assign ?_
  refine ev_dicE (intKind prog w) B.three F2 ?_; intro dwn s3 hwn F3
  refine st_cel F3 c4 (by kqd_sub) ?_; intro s4 F4
  refine x_for ?_
  kfm_turns
  refine it_list F4 (l := ld) (xs := vd) (by kqd_in) ?_; intro I s5 hI hIl F5
  refine ⟨fun m s' => E3 fun i kd kw => i + m = D.length ∧ Mp (dpC n) kd (D.take i) ∧ Mp (wdC n) kw (D.take i) ∧
    Fm h₀ NoX s₀ (lawEnv L fa cd) [("width", .int (n : Nat) t), ("due", .ref ld), ("falling", .ref lf), ("rounds", .ref lr), ("words", .ref wd'), ("depths", .ref ddp), ("wanted", .ref dwn)]
      [liR I ld i, dicR (intKind prog w) ddp kd, dicR (intKind prog w) dwn kw, dicR (intKind prog w) wd' kvs, listR lr rvs, tpR Ts, listR lf vf, listR ld vd, tI oc, tJ none] s',
    D.length, ⟨0, [], [], by lia, Mp.nil _, Mp.nil _, F5.pick (by kd_subs)⟩, ?_⟩
  intro m s6
  (repeat (first | (with_reducible refine WithL.in fun _ _ _ _ => ?_) | (with_reducible refine WithE.in fun _ _ _ => ?_)))
  rintro ⟨i, kd, kw, him, hMd, hMw, F6⟩
  by_cases hm : m = 0
  · have hi : i = vd.length := by lia
    subst hi
    refine nd_list a.han F6 (by kqd_in) hIl .hit hI ?_; intro s7 F7
    rw [hvdl, List.take_length] at hMd hMw
    show wpAny _ _ (execs [] _) _ _ _
    refine x_nil ?_
    first | (with_reducible refine (by assumption : ToN _ _) _ _ (by first | exact Nx.n | exact Nx.c) ?_) | (with_reducible refine (by assumption : ToF _ _ _) _ ?_)
    exact h s7 ddp dwn kd kw hdp hwn hMd hMw F7
  · obtain ⟨x, hx⟩ : ∃ x, D[i]? = some x := ⟨_, List.getElem?_eq_getElem (show i < D.length by lia)⟩
    have hxD : x ∈ D := List.mem_of_getElem? hx
    have htk : D.take (i + 1) = D.take i ++ [x] := by rw [List.take_succ, hx]; rfl
    have hxn : x ∉ D.take i := fun q => by
      have e := (List.take_sublist (i + 1) D).nodup d.nd
      rw [htk] at e
      exact (List.nodup_append.mp e).2.2 x q x (by simp) rfl
    have hbp : ∀ q ∈ bag n x, q ∈ D.take i := fun q hq => tk_lt d.rise (d.cl x hxD q hq) (by rw [htk]; simp) (bag_lt hn1 hq)
    have hbl := d.bagLen hxD
    obtain ⟨tx, htx⟩ := ints_at hvd (i := i) (n := (x : Int)) (by rw [asI, List.getElem?_map, hx]; rfl)
    refine nx_list (i := i) a.han F6 (by kqd_in) hIl (by lia) .hit hI ?_; intro v s7 hv F7
    rw [htx] at hv
    cases hv
    kfm_turns
    rename_i s8 F8
    refine bag_ok B (show A.depth < 900 by lia) F8.base hn1 d.n3 (Nat.le_trans hbl (by decide)) ?_
    intro s9 lb vb m9 hlb H9 hvb
    have F9 := F8.gotL m9 H9 (fun r hr a f => by rw [List.mem_singleton.mp hr] at f; rw [show a = lb from f]; exact hlb)
    simp only [List.cons_append, List.nil_append] at F9
    have hvbl : vb.length = (bag n x).length := by
      have := hvb.length
      rw [asI_len] at this
      exact this
    kfm_turns
    refine ev_list ?_
    kfm_turns
    refine nl_list (by assumption) (by simp) ?_; intro l1 s10 hl1 F10
    refine ev_comp (cl := [("depths", L + 1 + 1 + 1)]) (h₀ := h₀) (X := NoX) (s₀ := s₀) (by decide) rfl (by decide) ?_ (by kernel_rfl)
    kfm_turns
    refine ⟨_, [("depths", .ref ddp)], _, _, fun Dl new => s10.heap.get? Dl = none ∧ ∃ ys, new = [listR Dl ys] ∧ ys.length = vb.length ∧ ∀ (i : Nat) (y : Value), ys[i]? = some y → CAt (dpC n) (bag n x) i y, F10,
      cap1 (by kernel_rfl) (by kernel_rfl) (by kqd_in) (by rw [c3.1]; decide) (by kernel_rfl) (by decide), iters_list (xs := vb) F10 (by kqd_in), ?_, ?_⟩
    · intro Dl J C s12 hDl hJ F12
      have S12 := F12.sc (ls := ["place"]) (gs := []) B (by kernel_rfl) (by kernel_rfl) (by kernel_rfl) (by kernel_rfl)
      have hJl : J ≠ lb := fun e => by
        obtain ⟨_, ⟨o, e'⟩, _⟩ := F10.rd (listR lb vb) (by kqd_in) lb rfl
        rw [e, e'] at hJ; cases hJ
      refine loop_list (CAt (dpC n) (bag n x)) a.han F12 S12 (xs := vb) (by kqd_in) hJ hDl hJl (by intro p hp; rw [List.mem_singleton.mp hp]; show ("depths" : Str) ≠ "place"; decide) (by lia) ?_
      intro i2 v ys s13 Q' hv F13 hq
      simp only [List.cons_append, List.nil_append] at F13 hq
      obtain ⟨q, hq2⟩ : ∃ q, (bag n x)[i2]? = some q := by
        have : i2 < vb.length := by
          rcases Nat.lt_or_ge i2 vb.length with c | c
          · exact c
          · rw [List.getElem?_eq_none c] at hv; cases hv
        exact ⟨_, List.getElem?_eq_getElem (show i2 < (bag n x).length by lia)⟩
      obtain ⟨tq, htq⟩ := ints_at hvb (i := i2) (n := (q : Int)) (by rw [asI, List.getElem?_map, hq2]; rfl)
      rw [htq] at hv
      cases hv
      obtain ⟨wv, hw1, hw2⟩ := hMd.at' q (hbp q (List.mem_of_getElem? hq2))
      kfm_turns
      refine sub_int (d := ddp) (by assumption) (by kqd_in) hw1 ?_; intro s14 F14
      exact hq _ _ ⟨q, hq2, hw2⟩ F14
    · rintro Dl new s12 ⟨hDl, ys, rfl, hyl, hys⟩ F12
      simp only [List.cons_append, List.nil_append] at F12
      have hyi := dps_of (n := n) (ys := ys) (ps := bag n x) (by rw [hyl, hvbl]) hys
      kfm_turns
      refine op_addL F12 (by kqd_in) (by kqd_in) (by simp; lia) ?_; intro l2 s13 hl2 F13
      simp only [List.cons_append, List.nil_append] at F13
      refine op_max1 a.han F13 (ns := (-1 : Int) :: asI ((bag n x).map (dp n))) (by kqd_in) (.cons _ _ hyi) (by simp) ?_; intro M tM s14 F14 hM1 hM2
      kfm_turns
      rename_i tm s15 F15
      rw [dp_max hn1 hM1 hM2]
      have hMdl := hMd.len
      rw [List.length_take] at hMdl
      refine set_dic (d := ddp) (k := (x : Int)) F15 (by kd_subs) (.inr hdp) (intKind_is _ _ _ _) (by lia) ?_; intro s16 F16
      have hMd2 := hMd.store hxn (v := .int ((dp n x : Nat) : Int) tm) ⟨tm, rfl⟩
      rw [← htk] at hMd2
      kfm_turns
      refine getMethod_builtin (typeIs_str _ _ _) PySem.F.plainAttrs_str PySem.F.slot_str_join PySem.F.type_str_join (fun _ e => nomatch e) ?_
      kfm_turns
      rename_i s17 F17
      have F17 := F17.pick (m := [listR lb vb, liR I ld (i + 1), dicR (intKind prog w) ddp (stored kd (x : Int) (.int ((dp n x : Nat) : Int) tm)), dicR (intKind prog w) dwn kw, dicR (intKind prog w) wd' kvs, listR lr rvs, tpR Ts, listR lf vf, listR ld vd, tI oc, tJ none]) (by kd_subs)
      refine ev_comp (cl := [("wanted", L + 1 + 1 + 1 + 1)]) (h₀ := h₀) (X := NoX) (s₀ := s₀) (by decide) rfl (by decide) ?_ (by kernel_rfl)
      kfm_turns
      refine ⟨_, [("wanted", .ref dwn)], _, _, fun Dl new => s17.heap.get? Dl = none ∧ ∃ ys, new = [listR Dl ys] ∧ ys.length = vb.length ∧ ∀ (i : Nat) (y : Value), ys[i]? = some y → WdAt n (bag n x) i y, F17,
        cap1 (by kernel_rfl) (by kernel_rfl) (by kqd_in) (by rw [c4.1]; decide) (by kernel_rfl) (by decide), iters_list (xs := vb) F17 (by kqd_in), ?_, ?_⟩
      · intro Dl J C s12 hDl hJ F12
        have S12 := F12.sc (ls := ["place"]) (gs := []) B (by kernel_rfl) (by kernel_rfl) (by kernel_rfl) (by kernel_rfl)
        have hJl : J ≠ lb := fun e => by
          obtain ⟨_, ⟨o, e'⟩, _⟩ := F17.rd (listR lb vb) (by kqd_in) lb rfl
          rw [e, e'] at hJ; cases hJ
        refine loop_list (WdAt n (bag n x)) a.han F12 S12 (xs := vb) (by kqd_in) hJ hDl hJl (by intro p hp; rw [List.mem_singleton.mp hp]; show ("wanted" : Str) ≠ "place"; decide) (by lia) ?_
        intro i2 v ys s13 Q' hv F13 hq
        simp only [List.cons_append, List.nil_append] at F13 hq
        obtain ⟨q, hq2⟩ : ∃ q, (bag n x)[i2]? = some q := by
          have : i2 < vb.length := by
            rcases Nat.lt_or_ge i2 vb.length with c | c
            · exact c
            · rw [List.getElem?_eq_none c] at hv; cases hv
          exact ⟨_, List.getElem?_eq_getElem (show i2 < (bag n x).length by lia)⟩
        obtain ⟨tq, htq⟩ := ints_at hvb (i := i2) (n := (q : Int)) (by rw [asI, List.getElem?_map, hq2]; rfl)
        rw [htq] at hv
        cases hv
        obtain ⟨wv, hw1, hw2⟩ := hMw.at' q (hbp q (List.mem_of_getElem? hq2))
        kfm_turns
        refine sub_int (d := dwn) (by assumption) (by kqd_in) hw1 ?_; intro s14 F14
        exact hq _ _ ⟨q, hq2, hw2⟩ F14
      · rintro Dl new s12 ⟨hDl, ys, rfl, hyl, hys⟩ F12
        simp only [List.cons_append, List.nil_append] at F12
        have hst := strs_of (n := n) (ys := ys) (ps := bag n x) (by rw [hyl, hvbl]) hys
        have hfl := wd_len_D hn1 (fun q hq => d.small hxD hq) hbl
        kfm_turns
        refine op_join F12 (by kqd_in) hst (by decide) (by rw [fl_len, List.length_map]; lia) ?_; intro tj s13 F13
        rw [se_eq, join_wd]
        kfm_turns
        rw [s1_eq]
        refine op_addS F13 (by rw [mkS_len, mkS_len]; simp only [List.length_cons, List.length_nil]; lia) ?_; intro ta s14 F14
        rw [mkS_app]
        kfm_turns
        rw [s0_eq]
        refine op_addS (by assumption) (by rw [mkS_len, mkS_len]; simp only [List.length_cons, List.length_nil, List.length_append]; lia) ?_; intro tb s15 F15
        rw [mkS_app, show [49] ++ (bag n x).flatMap (wd n) ++ [48] = wd n x from (wd_rec hn1 x).symm]
        kfm_turns
        have hML := hMw.len
        rw [List.length_take] at hML
        refine set_dic (d := dwn) (k := (x : Int)) F15 (by kd_subs) (.inr hwn) (intKind_is _ _ _ _) (by lia) ?_; intro s16 F16
        kfm_turns
        refine ⟨D.length - (i + 1), by lia, i + 1, _, _, by lia, hMd2, ?_, Fm.locsub (F16.pick (by kd_subs)) (by k_subL)⟩
        have := hMw.store hxn (v := .str (mkS (wd n x)) tb) ⟨tb, rfl⟩
        rw [← htk] at this
        exact this
end
end
end

section -- L13
open PySem PySem.Calls PySem.W PyProof.Rows
set_option Elab.async false
set_option maxRecDepth 100000
set_option linter.unusedVariables false
noncomputable section



theorem cd_of {c : Nat → Value → Prop} : ∀ {ys : List Value} {ps : List Nat}, ys.length = ps.length → (∀ (i : Nat) (y : Value), ys[i]? = some y → CAt c ps i y) → Cd c ys ps
  | [], [], _, _ => .nil
  | [], _ :: _, h, _ => by simp at h
  | _ :: _, [], h, _ => by simp at h
  | y :: ys, p :: ps, hl, h => by
    obtain ⟨q, h1, hc⟩ := h 0 y (by rfl)
    have : p = q := by simpa using h1
    subst this
    exact .cons hc (cd_of (by simpa using hl) fun i z hz => by simpa [CAt] using h (i + 1) z (by simpa using hz))
theorem strs_cd {n : Nat} : ∀ {ys : List Value} {ps : List Nat}, Cd (wdC n) ys ps → StrsAre ys (ps.map fun q => mkS (wd n q))
  | _, _, .nil => .nil
  | _, _, .cons ⟨t, e⟩ r => by subst e; exact .cons _ t (strs_cd r)
theorem cd_isS {n : Nat} {ys : List Value} {ps : List Nat} (h : Cd (wdC n) ys ps) : ∀ v ∈ ys, IsS v := fun v hv => by
  obtain ⟨x, _, t, rfl⟩ := h.mem.1 v hv
  exact ⟨_, _, rfl⟩
theorem shaped_strs (ns : List Str) (hok : ∀ x ∈ ns, PyData.strOk x = true) : SeqAt.shaped (.list (ns.map PyData.str)) = true := by
  have h1 : ∀ ns : List Str, (∀ x ∈ ns, PyData.strOk x = true) → PyData.canLayAll0 (ns.map PyData.str) = true := by
    intro ns
    induction ns with
    | nil => intro _; simp [PyData.canLayAll0]
    | cons a r ih => intro h; simp [PyData.canLayAll0, PyData.canLay0, ih (fun x hx => h x (.tail _ hx)), h a (.head _)]
  have h2 : ∀ ns : List Str, PyData.depthAll (ns.map PyData.str) = 0 := by
    intro ns
    induction ns with
    | nil => simp [PyData.depthAll]
    | cons a r ih => simp [PyData.depthAll, PyData.depth, ih]
  simp [SeqAt.shaped, PyData.canLay0, PyData.depth, h1 ns hok, h2]

set_option maxHeartbeats 16000000
section
variable {prog : Program} {w : World} {P : Params} {h₀ : Heap} {A : Around} {E : Value → Shared → Prop} {s₀ s : Shared} {L fa : Addr} {cd : Value} {ld lf wd' dwn : Addr} {vf vd : List Value} {kvs kw : List (Int × Value)} {S D f : List Nat} {n : Nat} {t : Tok} {oc : Option Addr} {Q : Flow → Shared → Prop}
theorem segJ (B : Base P h₀) (a : Amb A) (hc : ∀ p ∈ (lawEnv L fa cd).cells, s₀.heap.get? p.2 = none) (d : Dt n S D) (hvd : IntsAre vd (asI D)) (hvf : IntsAre vf (asI f)) (hf : f = D.reverse) (hMw : Mp (wdC n) kvs D) (hMn : Mp (wdC n) kw D)
    (F : Fm h₀ NoX s₀ (lawEnv L fa cd) [("width", .int (n : Nat) t), ("due", .ref ld), ("falling", .ref lf), ("words", .ref wd'), ("wanted", .ref dwn)] [dicR (intKind prog w) dwn kw, dicR (intKind prog w) wd' kvs, listR lf vf, listR ld vd, tI oc, tJ none] s)
    (h : ∀ s' lri vr, s₀.heap.get? lri = none → Cd (wdC n) vr D →
      Fm h₀ NoX s₀ (lawEnv L fa cd) [("width", .int (n : Nat) t), ("due", .ref ld), ("rising", .ref lri)] [listR lri vr, listR ld vd, tI oc, tJ none] s' → wpAny (model prog w) A (execs (lw 24) (lawEnv L fa cd)) Q E s') :
    wpAny (model prog w) A (execs (lw 19) (lawEnv L fa cd)) Q E s := by
  have S0 := sc_law B L fa cd
  have K176 := fn_heapify B
  have K169 := fn_heappop B
  have hd' := a.depth
  have hDl := d.len
  have hn1 := d.n1
  obtain ⟨c1, c2, c3, c4, c5⟩ := cel_law hc
  have hvdl : vd.length = D.length := by have := hvd.length; rwa [asI_len] at this
  have hvfl : vf.length = f.length := by have := hvf.length; rwa [asI_len] at this
  have hfl : f.length = D.length := by rw [hf, List.length_reverse]
  refine x_assignComp (cl := [("words", L + 1 + 1)]) (h₀ := h₀) (X := NoX) (s₀ := s₀) (by decide) rfl (by decide) S0 (by simp) ?_ (by kernel_rfl) (by kernel_rfl)
  kfm_turns
  refine ⟨_, [("words", .ref wd')], _, _, fun Dl new => s.heap.get? Dl = none ∧ ∃ ys, new = [listR Dl ys] ∧ ys.length = vf.length ∧ ∀ (i : Nat) (y : Value), ys[i]? = some y → CAt (wdC n) f i y, F,
    cap1 (by kernel_rfl) (by kernel_rfl) (by kqd_in) (by rw [c2.1]; decide) (by kernel_rfl) (by decide), iters_list (xs := vf) F (by kqd_in), ?_, ?_⟩
  · intro Dl J C s12 hDl hJ F12
    have S12 := F12.sc (ls := ["size"]) (gs := []) B (by kernel_rfl) (by kernel_rfl) (by kernel_rfl) (by kernel_rfl)
    have hJl : J ≠ lf := fun e => by
      obtain ⟨_, ⟨o, e'⟩, _⟩ := F.rd (listR lf vf) (by kqd_in) lf rfl
      rw [e, e'] at hJ; cases hJ
    refine loop_list (CAt (wdC n) f) a.han F12 S12 (xs := vf) (by kqd_in) hJ hDl hJl (by intro p hp; rw [List.mem_singleton.mp hp]; show ("words" : Str) ≠ "size"; decide) (by lia) ?_
    intro i2 v ys s13 Q' hv F13 hq
    simp only [List.cons_append, List.nil_append] at F13 hq
    obtain ⟨q, hq2⟩ : ∃ q, f[i2]? = some q := by
      have : i2 < vf.length := by
        rcases Nat.lt_or_ge i2 vf.length with c | c
        · exact c
        · rw [List.getElem?_eq_none c] at hv; cases hv
      exact ⟨_, List.getElem?_eq_getElem (show i2 < f.length by lia)⟩
    obtain ⟨tq, htq⟩ := ints_at hvf (i := i2) (n := (q : Int)) (by rw [asI, List.getElem?_map, hq2]; rfl)
    rw [htq] at hv
    cases hv
    have hqD : q ∈ D := by have := List.mem_of_getElem? hq2; rw [hf] at this; exact List.mem_reverse.mp this
    obtain ⟨wv, hw1, hw2⟩ := hMw.at' q hqD
    kfm_turns
    refine sub_int (d := wd') (by assumption) (by kqd_in) hw1 ?_; intro s14 F14
    exact hq _ _ ⟨q, hq2, hw2⟩ F14
  · rintro lh new ⟨hlh, ys, rfl, hyl, hys⟩
    refine ⟨_, by kqd_sub, ?_⟩
    intro s8 F8
    simp only [List.cons_append, List.nil_append] at F8
    have hcy := cd_of (c := wdC n) (ys := ys) (ps := f) (by lia) hys
    have hlh0 := F.mod.none_of hlh
    refine x_if ?_
    kfm_turns
    refine heapify_ok B (show A.depth < 898 by lia) a.han (F8.hands (rs' := [listR lh ys]) (by k_subL)) (.inr (cd_isS hcy)) (by lia) ?_
    intro s9 m9 h9
    have F9 := F8.ch1 (rs' := [listR lh (hfy ltV (ys.length / 2) ys), dicR (intKind prog w) dwn kw, dicR (intKind prog w) wd' kvs, listR lf vf, listR ld vd, tI oc, tJ none]) (by kd_subs) m9 (.inr hlh0) h9
    kfm_turns
    refine isnot_none0 ?_
    kfm_turns
    refine ev_list ?_
    kfm_turns
    refine nl_list (by assumption) (by simp) ?_; intro lri s10 hlri F10
    kfm_turns
    rename_i s11 F11
    have hp : (hfy ltV (ys.length / 2) ys).Perm ys := hfy_perm ltV _ _ (by lia)
    obtain ⟨zs0, hz1, hz2⟩ := Cd.perm hp hcy
    have hhp := heapify_hp tpS (cd_isS hcy)
    refine x_while (fun m s' => E4 fun hs zs vr r => Cd (wdC n) hs zs ∧ HpFrom ltV 0 hs ∧ Cd (wdC n) vr r ∧ (r ++ zs).Perm f ∧ r.Pairwise (· ≤ ·) ∧ (∀ y ∈ r, ∀ z ∈ zs, y ≤ z) ∧ m = zs.length ∧
      Fm h₀ NoX s₀ (lawEnv L fa cd) [("width", .int (n : Nat) t), ("due", .ref ld), ("wanted", .ref dwn), ("heap", .ref lh), ("rising", .ref lri)] [listR lri vr, listR lh hs, dicR (intKind prog w) dwn kw, listR ld vd, tI oc, tJ none] s') zs0.length
      ⟨_, zs0, [], [], hz1, hhp, .nil, hz2, .nil, (fun _ h => nomatch h), rfl, Fm.locsub (F11.pick (by kd_subs)) (by k_subL)⟩ ?_
    intro m s12
    (repeat (first | (with_reducible refine WithL.in fun _ _ _ _ => ?_) | (with_reducible refine WithE.in fun _ _ _ => ?_)))
    rintro ⟨hs, zs, vr, r, hcs, hph, hcr, hpm, hrs, hrz, hm, F12⟩
    have hsl := hcs.length
    have hrl := hcr.length
    have hpl := hpm.length_eq
    rw [List.length_append] at hpl
    refine PyProof.Rows.isTrue_plain ?_
    kfm_turns
    refine truthy_list (l := lh) F12 (by kqd_in) (by lia) ?_; intro s13 F13
    refine if_bool (fun c => ?_) (fun c => ?_)
    · have hne : hs ≠ [] := fun e => by subst e; simp at c
      kfm_turns
      refine meth_list F13 (l := lri) (xs := vr) (by kqd_in) PySem.F.slot_list_append PySem.F.type_list_append ?_
      kfm_turns
      refine pop_ok B (show A.depth < 898 by lia) tpS (.inr (cd_isS hcs)) (cd_isS hcs) F13 (rr := fun ys => [listR lri vr, listR lh ys, dicR (intKind prog w) dwn kw, listR ld vd, tI oc, tJ none]) (fun ys => by kd_subs) (.inr hlh0) hcs hph hne (by lia) ?_
      intro x v hs' zs' s14 hxv hvm hpm2 hmin hcd' hsub hp' F14
      kfm_turns
      refine app_list F14 (l := lri) (xs := vr) (by kd_subs) (.inr hlri) (by lia) ?_; intro s15 F15
      have hzl := hpm2.length_eq
      rw [List.length_cons] at hzl
      have hxm : ∀ z ∈ zs, x ≤ z := fun z hz => by
        obtain ⟨u, hu, tu, rfl⟩ := hcs.mem.2 z hz
        obtain ⟨tv, rfl⟩ := hxv
        have h1 := hmin _ hu
        have h2 : ¬ (mkS (wd n z)).cps.toList < (mkS (wd n x)).cps.toList := of_decide_eq_false h1
        apply Nat.le_of_not_lt
        intro q
        exact h2 (by simpa [mkS] using wd_lt hn1 q)
      have hxz : x ∈ zs := hpm2.mem_iff.mpr (.head _)
      have hsub2 : ∀ z ∈ zs', z ∈ zs := fun z hz => hpm2.mem_iff.mpr (.tail _ hz)
      kfm_turns
      refine ⟨zs'.length, by lia, hs', zs', vr ++ [v], r ++ [x], hcd', hp', hcr.app (.cons hxv .nil), ?_, ?_, ?_, rfl, F15⟩
      · rw [List.append_assoc]
        exact (List.Perm.append_left r hpm2.symm).trans hpm
      · exact List.pairwise_append.mpr ⟨hrs, List.pairwise_singleton _ _, fun y hy z hz => by rw [List.mem_singleton.mp hz]; exact hrz y hy x hxz⟩
      · intro y hy z hz
        rcases List.mem_append.mp hy with m | m
        · exact hrz y m z (hsub2 z hz)
        · rw [List.mem_singleton.mp m]; exact hxm z (hsub2 z hz)
    · have hh0 : hs = [] := by
        rcases hs with _ | ⟨x, y⟩
        · rfl
        · simp at c
      subst hh0
      have hz0 : zs = [] := List.length_eq_zero_iff.mp (by simpa using hsl.symm)
      subst hz0
      rw [List.append_nil] at hpm
      have hrD : r = D := by
        have hp2 : r.Perm D := hpm.trans (by rw [hf]; exact List.reverse_perm D)
        exact List.Perm.eq_of_pairwise (le := (· ≤ ·)) (fun a b _ _ h1 h2 => by lia) hrs (d.rise.imp fun h => Nat.le_of_lt h) hp2
      subst hrD
      refine x_nil ?_
      first | (with_reducible refine (by assumption : ToN _ _) _ _ (by first | exact Nx.n | exact Nx.c) ?_) | (with_reducible refine (by assumption : ToF _ _ _) _ ?_)
      show wpAny _ _ (execs _ _) _ _ _
      refine x_if ?_
      kfm_turns
      refine ev_comp (cl := [("wanted", L + 1 + 1 + 1 + 1)]) (h₀ := h₀) (X := NoX) (s₀ := s₀) (by decide) rfl (by decide) ?_ (by kernel_rfl)
      kfm_turns
      refine ⟨_, [("wanted", .ref dwn)], _, _, fun Dl new => s13.heap.get? Dl = none ∧ ∃ ys, new = [listR Dl ys] ∧ ys.length = vd.length ∧ ∀ (i : Nat) (y : Value), ys[i]? = some y → CAt (wdC n) r i y, F13,
        cap1 (by kernel_rfl) (by kernel_rfl) (by kqd_in) (by rw [c4.1]; decide) (by kernel_rfl) (by decide), iters_list (xs := vd) F13 (by kqd_in), ?_, ?_⟩
      · intro Dl J C s14 hDl2 hJ F14
        have S14 := F14.sc (ls := ["size"]) (gs := []) B (by kernel_rfl) (by kernel_rfl) (by kernel_rfl) (by kernel_rfl)
        have hJl : J ≠ ld := fun e => by
          obtain ⟨_, ⟨o, e'⟩, _⟩ := F13.rd (listR ld vd) (by kqd_in) ld rfl
          rw [e, e'] at hJ; cases hJ
        refine loop_list (CAt (wdC n) r) a.han F14 S14 (xs := vd) (by kqd_in) hJ hDl2 hJl (by intro p hp; rw [List.mem_singleton.mp hp]; show ("wanted" : Str) ≠ "size"; decide) (by lia) ?_
        intro i2 v ys2 s15 Q' hv F15 hq
        simp only [List.cons_append, List.nil_append] at F15 hq
        obtain ⟨q, hq2⟩ : ∃ q, r[i2]? = some q := by
          have : i2 < vd.length := by
            rcases Nat.lt_or_ge i2 vd.length with c | c
            · exact c
            · rw [List.getElem?_eq_none c] at hv; cases hv
          exact ⟨_, List.getElem?_eq_getElem (show i2 < r.length by lia)⟩
        obtain ⟨tq, htq⟩ := ints_at hvd (i := i2) (n := (q : Int)) (by rw [asI, List.getElem?_map, hq2]; rfl)
        rw [htq] at hv
        cases hv
        obtain ⟨wv, hw1, hw2⟩ := hMn.at' q (List.mem_of_getElem? hq2)
        kfm_turns
        refine sub_int (d := dwn) (by assumption) (by kqd_in) hw1 ?_; intro s16 F16
        exact hq _ _ ⟨q, hq2, hw2⟩ F16
      · rintro Dl new s14 ⟨hDl2, ys2, rfl, hyl2, hys2⟩ F14
        simp only [List.cons_append, List.nil_append] at F14
        have hcy2 := cd_of (c := wdC n) (ys := ys2) (ps := r) (by lia) hys2
        have hok : ∀ x ∈ r.map (fun q => mkS (wd n q)), PyData.strOk x = true := by
          intro y hy
          obtain ⟨q, _, rfl⟩ := List.mem_map.mp hy
          have hasc := (wd_prim hn1 q q (Nat.le_refl _)).asc
          show (mkS (wd n q)).cps.all (· < 0x110000) = true
          unfold mkS
          rw [List.all_toArray, List.all_eq_true]
          intro ch hch
          have := hasc ch hch
          exact decide_eq_true (by lia)
        kfm_turns
        refine op_neL a.units F14 (l := lri) (b := Dl) (by kqd_in) (by kqd_in) (reads_strs (strs_cd hcr)) (reads_strs (strs_cd hcy2)) (shaped_strs _ hok) (shaped_strs _ hok) ?_
        rw [eqv_strs]
        kfm_turns
        refine if_ff ?_
        refine x_nil ?_
        first | (with_reducible refine (by assumption : ToN _ _) _ _ (by first | exact Nx.n | exact Nx.c) ?_) | (with_reducible refine (by assumption : ToF _ _ _) _ ?_)
        exact h _ lri vr hlri hcr (Fm.locsub (F14.pick (by kd_subs)) (by k_subL))
end
end
end

section -- L14
open PySem PySem.Calls PySem.W PyProof.Rows
set_option Elab.async false
set_option maxRecDepth 100000
set_option linter.unusedVariables false
noncomputable section



/-- the worths of words -/
structure SMp (n : Nat) (kvs : List (Str × Value)) (P : List Nat) : Prop where
  at' : ∀ x ∈ P, ∃ t, valueAt kvs (mkS (wd n x)) = some (.int ((x : Nat) : Int) t)
  off : ∀ x : Nat, x ∉ P → valueAt kvs (mkS (wd n x)) = none
  len : kvs.length ≤ P.length
theorem SMp.nil (n : Nat) : SMp n [] [] := ⟨(fun _ h => nomatch h), fun _ _ => rfl, Nat.le_refl _⟩
theorem SMp.store {n : Nat} (hn : 1 ≤ n) {kvs : List (Str × Value)} {P : List Nat} {x : Nat} {t : Tok} (M : SMp n kvs P) (hx : x ∉ P) : SMp n (stored kvs (mkS (wd n x)) (.int ((x : Nat) : Int) t)) (P ++ [x]) := by
  have es := stored_absent (M.off x hx) (.int ((x : Nat) : Int) t)
  have hat : ∀ k : Str, valueAt (kvs ++ [(mkS (wd n x), Value.int ((x : Nat) : Int) t)]) k = (valueAt kvs k).or (if mkS (wd n x) = k then some (Value.int ((x : Nat) : Int) t) else none) := fun k => by
    unfold valueAt
    rw [List.find?_append]
    cases q : kvs.find? (fun kv => decide (kv.1 = k)) with
    | some z => simp
    | none =>
      by_cases e : mkS (wd n x) = k
      · simp [e]
      · simp [e]
  rw [es]
  refine ⟨fun y hy => ?_, fun y hy => ?_, by have := M.len; simp; lia⟩
  · rw [hat]
    rcases List.mem_append.mp hy with m | m
    · obtain ⟨u, h1⟩ := M.at' y m
      exact ⟨u, by rw [h1]; rfl⟩
    · rw [List.mem_singleton.mp m, M.off x hx]
      exact ⟨t, by simp⟩
  · have hne : ¬ mkS (wd n x) = mkS (wd n y) := fun e => hy (by
      have := wd_inj hn (mkS_inj e)
      simp [this])
    rw [hat, M.off y (fun m => hy (by simp [m])), if_neg hne]; rfl
theorem Cd.get {c : Nat → Value → Prop} {vs : List Value} {ns : List Nat} (h : Cd c vs ns) : ∀ {i x : Nat}, ns[i]? = some x → ∃ v, vs[i]? = some v ∧ c x v := by
  induction h with
  | nil => intro i x e; simp at e
  | cons k _ ih =>
    intro i x e
    cases i with
    | zero => simp at e; subst e; exact ⟨_, rfl, k⟩
    | succ i => exact ih (by simpa using e)
noncomputable def inC (x : Nat) (v : Value) : Prop := ∃ t, v = Value.int ((x : Nat) : Int) t
theorem ints_cd : ∀ {ys : List Value} {ps : List Nat}, Cd inC ys ps → IntsAre ys (asI ps)
  | _, _, .nil => .nil
  | _, _, .cons ⟨t, e⟩ r => by subst e; exact .cons _ t (ints_cd r)

set_option maxHeartbeats 16000000
section
variable {prog : Program} {w : World} {P : Params} {h₀ : Heap} {A : Around} {E : Value → Shared → Prop} {s₀ s : Shared} {L fa : Addr} {cd : Value} {ld lri : Addr} {vd vr : List Value} {S D : List Nat} {n : Nat} {t : Tok} {oc : Option Addr} {Q : Flow → Shared → Prop}
theorem segK (B : Base P h₀) (a : Amb A) (hc : ∀ p ∈ (lawEnv L fa cd).cells, s₀.heap.get? p.2 = none) (h30 : s₀.heap.get? 30 = none) (d : Dt n S D) (hvd : IntsAre vd (asI D)) (hvr : Cd (wdC n) vr D)
    (F : Fm h₀ NoX s₀ (lawEnv L fa cd) [("width", .int (n : Nat) t), ("due", .ref ld), ("rising", .ref lri)] [listR lri vr, listR ld vd, tI oc, tJ none] s)
    (h : ∀ s' oc2, Fm h₀ NoX s₀ (lawEnv L fa cd) [] [tI oc, tJ oc2] s' → Q (.ret (.bool true)) s') :
    wpAny (model prog w) A (execs (lw 24) (lawEnv L fa cd)) Q E s := by
  have S0 := sc_law B L fa cd
  have K218 := fn_ldigits B
  have K35 := fn_digits2int B
  have hd' := a.depth
  have hDl := d.len
  have hn1 := d.n1
  have hn3 := d.n3
  obtain ⟨c1, c2, c3, c4, c5⟩ := cel_law hc
  have hvdl : vd.length = D.length := by have := hvd.length; rwa [asI_len] at this
  have hvrl := hvr.length
  refine x_assign ?_
  refine ev_dicE (strKind prog w) B.three F ?_; intro dw s1 hdw F1
  refine st_cel F1 c5 (by kqd_sub) ?_; intro s2 F2
  refine x_for ?_
  kfm_turns
  refine it_list F2 (l := lri) (xs := vr) (by kqd_in) ?_; intro I s3 hI hIl F3
  refine ⟨fun m s' => E3 fun i kvs oc2 => i + m = D.length ∧ SMp n kvs (D.take i) ∧ NoneAt s₀ oc2 ∧
    Fm h₀ NoX s₀ (lawEnv L fa cd) [("width", .int (n : Nat) t), ("due", .ref ld), ("rising", .ref lri), ("worths", .ref dw)] [liR I lri i, dicR (strKind prog w) dw kvs, listR lri vr, listR ld vd, tI oc, tJ oc2] s',
    D.length, ⟨0, [], none, by lia, SMp.nil n, (fun _ h => nomatch h), F3⟩, ?_⟩
  intro m s4
  (repeat (first | (with_reducible refine WithL.in fun _ _ _ _ => ?_) | (with_reducible refine WithE.in fun _ _ _ => ?_)))
  rintro ⟨i, kvs, oc2, him, hM, hoc, F4⟩
  by_cases hm : m = 0
  · have hi : i = vr.length := by lia
    subst hi
    refine nd_list a.han F4 (by kqd_in) hIl .hit hI ?_; intro s5 F5
    rw [hvrl, List.take_length] at hM
    show wpAny _ _ (execs [] _) _ _ _
    refine x_nil ?_
    first | (with_reducible refine (by assumption : ToN _ _) _ _ (by first | exact Nx.n | exact Nx.c) ?_) | (with_reducible refine (by assumption : ToF _ _ _) _ ?_)
    show wpAny _ _ (execs _ _) _ _ _
    refine x_ret ?_
    kfm_turns
    refine ev_comp (cl := [("worths", L + 1 + 1 + 1 + 1 + 1)]) (h₀ := h₀) (X := NoX) (s₀ := s₀) (by decide) rfl (by decide) ?_ (by kernel_rfl)
    kfm_turns
    refine ⟨_, [("worths", .ref dw)], _, _, fun Dl new => s5.heap.get? Dl = none ∧ ∃ ys, new = [listR Dl ys] ∧ ys.length = vr.length ∧ ∀ (i : Nat) (y : Value), ys[i]? = some y → CAt inC D i y, F5,
      cap1 (by kernel_rfl) (by kernel_rfl) (by kqd_in) (by rw [c5.1]; decide) (by kernel_rfl) (by decide), iters_list (xs := vr) F5 (by kqd_in), ?_, ?_⟩
    · intro Dl J C s6 hDl2 hJ F6
      have S6 := F6.sc (ls := ["word"]) (gs := []) B (by kernel_rfl) (by kernel_rfl) (by kernel_rfl) (by kernel_rfl)
      have hJl : J ≠ lri := fun e => by
        obtain ⟨_, ⟨o, e'⟩, _⟩ := F5.rd (listR lri vr) (by kqd_in) lri rfl
        rw [e, e'] at hJ; cases hJ
      refine loop_list (CAt inC D) a.han F6 S6 (xs := vr) (by kqd_in) hJ hDl2 hJl (by intro p hp; rw [List.mem_singleton.mp hp]; show ("worths" : Str) ≠ "word"; decide) (by lia) ?_
      intro i2 v ys2 s7 Q' hv F7 hq
      simp only [List.cons_append, List.nil_append] at F7 hq
      obtain ⟨q, hq2⟩ : ∃ q, D[i2]? = some q := by
        have : i2 < vr.length := by
          rcases Nat.lt_or_ge i2 vr.length with c | c
          · exact c
          · rw [List.getElem?_eq_none c] at hv; cases hv
        exact ⟨_, List.getElem?_eq_getElem (show i2 < D.length by lia)⟩
      obtain ⟨v', hv', tq, rfl⟩ := hvr.get hq2
      rw [hv'] at hv
      cases hv
      obtain ⟨wt, hw1⟩ := hM.at' q (List.mem_of_getElem? hq2)
      kfm_turns
      refine sub_dic (d := dw) F7 (by kqd_in) (strKind_is _ _ _ _) hw1 ?_ (by with_unfolding_all rfl); intro s8 F8
      exact hq _ _ ⟨q, hq2, wt, rfl⟩ F8
    · rintro Dl new s6 ⟨hDl2, ys2, rfl, hyl2, hys2⟩ F6
      simp only [List.cons_append, List.nil_append] at F6
      have hyi := ints_cd (cd_of (c := inC) (ys := ys2) (ps := D) (by lia) hys2)
      kfm_turns
      refine op_eqL a.units F6 (l := Dl) (b := ld) (by kqd_in) (by kqd_in) (reads_ints hyi) (reads_ints hvd) (shaped_ints _) (shaped_ints _) ?_
      rw [eqv_ints, decide_eq_true rfl]
      exact h _ oc2 (Fm.locsub (F6.pick (by kd_subs)) (by k_subL))
  · obtain ⟨x, hx⟩ : ∃ x, D[i]? = some x := ⟨_, List.getElem?_eq_getElem (show i < D.length by lia)⟩
    have hxD : x ∈ D := List.mem_of_getElem? hx
    have htk : D.take (i + 1) = D.take i ++ [x] := by rw [List.take_succ, hx]; rfl
    have hxn : x ∉ D.take i := fun q => by
      have e := (List.take_sublist (i + 1) D).nodup d.nd
      rw [htk] at e
      exact (List.nodup_append.mp e).2.2 x q x (by simp) rfl
    have hbp : ∀ q ∈ bag n x, q ∈ D.take i := fun q hq => tk_lt d.rise (d.cl x hxD q hq) (by rw [htk]; simp) (bag_lt hn1 hq)
    have hbl := d.bagLen hxD
    have hfl := wd_len_D hn1 (fun q hq => d.small hxD hq) hbl
    obtain ⟨v', hv', tx, rfl⟩ := hvr.get hx
    refine nx_list (i := i) a.han F4 (by kqd_in) hIl (by lia) .hit hI ?_; intro v s5 hv F5
    rw [hv'] at hv
    cases hv
    kfm_turns
    rename_i s6 F6
    rw [show wd n x = 49 :: (bag n x).flatMap (wd n) ++ [48] from wd_rec hn1 x]
    refine ldigits_ok (W := wd n) (ps := bag n x) (kvs := kvs) (m := 12) B (show A.depth < 900 by lia) a.han (F6.pick (m := [dicR (strKind prog w) dw kvs]) (by kd_subs) |>.hands (.refl _))
      (fun p _ => wd_prim hn1 p p (Nat.le_refl _)) (fun p hp => hM.at' p (hbp p hp)) (by lia) (fun p hp => d.small hxD hp) (by decide) ?_
    intro s7 lg vg m7 hlg H7 hvg
    have F7 := F6.gotL m7 H7 (fun r hr a f => by rw [List.mem_singleton.mp hr] at f; rw [show a = lg from f]; exact hlg)
    simp only [List.cons_append, List.nil_append] at F7
    obtain ⟨g1, g2, g3⟩ := dig_val hn1 x (m := 12) (fun p hp => d.small hxD hp)
    have hvgl : vg.length = ((bag n x).foldl bump []).length := by have := hvg.length; rwa [asI_len] at this
    kfm_turns
    have hnl : n * vg.length ≤ 62 := Nat.le_trans (Nat.mul_le_mul hn3 (by lia : vg.length ≤ 12)) (by decide)
    refine digits2int_ok (d := fun i => x / 2 ^ (n * i) % 2 ^ n) (oc := oc2) (vs := vg) B (show A.depth < 700 by lia) (F7.pick (m := [listR lg vg, tJ oc2]) (by kd_subs) |>.hands (.refl _)) hn1 hnl (fun j hj => ints_at hvg (by rw [asI, List.getElem?_map, g2 j (by lia)]; rfl)) (fun j _ => Nat.mod_lt _ (Nat.two_pow_pos n)) ?_
    intro s8 c' t8 m8 hoc' H8
    rw [hvgl, g3]
    have hc' : s₀.heap.get? c' = none := by
      rcases hoc' with e | ⟨_, e⟩
      · exact hoc c' e
      · exact F7.mod.none_of e
    have nx : Next h₀ [tJ oc2] [tJ (some c')] s7 s8 := by
      refine ⟨m8.wide fun a f => .inl ⟨_, .head _, f⟩, H8, fun r hr a f => ?_⟩
      rw [List.mem_singleton.mp hr] at f
      rcases f with e | e
      · exact .inl ⟨_, .head _, .inl e⟩
      · cases e
        rcases hoc' with e | ⟨_, e⟩
        · exact .inl ⟨_, .head _, .inr e⟩
        · exact .inr e
    have F8 := F7.nx nx (by kd_subs) fun r hr a f => .inr (by
      rw [List.mem_singleton.mp hr] at f
      rcases f with e | e
      · rw [e]; exact h30
      · exact hoc a e)
    simp only [List.cons_append, List.nil_append] at F8
    have hML := hM.len
    rw [List.length_take] at hML
    kfm_turns
    refine set_dic (d := dw) (k := mkS (wd n x)) F8 (by kd_subs) (.inr hdw) (strKind_is _ _ _ _) (by lia) ?_; intro s9 F9
    kfm_turns
    refine ⟨D.length - (i + 1), by lia, i + 1, _, some c', by lia, ?_, fun c e => by cases e; exact hc', Fm.locsub (F9.pick (by kd_subs)) (by k_subL)⟩
    rw [htk]
    exact hM.store hn1 hxn
end
end
end

section -- K2
open PySem PySem.Calls PySem.W PyProof.Rows
set_option Elab.async false
set_option maxRecDepth 100000
set_option linter.unusedVariables false
noncomputable section

section
variable {prog : Program} {w : World} {A : Around} {E : Value → Shared → Prop} {h₀ : Heap} {X : Addr → Prop} {s₀ s₁ s s₃ : Shared} {env : Env} {loc vals : List (Str × Value)} {rs rs3 : List Rg} {scope : Scope} {cl : List (Str × Addr)}
/-! a comprehension whose scope has one own cell -/
theorem comp_env1 {K : Env → Shared → Prop} {x0 : Str} (F : Fm h₀ X s₀ env loc rs3 s₃) (m3 : Md NoX s₁ s₃) (hkind : scope.kind = .function) (hc : Cap env scope cl loc vals) (hx0 : ∀ p ∈ cl, p.1 ≠ x0)
    (henv : newFunctionEnv scope env.globals cl [] env.qual none .none (some env) = (alloc { cls := .type "dict", data := .dict #[] } >>= fun C => alloc { cls := .type "cell", data := .cell none } >>= fun c => pure (newEnv scope C env.globals ((x0, c) :: cl) env.qual none .none (some env) 0)))
    (h : ∀ C c s₄, s₃.heap.get? C = none → s₃.heap.get? c = none → Fm h₀ NoX s₁ (compEnvC scope ((x0, c) :: cl) C env) vals rs3 s₄ → K (newEnv scope C env.globals ((x0, c) :: cl) env.qual none .none (some env) 0) s₄) :
    wpAny (model prog w) A (newFunctionEnv scope env.globals cl [] env.qual none .none (some env)) K E s₃ := by
  rw [henv]
  refine wpAny_bind (wpAny_alloc (wpAny_bind (wpAny_alloc (wpAny_pure ?_))))
  have e0 : s₃.heap.get? s₃.heap.objs.size = none := get?_size _
  have z1 : (s₃.heap.push { cls := .type "dict", data := .dict #[] }).objs.size = s₃.heap.objs.size + 1 := Heap.size_push ..
  have e1 : s₃.heap.get? (s₃.heap.objs.size + 1) = none := Heap.get?_none_of_le (Nat.le_succ _)
  have kp : Kp s₃.heap ((s₃.heap.push { cls := .type "dict", data := .dict #[] }).push { cls := .type "cell", data := .cell none }) := fun b o e => Heap.get?_push_of_some _ (Heap.get?_push_of_some _ e)
  have b0 : ∀ a, s₃.heap.get? a = none → h₀.get? a = none := fun a e => by
    cases q : h₀.get? a with
    | none => rfl
    | some o => rw [F.base _ o q] at e; cases e
  have cin : ∀ p ∈ cl, (p.1, p.2) ∈ env.cells := fun p hp => mem_of_lookup (hc.cells p hp)
  have cvf : ∀ p ∈ cl, vf env p.2 := fun p hp => .tail _ (List.mem_map.mpr ⟨_, cin p hp, rfl⟩)
  have cne : ∀ p ∈ cl, ∀ a, s₃.heap.get? a = none → p.2 ≠ a := fun p hp a ha e => by
    obtain ⟨_, o, q⟩ := F.vd _ (cvf p hp)
    rw [e, ha] at q; cases q
  have eC : ((s₃.heap.push { cls := .type "dict", data := .dict #[] }).push { cls := .type "cell", data := .cell none }).get? s₃.heap.objs.size = some { cls := .type "dict", data := .dict #[] } := Heap.get?_push_of_some _ (Heap.get?_push_size _ rfl)
  have ec : ((s₃.heap.push { cls := .type "dict", data := .dict #[] }).push { cls := .type "cell", data := .cell none }).get? (s₃.heap.objs.size + 1) = some { cls := .type "cell", data := .cell none } := by
    have := Heap.get?_push_size (s₃.heap.push { cls := .type "dict", data := .dict #[] }) (o := { cls := .type "cell", data := .cell none }) rfl
    rwa [z1] at this
  have hns : ((s₃.heap.push { cls := .type "dict", data := .dict #[] }).push { cls := .type "cell", data := .cell none }).Ns s₃.heap.objs.size (fun _ => none) := (Heap.Ns.new s₃.heap (.type "dict")).keeps fun b o e => Heap.get?_push_of_some _ e
  show K (newEnv scope s₃.heap.objs.size env.globals ((x0, (s₃.heap.push { cls := .type "dict", data := .dict #[] }).objs.size) :: cl) env.qual none .none (some env) 0) _
  rw [z1]
  refine h s₃.heap.objs.size (s₃.heap.objs.size + 1) _ e0 e1 ?_
  refine ⟨(m3.trans (Md.of_kp (t := s₃.toks) kp) fun _ x => x.elim), fun b o e => kp b o (F.base b o e), by show (relabel scope env).kind = .function; exact hkind, ?_, hc.ndv, ⟨_, hns, fun p hp => ?_⟩, ?_, ?_, ?_, ?_, F.rp, ?_⟩
  · refine List.nodup_cons.mpr ⟨fun hm => ?_, List.nodup_cons.mpr ⟨fun hm => ?_, hc.ndc⟩⟩
    · rcases List.mem_cons.mp hm with e | hm
      · exact Nat.succ_ne_self _ e.symm
      · obtain ⟨p, hp, e⟩ := List.mem_map.mp hm
        exact cne p hp _ e0 e
    · obtain ⟨p, hp, e⟩ := List.mem_map.mp hm
      exact cne p hp _ e1 e
  · obtain ⟨h1, ⟨c, h2⟩, h3, h4, h5⟩ := hc.vals p hp
    have hcl := hc.cells (p.1, c) (mem_of_lookup h2)
    have hne : p.1 ≠ x0 := hx0 (p.1, c) (mem_of_lookup h2)
    refine .cel c (.inl h4) h5 ?_ (cell_keeps (F.cellOf h1 hcl h3) fun o e => kp _ o e)
    show ((x0, s₃.heap.objs.size + 1) :: cl).lookup p.1 = some c
    rw [List.lookup_cons, beq_eq_false_iff_ne.mpr hne]; exact h2
  · exact m3.none_of e0
  · intro a ha
    rcases List.mem_cons.mp ha with rfl | ha
    · exact ⟨b0 _ e0, _, eC⟩
    · rcases List.mem_cons.mp ha with e | ha
      · rw [show a = s₃.heap.objs.size + 1 from e]; exact ⟨b0 _ e1, _, ec⟩
      · obtain ⟨p, hp, rfl⟩ := List.mem_map.mp ha
        obtain ⟨h1, o, e⟩ := F.vd _ (cvf p hp)
        exact ⟨h1, o, kp _ o e⟩
  · intro r hr
    exact r.stable _ _ (fun a o _ e => kp a o e) (F.rg r hr)
  · intro r hr a f
    obtain ⟨h1, ⟨o, e⟩, h3⟩ := F.rd r hr a f
    refine ⟨h1, ⟨o, kp a o e⟩, fun v => ?_⟩
    rcases List.mem_cons.mp v with rfl | ha
    · exact absurd (e0.symm.trans e) (by simp)
    · rcases List.mem_cons.mp ha with q | ha
      · rw [show a = s₃.heap.objs.size + 1 from q, e1] at e; cases e
      · obtain ⟨p, hp, rfl⟩ := List.mem_map.mp ha
        exact h3 (cvf p hp)
  · intro p hp
    rcases List.mem_cons.mp hp with rfl | hp
    · exact ⟨none, _, ec, rfl⟩
    · obtain ⟨v, y⟩ := F.cc _ (cin p hp)
      exact ⟨v, cell_keeps y fun o e => kp _ o e⟩

theorem comp_go1 {x0 : Str} {elt iter : Expr} {x : Str} {px : Pos} {ifs : List Expr} {pos : Pos} {xv : Value} {ri : Addr → Rg} {use : Option (Value → Sem Unit)} {Q : Value → Shared → Prop} {K : Addr → List Rg → Prop} (F : Fm h₀ X s₀ env loc rs s₁) (hc : Cap env scope cl loc vals) (hx0 : ∀ p ∈ cl, p.1 ≠ x0) (henv : newFunctionEnv scope env.globals cl [] env.qual none .none (some env) = (alloc { cls := .type "dict", data := .dict #[] } >>= fun C => alloc { cls := .type "cell", data := .cell none } >>= fun c => pure (newEnv scope C env.globals ((x0, c) :: cl) env.qual none .none (some env) 0))) (hkind : scope.kind = .function)
    (hit : Iters prog w A h₀ X s₀ env loc rs xv ri s₁)
    (hl : ∀ D I C c s₄, s₁.heap.get? D = none → s₁.heap.get? I = none → s₁.heap.get? c = none → Fm h₀ NoX s₁ (compEnvC scope ((x0, c) :: cl) C env) vals (listR D [] :: ri I :: rs) s₄ → CompLoop prog w A h₀ s₁ rs elt x px ifs (compEnvC scope ((x0, c) :: cl) C env) I D (K D) s₄)
    (hQ : ∀ D C new s', K D new → s₁.heap.get? C = none → Fm h₀ X s₀ env loc (nsR C :: (new ++ rs)) s' → compPost (model prog w) A E use Q (.ref D) C (.ok .next) s')
    (ht : ∀ I v, letOwnedTupleGo (.Name x px) (.ref I) v = pure () := by intro _ _; rfl) :
    wpAny (model prog w) A (pyIter xv) (fun it s₂ => wpAny (model prog w) A (newList []) (fun acc s₃ => wpAny (model prog w) A (newFunctionEnv scope env.globals cl [] env.qual none .none (some env)) (fun cenv s₄ =>
      codeAny (model prog w) A (.compStart (.ListComp elt [⟨.Name x px, iter, ifs, 0⟩] scope pos) 0 it acc { cenv with scope := relabel scope env }) (compPost (model prog w) A E use Q acc cenv.locals) s₄) E s₃) E s₂) E s₁ := by
  refine hit.1 _ _ fun I s₂ m2 hI F2 => ?_
  refine wpAny_newObj_type ?_ (by show (#[] : Array Value).size ≤ sizeLine; exact Nat.zero_le _)
  have F3 := F2.alloc (o := { cls := .type "list", data := .seq ([] : List Value).toArray }) (r := listR s₂.heap.objs.size []) s₂.toks rfl (fun a e => e) ⟨0, Heap.get?_push_size _ rfl⟩
  have m3 : Md NoX s₁ { s₂ with heap := s₂.heap.push { cls := .type "list", data := .seq ([] : List Value).toArray }, toks := s₂.toks } := m2.trans (.push _) fun _ x => x.elim
  have hD : s₁.heap.get? s₂.heap.objs.size = none := m2.none_of (get?_size _)
  refine comp_env1 F3 m3 hkind hc hx0 henv fun C c s₄ hC hc0 G => ?_
  have hI4 : (ri I).holds s₄.heap := G.rg _ (.tail _ (.head _))
  refine comp_loop (K := K s₂.heap.objs.size) (fun Q E q => hit.2 I s₄ hI4 Q E q) (hl _ I C c s₄ hD hI (m3.none_of hc0) G) (fun s' he => ?_) (ht I)
  obtain ⟨new, loc', G', hn, hk⟩ := he
  have F' : Fm h₀ X s₀ env loc ((nsR C :: new) ++ rs) s' := by
    have hCs : s₁.heap.get? C = none := m3.none_of hC
    refine F.addL G'.mod (fun r hr a f => ?_) (fun r hr => ?_) ?_
    · rcases List.mem_cons.mp hr with rfl | hr
      · have : a = C := f
        subst this
        exact ⟨hCs, (G'.vd _ (.head _)).2⟩
      · exact ⟨hn r hr a f, (G'.rd r (List.mem_append_left _ hr) a f).2.1⟩
    · rcases List.mem_cons.mp hr with rfl | hr
      · obtain ⟨m, q, _⟩ := G'.ns
        exact ⟨m, q⟩
      · exact G'.rg r (List.mem_append_left _ hr)
    · refine List.pairwise_cons.mpr ⟨fun q hq a f g => ?_, (List.pairwise_append.mp G'.rp).1⟩
      have : a = C := f
      subst this
      exact (G'.rd q (List.mem_append_left _ hq) _ g).2.2 (.head _)
  exact hQ _ C new s' hk (m3.none_of hC) F'

theorem ev_comp1 (x0 : Str) {elt iter : Expr} {x : Str} {px : Pos} {ifs : List Expr} {pos : Pos} {Q : Value → Shared → Prop}
    (hx0 : ∀ p ∈ cl, p.1 ≠ x0) (hkind : scope.kind = .function) (hnames : ∀ y ∈ scope.names, y.2 = .local → scope.names.lookup y.1 = some .local)
    (h : wpAny (model prog w) A (eval iter env) (fun xv s₁ => ∃ (loc vals : List (Str × Value)) (rs : List Rg) (ri : Addr → Rg) (K : Addr → List Rg → Prop), Fm h₀ X s₀ env loc rs s₁ ∧ Cap env scope cl loc vals ∧ Iters prog w A h₀ X s₀ env loc rs xv ri s₁ ∧
      (∀ D I C c s₄, s₁.heap.get? D = none → s₁.heap.get? I = none → s₁.heap.get? c = none → Fm h₀ NoX s₁ (compEnvC scope ((x0, c) :: cl) C env) vals (listR D [] :: ri I :: rs) s₄ → CompLoop prog w A h₀ s₁ rs elt x px ifs (compEnvC scope ((x0, c) :: cl) C env) I D (K D) s₄) ∧
      ∀ D new s', K D new → Fm h₀ X s₀ env loc (new ++ rs) s' → Q (.ref D) s') E s)
    (hclos : closureFor scope env = pure cl)
    (henv : newFunctionEnv scope env.globals cl [] env.qual none .none (some env) = (alloc { cls := .type "dict", data := .dict #[] } >>= fun C => alloc { cls := .type "cell", data := .cell none } >>= fun c => pure (newEnv scope C env.globals ((x0, c) :: cl) env.qual none .none (some env) 0)))
    (hs : ∀ x, foldedSetIterable iter env x = pure x := by intro _; with_unfolding_all rfl) (ht : ∀ I v, letOwnedTupleGo (.Name x px) (.ref I) v = pure () := by intro _ _; rfl) :
    wpAny (model prog w) A (eval (.ListComp elt [⟨.Name x px, iter, ifs, 0⟩] scope pos) env) Q E s := by
  rw [eval_ListComp]
  refine wpAny_comprehension_free (use := none) rfl hs hclos hkind hnames (wpAny_mono h (fun xv s₁ h₁ => ?_) fun _ _ e => e)
  obtain ⟨loc, vals, rs, ri, K, F, hc, hit, hl, hQ⟩ := h₁
  refine comp_go1 F hc hx0 henv hkind hit hl (fun D C new s' hk hC F' => ?_) ht
  obtain ⟨m, n⟩ := F'.rg (nsR C) (.head _)
  refine ⟨m, n, fun h' hs' => hQ D new _ hk ?_⟩
  exact F'.gone (a := C) .hit rfl (F.mod.none_of hC) (fun b o hb e => hs'.extBut b o hb e) rfl rfl

end
end
end

section -- L12
open PySem PySem.Calls PySem.W PyProof.Rows
set_option Elab.async false
set_option maxRecDepth 100000
set_option linter.unusedVariables false
noncomputable section



section
variable {prog : Program} {w : World} {A : Around} {P : Params} {h₀ : Heap} {s₁ s : Shared} {cenv : Env} {vals : List (Str × Value)} {rs : List Rg} {l : Addr} {xs : List Value}
/-- a comprehension over a list of numbers that keeps some of them -/
theorem loop_keep {x : Str} {px : Pos} {elt tst : Expr} {I D : Addr} {gs : List (Str × Value)} {ps : List Nat} (keep : Nat → Bool) (hh : A.handled = none) (F : Fm h₀ NoX s₁ cenv vals (listR D [] :: liR I l 0 :: rs) s) (S : Sc h₀ cenv [x] gs) (hm : listR l xs ∈ rs) (hps : IntsAre xs (asI ps))
    (hI : s₁.heap.get? I = none) (hD : s₁.heap.get? D = none) (hIl : I ≠ l) (hv : ∀ p ∈ vals, p.1 ≠ x) (hz : xs.length ≤ 2 ^ 19)
    (test : ∀ q tq ys i s' (Q : Bool → Shared → Prop), q ∈ ps → Fm h₀ NoX s₁ cenv (vals ++ [(x, .int ((q : Nat) : Int) tq)]) (listR D ys :: liR I l (i + 1) :: rs) s' →
      (∀ s'', Fm h₀ NoX s₁ cenv (vals ++ [(x, .int ((q : Nat) : Int) tq)]) (listR D ys :: liR I l (i + 1) :: rs) s'' → Q (keep q) s'') → wpAny (model prog w) A (isTrue tst cenv (eval tst cenv)) Q NoE s')
    (step : ∀ q tq ys i s' (Q : Value → Shared → Prop), q ∈ ps → Fm h₀ NoX s₁ cenv (vals ++ [(x, .int ((q : Nat) : Int) tq)]) (listR D ys :: liR I l (i + 1) :: rs) s' →
      (∀ t s'', Fm h₀ NoX s₁ cenv (vals ++ [(x, .int ((q : Nat) : Int) tq)]) (listR D ys :: liR I l (i + 1) :: rs) s'' → Q (.int ((q : Nat) : Int) t) s'') → wpAny (model prog w) A (eval elt cenv) Q NoE s') :
    CompLoop prog w A h₀ s₁ rs elt x px [tst] cenv I D (fun new => s₁.heap.get? D = none ∧ ∃ ys, new = [listR D ys] ∧ IntsAre ys (asI (ps.filter keep))) s := by
  have hxl : xs.length = ps.length := by have := hps.length; rwa [asI_len] at this
  refine ⟨fun n s' => E3 fun (i : Nat) (ys : List Value) (loc' : List (Str × Value)) => i + n = xs.length ∧ (loc' = vals ∨ ∃ v, loc' = vals ++ [(x, v)]) ∧ IntsAre ys (asI ((ps.take i).filter keep)) ∧
    Fm h₀ NoX s₁ cenv loc' (listR D ys :: liR I l i :: rs) s', xs.length, ⟨0, [], vals, by lia, .inl rfl, .nil, F⟩, ?_⟩
  intro n s7
  (repeat (first | (with_reducible refine WithL.in fun _ _ _ _ => ?_) | (with_reducible refine WithE.in fun _ _ _ => ?_)))
  rintro ⟨i, ys, loc', hin, hl', hys, F7⟩
  have hm' : listR l xs ∈ listR D ys :: liR I l i :: rs := .tail _ (.tail _ hm)
  by_cases hn : n = 0
  · have hi : i = xs.length := by lia
    subst hi
    refine nd_list hh F7 hm' hIl (.skip .hit) hI ?_; intro s8 F8
    rw [hxl, List.take_length] at hys
    exact ⟨[listR D ys], loc', F8, fun r hr a f => by rw [List.mem_singleton.mp hr] at f; rw [show a = D from f]; exact hD, hD, ys, rfl, hys⟩
  · obtain ⟨q, hq⟩ : ∃ q, ps[i]? = some q := ⟨_, List.getElem?_eq_getElem (show i < ps.length by lia)⟩
    have hqm := List.mem_of_getElem? hq
    obtain ⟨tq, htq⟩ := ints_at hps (i := i) (n := (q : Int)) (by rw [asI, List.getElem?_map, hq]; rfl)
    refine nx_list hh F7 hm' hIl (i := i) (by lia) (.skip .hit) hI ?_; intro v s8 hv8 F8
    rw [htq] at hv8
    cases hv8
    refine as_name (st_loc (loc' := vals ++ [(x, .int ((q : Nat) : Int) tq)]) F8 S (by simp) (by rcases hl' with rfl | ⟨u, rfl⟩; exact updL_new hv; exact updL_old hv) ?_); intro s9 F9
    refine wpAny_tests_one ?_
    refine test q tq ys i s9 _ hqm F9 ?_
    intro s10 F10
    have hyl := hys.length
    rw [asI_len] at hyl
    have h1 := List.length_filter_le keep (ps.take i)
    have h2 := List.length_take_le i ps
    have hsn := asI_filter_snoc (p := keep) hq
    refine if_bool (fun c => ?_) (fun c => ?_)
    · rw [if_pos c] at hsn
      refine step q tq ys i s10 _ hqm F10 ?_
      intro t s11 F11
      refine app_list F11 .hit (.inr hD) (by lia) ?_; intro s12 F12
      refine ⟨xs.length - (i + 1), by lia, i + 1, ys ++ [.int ((q : Nat) : Int) t], _, by lia, .inr ⟨_, rfl⟩, ?_, F12⟩
      rw [hsn, asI_snoc]
      exact ints_app hys (.cons _ _ .nil)
    · rw [if_neg (by rw [c]; decide), List.append_nil] at hsn
      refine ⟨xs.length - (i + 1), by lia, i + 1, ys, _, by lia, .inr ⟨_, rfl⟩, ?_, F10⟩
      rw [hsn]; exact hys
end
theorem deep_eq {n k : Nat} (hn : 1 ≤ n) {D : List Nat} (hD : D.Pairwise (· < ·)) (hcl : ∀ x ∈ D, ∀ p ∈ bag n x, p ∈ D) (hne : D ≠ []) (hk : rb n D k = D.length) (hj : ∀ j, j < k → rb n D j < D.length) {M : Int}
    (h1 : M ∈ asI (D.map (dp n))) (h2 : ∀ a, a ∈ asI (D.map (dp n)) → a ≤ M) : M + 1 = (k : Int) := by
  have hlt : ∀ x ∈ D, dp n x < k := fun x hx => by
    have := rb_take hn hD hcl k
    rw [hk, List.take_length] at this
    have h3 : x ∈ D.filter fun x => decide (dp n x < k) := by rw [← this]; exact hx
    exact of_decide_eq_true (List.mem_filter.mp h3).2
  obtain ⟨y, hy, e⟩ := List.mem_map.mp h1
  obtain ⟨z, hz, rfl⟩ := List.mem_map.mp hy
  have hzk := hlt z hz
  have hex : ∃ x ∈ D, k - 1 ≤ dp n x := by
    apply Classical.byContradiction
    intro q
    have hall : ∀ x ∈ D, dp n x < k - 1 := fun x hx => by
      apply Nat.lt_of_not_le
      intro q2
      exact q ⟨x, hx, q2⟩
    have h3 := rb_take hn hD hcl (k - 1)
    rw [List.filter_eq_self.mpr fun x hx => decide_eq_true (hall x hx)] at h3
    have h4 := congrArg List.length h3
    rw [List.length_take] at h4
    have := hj (k - 1) (by lia)
    lia
  obtain ⟨x, hx, hxk⟩ := hex
  have := h2 ((dp n x : Nat) : Int) (asI_mem.mpr (List.mem_map.mpr ⟨x, hx, rfl⟩))
  have := hlt x hx
  lia
end
end

section -- L15
open PySem PySem.Calls PySem.W PyProof.Rows
set_option Elab.async false
set_option maxRecDepth 100000
set_option linter.unusedVariables false
noncomputable section



theorem cap2 {env : Env} {scope : Scope} {x y : Str} {v u : Value} {c e : Addr} {loc : List (Str × Value)} (hne : x ≠ y) (hce : c ≠ e) (h1 : closureFor scope env = pure [(x, c), (y, e)]) (h2 : env.cells.lookup x = some c) (h2' : env.cells.lookup y = some e) (hm : (x, v) ∈ loc) (hm' : (y, u) ∈ loc)
    (h3 : env.kindOf x ≠ some .local) (h3' : env.kindOf y ≠ some .local) (h4 : (relabel scope env).names.lookup x = some .cell) (h4' : (relabel scope env).names.lookup y = some .cell) (h5 : (x == ("__debug__" : Str)) = false) (h5' : (y == ("__debug__" : Str)) = false) : Cap env scope [(x, c), (y, e)] loc [(x, v), (y, u)] := by
  refine ⟨h1, fun p hp => ?_, by simp [hce], by simp [hne], fun p hp => ?_⟩
  · rcases List.mem_cons.mp hp with rfl | hp
    · exact h2
    · rw [List.mem_singleton.mp hp]; exact h2'
  · rcases List.mem_cons.mp hp with rfl | hp
    · exact ⟨hm, ⟨c, by simp⟩, h3, h4, h5⟩
    · rw [List.mem_singleton.mp hp]
      refine ⟨hm', ⟨e, ?_⟩, h3', h4', h5'⟩
      show [(x, c), (y, e)].lookup y = some e
      rw [List.lookup_cons, beq_eq_false_iff_ne.mpr (Ne.symm hne)]; simp

noncomputable abbrev tpD (ns : List Nat) : PyData := .tuple ((asI ns).map PyData.int)
theorem reads_tups {h : Heap} : ∀ {Ts : List (Addr × List Nat)}, (∀ p ∈ Ts, ∃ vs : List Value, h.IsTuple p.1 vs.toArray ∧ IntsAre vs (asI p.2)) → ReadsAll h (Ts.map (fun (q : Addr × List Nat) => Value.ref q.1)) (Ts.map fun (q : Addr × List Nat) => tpD q.2) []
  | [], _ => .nil
  | p :: r, H => by
    obtain ⟨vs, ⟨o, ho, hc, n, hd⟩, hi⟩ := H p (.head _)
    exact ReadsAll.cons (as := []) (bs := []) (.tuple ho hc hd (by simpa using reads_ints hi)) (reads_tups fun q hq => H q (.tail _ hq))
theorem eqv_tups : ∀ (L : List (List Nat)), PyData.eqvAll (L.map tpD) (L.map tpD) = true
  | [] => by simp [PyData.eqvAll]
  | a :: r => by
    rw [List.map_cons]
    unfold PyData.eqvAll
    rw [eqv_tups r, Bool.and_true]
    show PyData.eqv (.tuple ((asI a).map PyData.int)) (.tuple ((asI a).map PyData.int)) = true
    simp only [PyData.eqv, eqv_ints]
    simp
theorem shaped_tups (L : List (List Nat)) : SeqAt.shaped (.list (L.map tpD)) = true := by
  have h1 : ∀ L : List (List Nat), PyData.canLayAll0 (L.map tpD) = true := by
    intro L
    induction L with
    | nil => simp [PyData.canLayAll0]
    | cons a r ih => simp only [List.map_cons, PyData.canLayAll0, PyData.canLay0, ke_canLayAll0, ih, Bool.and_true]
  have h2 : ∀ L : List (List Nat), PyData.depthAll (L.map tpD) ≤ 1 := by
    intro L
    induction L with
    | nil => simp [PyData.depthAll]
    | cons a r ih =>
      rw [List.map_cons]
      simp only [PyData.depthAll, PyData.depth, ke_depthAll]
      lia
  have := h2 L
  simp [SeqAt.shaped, PyData.canLay0, PyData.depth, h1]
  lia

set_option maxHeartbeats 16000000
section
variable {prog : Program} {w : World} {P : Params} {h₀ : Heap} {A : Around} {E : Value → Shared → Prop} {s₀ s : Shared} {L fa : Addr} {cd : Value} {ld lf lr wd' ddp dwn : Addr} {vf vd rvs : List Value} {kvs kd kw : List (Int × Value)} {Ts : List (Addr × List Nat)} {S D : List Nat} {n k : Nat} {t : Tok} {oc : Option Addr} {Q : Flow → Shared → Prop}
theorem segI (B : Base P h₀) (a : Amb A) (hc : ∀ p ∈ (lawEnv L fa cd).cells, s₀.heap.get? p.2 = none) (d : Dt n S D) (hvd : IntsAre vd (asI D)) (hMd : Mp (dpC n) kd D)
    (hk : rb n D k = D.length) (hj : ∀ j, j < k → rb n D j < D.length) (hTs : (Ts.map fun (q : Addr × List Nat) => q.2) = (List.range k).map (fun j => (D.take (rb n D (j + 1))).drop (rb n D j))) (hrv : rvs = Ts.map (fun (q : Addr × List Nat) => Value.ref q.1))
    (F : Fm h₀ NoX s₀ (lawEnv L fa cd) [("width", .int (n : Nat) t), ("due", .ref ld), ("falling", .ref lf), ("rounds", .ref lr), ("words", .ref wd'), ("depths", .ref ddp), ("wanted", .ref dwn)]
        [dicR (intKind prog w) ddp kd, dicR (intKind prog w) dwn kw, dicR (intKind prog w) wd' kvs, listR lr rvs, tpR Ts, listR lf vf, listR ld vd, tI oc, tJ none] s)
    (h : ∀ s', Fm h₀ NoX s₀ (lawEnv L fa cd) [("width", .int (n : Nat) t), ("due", .ref ld), ("falling", .ref lf), ("words", .ref wd'), ("wanted", .ref dwn)] [dicR (intKind prog w) dwn kw, dicR (intKind prog w) wd' kvs, listR lf vf, listR ld vd, tI oc, tJ none] s' →
      wpAny (model prog w) A (execs (lw 19) (lawEnv L fa cd)) Q E s') :
    wpAny (model prog w) A (execs (lw 17) (lawEnv L fa cd)) Q E s := by
  have S0 := sc_law B L fa cd
  have hd' := a.depth
  have hDl := d.len
  have hn1 := d.n1
  obtain ⟨c1, c2, c3, c4, c5⟩ := cel_law hc
  have hvdl : vd.length = D.length := by have := hvd.length; rwa [asI_len] at this
  refine x_assign ?_
  kfm_turns
  refine ev_comp (cl := [("depths", L + 1 + 1 + 1)]) (h₀ := h₀) (X := NoX) (s₀ := s₀) (by decide) rfl (by decide) ?_ (by kernel_rfl)
  kfm_turns
  refine ⟨_, [("depths", .ref ddp)], _, _, fun Dl new => s.heap.get? Dl = none ∧ ∃ ys, new = [listR Dl ys] ∧ ys.length = vd.length ∧ ∀ (i : Nat) (y : Value), ys[i]? = some y → CAt (dpC n) D i y, F,
    cap1 (by kernel_rfl) (by kernel_rfl) (by kqd_in) (by rw [c3.1]; decide) (by kernel_rfl) (by decide), iters_list (xs := vd) F (by kqd_in), ?_, ?_⟩
  · intro Dl J C s12 hDl2 hJ F12
    have S12 := F12.sc (ls := ["size"]) (gs := []) B (by kernel_rfl) (by kernel_rfl) (by kernel_rfl) (by kernel_rfl)
    have hJl : J ≠ ld := fun e => by
      obtain ⟨_, ⟨o, e'⟩, _⟩ := F.rd (listR ld vd) (by kqd_in) ld rfl
      rw [e, e'] at hJ; cases hJ
    refine loop_list (CAt (dpC n) D) a.han F12 S12 (xs := vd) (by kqd_in) hJ hDl2 hJl (by intro p hp; rw [List.mem_singleton.mp hp]; show ("depths" : Str) ≠ "size"; decide) (by lia) ?_
    intro i2 v ys s13 Q' hv F13 hq
    simp only [List.cons_append, List.nil_append] at F13 hq
    obtain ⟨q, hq2⟩ : ∃ q, D[i2]? = some q := by
      have : i2 < vd.length := by
        rcases Nat.lt_or_ge i2 vd.length with c | c
        · exact c
        · rw [List.getElem?_eq_none c] at hv; cases hv
      exact ⟨_, List.getElem?_eq_getElem (show i2 < D.length by lia)⟩
    obtain ⟨tq, htq⟩ := ints_at hvd (i := i2) (n := (q : Int)) (by rw [asI, List.getElem?_map, hq2]; rfl)
    rw [htq] at hv
    cases hv
    obtain ⟨wv, hw1, hw2⟩ := hMd.at' q (List.mem_of_getElem? hq2)
    kfm_turns
    refine sub_int (d := ddp) (by assumption) (by kqd_in) hw1 ?_; intro s14 F14
    exact hq _ _ ⟨q, hq2, hw2⟩ F14
  · rintro Dl new s12 ⟨hDl2, ys, rfl, hyl, hys⟩ F12
    simp only [List.cons_append, List.nil_append] at F12
    have hyi := dps_of (n := n) (ys := ys) (ps := D) (by lia) hys
    kfm_turns
    refine op_max1 a.han F12 (ns := asI (D.map (dp n))) (by kqd_in) hyi (by rw [asI_len, List.length_map]; exact List.length_pos_iff.mpr d.ne) ?_; intro M tM s13 F13 hM1 hM2
    have hMk := deep_eq hn1 d.rise d.cl d.ne hk hj hM1 hM2
    kfm_turns
    refine x_if ?_
    kfm_turns
    rename_i s14 F14
    refine ev_comp1 "depth" (cl := [("due", L + 1), ("depths", L + 1 + 1 + 1)]) (h₀ := h₀) (X := NoX) (s₀ := s₀) (by
      intro p hp
      rcases List.mem_cons.mp hp with rfl | hp
      · show ("due" : Str) ≠ "depth"; decide
      · rw [List.mem_singleton.mp hp]; show ("depths" : Str) ≠ "depth"; decide) rfl (by decide) ?_ (by kernel_rfl) (by with_unfolding_all rfl)
    kfm_turns
    rw [hMk]
    refine op_range (by assumption) ?_; intro ra s15 hra F15
    have F15 := F15.pick (m := [rngR ra 0 (k : Int) 1, dicR (intKind prog w) ddp kd, dicR (intKind prog w) dwn kw, dicR (intKind prog w) wd' kvs, listR lr rvs, tpR Ts, listR lf vf, listR ld vd, tI oc, tJ none]) (by kd_subs)
    have hkb : k ≤ 15 := by
      have := congrArg List.length hTs
      apply Classical.byContradiction
      intro q
      have hinc : ∀ j, j ≤ k → j ≤ rb n D j := by
        intro j
        induction j with
        | zero => intro _; exact Nat.zero_le _
        | succ j ih =>
          intro hjk
          have h1 := hj j (by lia)
          have h2 := en_succ hn1 d.rise d.cl h1
          have h3 := ih (by lia)
          show j + 1 ≤ en n D (rb n D j)
          lia
      have := hinc k (Nat.le_refl _)
      lia
    refine ⟨_, [("due", .ref ld), ("depths", .ref ddp)], _, _, fun Dl new => s15.heap.get? Dl = none ∧ ∃ Us ys, new = [listR Dl ys, tpR Us] ∧ ys = Us.map (fun (q : Addr × List Nat) => Value.ref q.1) ∧ (Us.map fun (q : Addr × List Nat) => q.2) = (List.range k).map (fun j => D.filter fun x => decide (dp n x = j)), F15,
      cap2 (by decide) (Nat.ne_of_lt (Nat.lt_succ_of_lt (Nat.lt_succ_self (L + 1)))) (by kernel_rfl) (by kernel_rfl) (by kernel_rfl) (by kqd_in) (by kqd_in) (by rw [c1.1]; decide) (by rw [c3.1]; decide) (by kernel_rfl) (by kernel_rfl) (by decide) (by decide), iters_rng F15 (by kqd_in) (by lia), ?_, ?_⟩
    · intro Dl I C c s16 hDl hI hcc F16
      have S16 := F16.sc (ls := []) (gs := [("tuple", .type "tuple")]) B (by kernel_rfl) (by kernel_rfl) (by kernel_rfl) (by kernel_rfl)
      have cdp : CelOk F16.env s15 "depth" := ⟨by kernel_rfl, by decide, c, by kernel_rfl, hcc⟩
      refine ⟨fun m s' => E3 fun (j : Nat) (Us : List (Addr × List Nat)) (loc' : List (Str × Value)) => j + m = k ∧ (loc' = [(("due" : Str), Value.ref ld), (("depths" : Str), Value.ref ddp)] ∨ ∃ v : Value, loc' = [(("due" : Str), Value.ref ld), (("depths" : Str), Value.ref ddp), (("depth" : Str), v)]) ∧
        (Us.map fun (q : Addr × List Nat) => q.2) = (List.range j).map (fun j => D.filter fun x => decide (dp n x = j)) ∧ (∀ q ∈ Us, s15.heap.get? q.1 = none) ∧
        Fm h₀ NoX s15 F16.env loc' [listR Dl (Us.map (fun (q : Addr × List Nat) => Value.ref q.1)), tpR Us, riR I (j : Int) ((k : Int) - j) 1, rngR ra 0 (k : Int) 1, dicR (intKind prog w) ddp kd, dicR (intKind prog w) dwn kw, dicR (intKind prog w) wd' kvs, listR lr rvs, tpR Ts, listR lf vf, listR ld vd, tI oc, tJ none] s', k,
        ⟨0, [], _, by lia, .inl rfl, rfl, (fun _ h => nomatch h), ?_⟩, ?_⟩
      · have F17 := F16.addL (new := [tpR []]) (.refl _) (by intro r hr a f; rw [List.mem_singleton.mp hr] at f; cases f) (by intro r hr; rw [List.mem_singleton.mp hr]; exact ⟨.nil, fun q hq => nomatch hq⟩) (List.pairwise_singleton _ _)
        simp only [List.cons_append, List.nil_append] at F17
        rw [show ((k : Int) - ((0 : Nat) : Int)) = (k : Int) by lia]
        exact F17.pick (m := [listR Dl [], tpR [], riR I 0 (k : Int) 1, rngR ra 0 (k : Int) 1, dicR (intKind prog w) ddp kd, dicR (intKind prog w) dwn kw, dicR (intKind prog w) wd' kvs, listR lr rvs, tpR Ts, listR lf vf, listR ld vd, tI oc, tJ none]) (by kd_subs)
      intro m s17
      (repeat (first | (with_reducible refine WithL.in fun _ _ _ _ => ?_) | (with_reducible refine WithE.in fun _ _ _ => ?_)))
      rintro ⟨j, Us, loc', hjm, hl', hUs, hfr, F17⟩
      by_cases hm : m = 0
      · refine nd_rng (x := (j : Int)) (left := (k : Int) - j) (step := 1) a.han F17 (by lia) (by kd_subs) hI ?_; intro s18 F18
        have hjk : j = k := by lia
        subst hjk
        exact ⟨[listR Dl (Us.map (fun (q : Addr × List Nat) => Value.ref q.1)), tpR Us], loc', F18, fun r hr a f => by
          rcases List.mem_cons.mp hr with rfl | hr
          · rw [show a = Dl from f]; exact hDl
          · rw [List.mem_singleton.mp hr] at f
            obtain ⟨q, hq, rfl⟩ := List.mem_map.mp f
            exact hfr q hq, hDl, Us, _, rfl, rfl, hUs⟩
      · refine nx_rng (x := (j : Int)) (left := (k : Int) - j) (step := 1) a.han F17 (by lia) (by kd_subs) hI ?_
        intro tj s18 F18
        rw [show ((j : Int) + 1) = ((j + 1 : Nat) : Int) by lia, show ((k : Int) - j - 1) = (k : Int) - ((j + 1 : Nat) : Int) by lia] at F18
        refine as_name (st_cel (loc' := [(("due" : Str), Value.ref ld), (("depths" : Str), Value.ref ddp), (("depth" : Str), Value.int (j : Int) tj)]) F18 cdp (by rcases hl' with rfl | ⟨v, rfl⟩ <;> kqd_sub) ?_); intro s19 F19
        refine wpAny_tests_nil ?_
        rw [if_pos rfl]
        kfm_turns
        refine ev_comp (cl := [("depths", L + 1 + 1 + 1), ("depth", c)]) (h₀ := h₀) (X := NoX) (s₀ := s15) (by decide) rfl (by decide) ?_ (by kernel_rfl)
        kfm_turns
        have ed : (lawEnv L fa cd).cells.lookup ("depths" : Str) = some (L + 1 + 1 + 1) := by kernel_rfl
        have kd1 : F16.env.kindOf ("depths" : Str) = some .cell := by kernel_rfl
        refine ⟨_, [("depths", .ref ddp), ("depth", .int (j : Int) tj)], _, _, fun El new => s19.heap.get? El = none ∧ ∃ ys, new = [listR El ys] ∧ IntsAre ys (asI (D.filter fun x => decide (dp n x = j))), F19,
          cap2 (by decide) (fun e => by
            obtain ⟨_, o, q⟩ := F15.vd (L + 1 + 1 + 1) (.tail _ (List.mem_map.mpr ⟨_, mem_of_lookup ed, rfl⟩))
            rw [e, hcc] at q; cases q) (by kernel_rfl) (by kernel_rfl) (by kernel_rfl) (by kqd_in) (by kqd_in) (fun e => by have e' := kd1.symm.trans e; cases e') (fun e => by have e' := cdp.1.symm.trans e; cases e') (by kernel_rfl) (by kernel_rfl) (by decide) (by decide), iters_list (xs := vd) F19 (by kqd_in), ?_, ?_⟩
        · intro El J C2 s20 hEl hJ F20
          have S20 := F20.sc (ls := ["size"]) (gs := []) B (by kernel_rfl) (by kernel_rfl) (by kernel_rfl) (by kernel_rfl)
          have hJl : J ≠ ld := fun e => by
            obtain ⟨_, ⟨o, e'⟩, _⟩ := F19.rd (listR ld vd) (by kqd_in) ld rfl
            rw [e, e'] at hJ; cases hJ
          refine loop_keep (ps := D) (fun x => decide (dp n x = j)) a.han F20 S20 (xs := vd) (by kqd_in) hvd hJ hEl hJl (by
            intro p hp
            rcases List.mem_cons.mp hp with rfl | hp
            · show ("depths" : Str) ≠ "size"; decide
            · rw [List.mem_singleton.mp hp]; show ("depth" : Str) ≠ "size"; decide) (by lia) ?_ ?_
          · intro q tq ys i s21 Q' hqD F21 hq
            simp only [List.cons_append, List.nil_append] at F21 hq
            obtain ⟨wv, hw1, tw, rfl⟩ := hMd.at' q hqD
            kfm_turns
            refine sub_int (d := ddp) (by assumption) (by kqd_in) hw1 ?_; intro s22 F22
            kfm_turns
            have e : (((dp n q : Nat) : Int) == ((j : Nat) : Int)) = decide (dp n q = j) := by
              by_cases h : dp n q = j
              · simp [h]
              · have h2 : ¬ ((dp n q : Nat) : Int) = (j : Int) := by lia
                rw [beq_eq_false_iff_ne.mpr h2, decide_eq_false h]
            rw [e]
            exact hq _ F22
          · intro q tq ys i s21 Q' hqD F21 hq
            simp only [List.cons_append, List.nil_append] at F21 hq
            kfm_turns
            exact hq _ _ F21
        · rintro El new s20 ⟨hEl, ys, rfl, hyi⟩ F20
          simp only [List.cons_append, List.nil_append] at F20
          have hyl := hyi.length
          rw [asI_len] at hyl
          have hfl := List.length_filter_le (fun x => decide (dp n x = j)) D
          refine op_tupleL F20 (l := El) (xs := ys) (by kqd_in) (by lia) ?_; intro Tp s21 hTp F21
          have hul : (Us.map (fun (q : Addr × List Nat) => Value.ref q.1)).length = j := by
            have := congrArg List.length hUs
            rw [List.length_map, List.length_map, List.length_range] at this
            rw [List.length_map]; exact this
          refine app_list F21 (l := Dl) (by kd_subs) (.inr hDl) (by lia) ?_; intro s22 F22
          have F23 := F22.tpPush (T := Tp) (Ts := Us) (ns := D.filter fun x => decide (dp n x = j)) (by kd_subs) hyi (by kd_subs)
          refine ⟨k - (j + 1), by lia, j + 1, Us ++ [(Tp, D.filter fun x => decide (dp n x = j))], _, by lia, .inr ⟨Value.int (j : Int) tj, rfl⟩, ?_, ?_, ?_⟩
          · rw [List.map_append, hUs, List.range_succ, List.map_append]; rfl
          · intro q hq
            rcases List.mem_append.mp hq with m | m
            · exact hfr q m
            · rw [List.mem_singleton.mp m]; exact hTp
          · rw [show (Us ++ [(Tp, D.filter fun x => decide (dp n x = j))]).map (fun (q : Addr × List Nat) => Value.ref q.1) = Us.map (fun (q : Addr × List Nat) => Value.ref q.1) ++ [Value.ref Tp] by rw [List.map_append]; rfl]
            exact F23.pick (by kd_subs)
    · rintro Dl new s16 ⟨hDl, Us, ys, rfl, rfl, hUs⟩ F16
      simp only [List.cons_append, List.nil_append] at F16
      kfm_turns
      have e1 : (Ts.map fun (q : Addr × List Nat) => tpD q.2) = (Us.map fun (q : Addr × List Nat) => q.2).map tpD := by
        have e2 : (Ts.map fun (q : Addr × List Nat) => q.2) = Us.map fun (q : Addr × List Nat) => q.2 := by
          rw [hTs, hUs]
          exact List.map_congr_left fun j _ => rb_round hn1 d.rise d.cl j
        rw [← e2, List.map_map]; rfl
      have e3 : (Us.map fun (q : Addr × List Nat) => tpD q.2) = (Us.map fun (q : Addr × List Nat) => q.2).map tpD := by rw [List.map_map]; rfl
      have r1 := reads_tups (F16.rg (tpR Ts) (by kqd_in)).2
      have r2 := reads_tups (F16.rg (tpR Us) (by kqd_in)).2
      rw [e1, ← hrv] at r1
      rw [e3] at r2
      refine op_neL a.units F16 (l := lr) (b := Dl) (by kqd_in) (by kqd_in) r1 r2 (shaped_tups _) (shaped_tups _) ?_
      rw [eqv_tups]
      kfm_turns
      refine if_ff ?_
      refine x_nil ?_
      first | (with_reducible refine (by assumption : ToN _ _) _ _ (by first | exact Nx.n | exact Nx.c) ?_) | (with_reducible refine (by assumption : ToF _ _ _) _ ?_)
      exact h _ (Fm.locsub (F16.pick (by kd_subs)) (by k_subL))
end
end
end

section -- L16
open PySem PySem.Calls PySem.W PyProof.Rows
set_option Elab.async false
set_option maxRecDepth 100000
set_option linter.unusedVariables false
noncomputable section



set_option maxHeartbeats 16000000
section
variable {prog : Program} {w : World} {P : Params} {h₀ : Heap} {A : Around} {E : Value → Shared → Prop} {s₀ s : Shared} {L fa l : Addr} {cd : Value} {vs : List Value} {ns : List Int} {Q : Flow → Shared → Prop}
theorem law_ok (B : Base P h₀) (a : Amb A) (hfr : A.frames = some [lawEnv L fa cd]) (hc : ∀ p ∈ (lawEnv L fa cd).cells, s₀.heap.get? p.2 = none) (h23 : s₀.heap.get? 23 = none) (h30 : s₀.heap.get? 30 = none)
    (F : Fm h₀ NoX s₀ (lawEnv L fa cd) [("script", .ref l)] [tI none, tJ none] s) (hl : h₀.IsList l vs.toArray) (hi : IntsAre vs ns) (hz : vs.length ≤ 63)
    (h : ∀ s' oc oc2, Fm h₀ NoX s₀ (lawEnv L fa cd) [] [tI oc, tJ oc2] s' → Q (.ret (.bool true)) s') :
    wpAny (model prog w) A (execs (lw 0) (lawEnv L fa cd)) Q E s := by
  refine segA B a hc F hl hi hz (fun n S hn1 hn3 hS hDr => ⟨S ++ List.range 12, fun x hx => clos_in hn1 hDr hx, by rw [List.length_append, List.length_range, hS]; decide, fun x hx => Nat.le_trans (clos_len hn1 hDr x hx) (by decide)⟩) ?_
  intro s1 lz ld us vd S D n t hlz hld hus hS3 hn1 hn3 hDr hvd hrise hmem F1
  have d : Dt n S D := ⟨hn1, hn3, hS3, hDr, hrise, hmem⟩
  refine segB B a F1 hus hS3 ?_
  intro s2 lh lf hd hs zs hlh hlf hhd hhs hzs hhp F2
  refine segC B a d h23 hlh hlf hhd F2 hhs hzs hhp ?_
  intro s3 oc ad vf f hoc hvf hf F3
  refine segD B a d hvd hvf hf F3 ?_
  intro s4 T dx dd t1 t2 hT hdx hdd F4
  refine segE B a d hvd hf hT hdx hdd F4 ?_
  intro s5 info idc succ hW F5
  refine segF B a hfr hc d hW F5 ?_
  intro s6 rl vr lr wd' hlr hwd hvr hW6 F6
  refine segG B a hc d hf hlr hwd hvr hW6 F6 ?_
  intro s7 k Ts rvs kvs hk hj hTs hrv hM F7
  refine segH B a hc d hvd F7 ?_
  intro s8 ddp dwn kd kw hdp hwn hMd hMw F8
  refine segI B a hc d hvd hMd hk hj hTs hrv F8 ?_
  intro s9 F9
  refine segJ B a hc d hvd hvf hf hM hMw F9 ?_
  intro s10 lri vr2 hlri hvr2 F10
  refine segK B a hc h30 d hvd hvr2 F10 ?_
  intro s11 oc2 F11
  exact h s11 oc oc2 F11
end
end
end

section -- L17
open PySem PySem.Calls PySem.W PyProof.Rows
set_option Elab.async false
set_option maxRecDepth 100000
set_option linter.unusedVariables false
noncomputable section

theorem base_of {P : Params} {h₀ : Heap} {p : Program} {loose : List Str} {mean : ExcName → Option Value} {mg mb : Str → Option Value} (X : (KH P).In h₀) (T : Top p loose mean mg mb h₀) (c1 : CodeHd h₀ 27 23) (c2 : CodeHd h₀ 34 30) : Base P h₀ :=
  ⟨X, ⟨mg, mb, T.g, T.b, T.builtins⟩, T.nolimit, let ⟨bm, ob, r⟩ := T.bmain; ⟨mg, bm, ob, T.g, r⟩, c1, c2⟩
theorem fm_of {h₀ h₁ : Heap} {L fa l : Addr} {cd : Value} {o1 o2 o3 o4 o5 : Obj} {m : Str → Option Value} {s₀ : Shared} {tk : Nat} (hs : s₀.heap = h₀) (F : Fr h₀ L h₁ m) (hm : m "script" = some (.ref l))
    (N : News h₀ L h₁ [(L + 1 + 1 + 1 + 1 + 1, o5), (L + 1 + 1 + 1 + 1, o4), (L + 1 + 1 + 1, o3), (L + 1 + 1, o2), (L + 1, o1), (30, tabObj #[]), (23, tabObj #[])])
    (d5 : ∃ v, o5.data = .cell v) (d4 : ∃ v, o4.data = .cell v) (d3 : ∃ v, o3.data = .cell v) (d2 : ∃ v, o2.data = .cell v) (d1 : ∃ v, o1.data = .cell v) (hL : 30 < L ∧ 23 < L) :
    Fm h₀ NoX s₀ (lawEnv L fa cd) [("script", .ref l)] [tI none, tJ none] { s₀ with heap := h₁, toks := tk } ∧ ∀ p ∈ (lawEnv L fa cd).cells, s₀.heap.get? p.2 = none := by
  have n5 := N _ (.head _)
  have n4 := N _ (.tail _ (.head _))
  have n3 := N _ (.tail _ (.tail _ (.head _)))
  have n2 := N _ (.tail _ (.tail _ (.tail _ (.head _))))
  have n1 := N _ (.tail _ (.tail _ (.tail _ (.tail _ (.head _)))))
  have n30 := N _ (.tail _ (.tail _ (.tail _ (.tail _ (.tail _ (.head _))))))
  have n23 := N _ (.tail _ (.tail _ (.tail _ (.tail _ (.tail _ (.tail _ (.head _)))))))
  have ec : (lawEnv L fa cd).cells.map (·.2) = [L + 1 + 1 + 1 + 1 + 1, L + 1 + 1 + 1 + 1, L + 1 + 1 + 1, L + 1 + 1, L + 1] := by kernel_rfl
  have hn : h₀.get? L = none := Heap.get?_none_of_le F.above
  have key : ∀ c ∈ (lawEnv L fa cd).cells.map (·.2), h₀.get? c = none ∧ ∃ o v, h₁.get? c = some o ∧ o.data = .cell v := by
    intro c hc
    rw [ec] at hc
    simp only [List.mem_cons, List.not_mem_nil, or_false] at hc
    obtain ⟨v5, d5⟩ := d5
    obtain ⟨v4, d4⟩ := d4
    obtain ⟨v3, d3⟩ := d3
    obtain ⟨v2, d2⟩ := d2
    obtain ⟨v1, d1⟩ := d1
    rcases hc with rfl | rfl | rfl | rfl | rfl
    · exact ⟨n5.2.2, o5, v5, n5.1, d5⟩
    · exact ⟨n4.2.2, o4, v4, n4.1, d4⟩
    · exact ⟨n3.2.2, o3, v3, n3.1, d3⟩
    · exact ⟨n2.2.2, o2, v2, n2.1, d2⟩
    · exact ⟨n1.2.2, o1, v1, n1.1, d1⟩
  have hcel : ∀ p ∈ (lawEnv L fa cd).cells, p.2 ∈ (lawEnv L fa cd).cells.map (·.2) := fun p hp => List.mem_map.mpr ⟨p, hp, rfl⟩
  have nvf : ∀ a, a < L → ¬ vf (lawEnv L fa cd) a := fun a ha v => by
    have v' : a ∈ L :: (lawEnv L fa cd).cells.map (·.2) := v
    rw [ec] at v'
    simp only [List.mem_cons, List.not_mem_nil, or_false] at v'
    have k2 : ∀ k : Nat, ¬ (@LT.lt Nat instLTNat (@HAdd.hAdd Nat Nat Nat instHAdd L k) L) := fun k h => Nat.lt_irrefl L (Nat.lt_of_le_of_lt (Nat.le_add_right L k) h)
    rcases v' with e | e | e | e | e | e
    · rw [e] at ha; exact k2 0 ha
    · rw [e] at ha; exact k2 5 ha
    · rw [e] at ha; exact k2 4 ha
    · rw [e] at ha; exact k2 3 ha
    · rw [e] at ha; exact k2 2 ha
    · rw [e] at ha; exact k2 1 ha
  obtain ⟨oL, es, ep, eL, r⟩ := id F.ns
  refine ⟨⟨⟨fun b o _ e => F.keep b o (hs ▸ e), fun b o e => ⟨o, F.keep b o (hs ▸ e)⟩, rfl, rfl⟩, F.keep, by kernel_rfl, ?_, by simp, ⟨m, F.ns, fun p hp => ?_⟩, by rw [hs]; exact hn, ?_, ?_, ?_, ?_, ?_⟩, fun p hp => by rw [hs]; exact (key _ (hcel p hp)).1⟩
  · show (L :: (lawEnv L fa cd).cells.map (·.2)).Nodup
    rw [ec]
    have nn : ∀ x : Nat, [x, x + 1 + 1 + 1 + 1 + 1, x + 1 + 1 + 1 + 1, x + 1 + 1 + 1, x + 1 + 1, x + 1].Nodup := fun x => by
      simp only [List.nodup_cons, List.mem_cons, List.not_mem_nil, or_false, not_or, not_false_eq_true, List.nodup_nil, and_true]
      lia
    exact nn L
  · rw [List.mem_singleton.mp hp]
    exact .loc (by kernel_rfl) (show (("script" : Str) == ("__debug__" : Str)) = false by decide) hm
  · intro a v
    rcases List.mem_cons.mp v with rfl | v
    · exact ⟨hn, oL, eL⟩
    · obtain ⟨h1, o, _, h2, _⟩ := key a v
      exact ⟨h1, o, h2⟩
  · intro r hr
    rcases List.mem_cons.mp hr with rfl | hr
    · exact ⟨#[], n23.1, by simp [TriplesOk], fun _ => rfl, fun c e => nomatch e⟩
    · rw [List.mem_singleton.mp hr]
      exact ⟨#[], n30.1, by simp [TriplesOk], fun _ => rfl, fun c e => nomatch e⟩
  · intro r hr a f
    rcases List.mem_cons.mp hr with rfl | hr
    · have : a = 23 := f.elim id fun e => nomatch e
      subst this
      exact ⟨n23.2.2, ⟨_, n23.1⟩, nvf _ hL.2⟩
    · rw [List.mem_singleton.mp hr] at f
      have : a = 30 := f.elim id fun e => nomatch e
      subst this
      exact ⟨n30.2.2, ⟨_, n30.1⟩, nvf _ hL.1⟩
  · refine List.pairwise_cons.mpr ⟨fun q hq a f g => ?_, List.pairwise_singleton _ _⟩
    rw [List.mem_singleton.mp hq] at g
    have h1 : a = 23 := f.elim id fun e => nomatch e
    have h2 : a = 30 := g.elim id fun e => nomatch e
    rw [h1] at h2
    exact absurd h2 (by decide)
  · intro p hp
    obtain ⟨_, o, v, e1, e2⟩ := key _ (hcel p hp)
    exact ⟨v, o, e1, e2⟩
end
end

section -- L18
open PySem PySem.W PyProof.Rows
set_option Elab.async false
set_option maxRecDepth 100000
set_option maxHeartbeats 16000000
theorem law_holds : PySem.Challenge.rw_op0200_01.Holds := by
  refine hd ?_
  show WalkO vw ["_NodeInfo"] (XL vw []) (kmHook KH adrs adrs_ok [30, 23]).says PySem.Challenge.rw_op0200_01.row.toRowW lawD [] _
  k_go0
  rename (KH _).In _ => HX
  rename Top _ _ _ _ _ (ghostOf _ _) => HT
  rename Fr _ _ _ _ => HF
  rename News _ _ _ _ => HN
  rename IntsAre _ _ => HI
  rename _ < _ ∧ _ < _ => HL
  rename ¬ (_ < (_ : Int)) => HZ
  rename Shared.gens _ = #[] => HG
  rename Shared => s1
  have c1 : CodeHd (ghostOf s1.heap [(34, 30), (27, 23)]) 27 23 := by assumption
  have c2 : CodeHd (ghostOf s1.heap [(34, 30), (27, 23)]) 34 30 := by assumption
  have B := base_of HX HT c1 c2
  refine law_ok (s₀ := { s1 with heap := ghostOf s1.heap [(34, 30), (27, 23)] }) B ⟨of_decide_eq_true (by kernel_rfl), rfl, of_decide_eq_true (by kernel_rfl)⟩ rfl ?hc ?h23 ?h30 ?F lifted HI ?hz ?h
  case F => exact (fm_of (s₀ := { s1 with heap := ghostOf s1.heap [(34, 30), (27, 23)] }) rfl HF rfl HN ⟨_, by assumption⟩ ⟨_, by assumption⟩ ⟨_, by assumption⟩ ⟨_, by assumption⟩ ⟨_, by assumption⟩ HL).1
  case hc => exact (fm_of (s₀ := { s1 with heap := ghostOf s1.heap [(34, 30), (27, 23)] }) (tk := 0) rfl HF rfl HN ⟨_, by assumption⟩ ⟨_, by assumption⟩ ⟨_, by assumption⟩ ⟨_, by assumption⟩ ⟨_, by assumption⟩ HL).2
  case h23 => exact (HN (23, tabObj #[]) (by simp)).2.2
  case h30 => exact (HN (30, tabObj #[]) (by simp)).2.2
  case hz => have := HI.length; lia
  case h =>
    intro s' oc oc2 F
    obtain ⟨p1, q1, _⟩ := F.rg (tI oc) (by simp)
    obtain ⟨p2, q2, _⟩ := F.rg (tJ oc2) (by simp)
    refine ⟨⟨.inl ⟨.bool true, .bool true, [], rfl, fun _ => rfl, .bool true, (by first | kernel_rfl | with_unfolding_all rfl), fun _ => ⟨.nil, fun _ h => nomatch h⟩⟩, fun b o e => F.mod.keep b o id e, F.mod.os, F.mod.gens.trans HG⟩, ⟨p2, q2⟩, ⟨p1, q1⟩, trivial⟩
end

end Mine
theorem PySem.Challenge.cw_op0200_01_holds : PySem.Challenge.rw_op0200_01.Holds := by
  exact Mine.law_holds
