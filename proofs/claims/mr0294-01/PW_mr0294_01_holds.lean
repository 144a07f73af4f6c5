import PyProof.Rows.All
import Wide.All
import OpenK.AllK
import Wide.FinOn
import KE.KStar
import KE.KPar
import PySem.Challenge.RW_mr0294_01
section
open PySem PySem.W PyProof.Rows PySem.Calls
set_option Elab.async false
set_option maxRecDepth 100000
set_option linter.unusedVariables false
namespace Mine
def top (i : Nat) : Stmt := PySem.Challenge.pw_mr0294_01.main.body.getD i (.Pass ⟨0, 0, 0, 0⟩)
def clsBody : Stmt → List Stmt
  | .ClassDef _ _ _ b _ _ _ _ _ _ _ => b
  | _ => []
def meth (i j : Nat) : Stmt := (clsBody (top i)).getD j (.Pass ⟨0, 0, 0, 0⟩)
def fBody : Stmt → List Stmt
  | .FunctionDef _ _ b _ _ _ _ _ _ _ => b
  | _ => []
def fArgs : Stmt → Arguments
  | .FunctionDef _ a _ _ _ _ _ _ _ _ => a
  | _ => ⟨[], [], none, [], [], none, []⟩
def fName : Stmt → Str
  | .FunctionDef n _ _ _ _ _ _ _ _ _ => n
  | _ => Str.empty
def fScope : Stmt → Scope
  | .FunctionDef _ _ _ _ _ _ sc _ _ _ => sc
  | _ => ⟨.module, [], false, false, []⟩
def fdOf (st : Stmt) (qual : Str) (dflt doc pm : Value) (an : Option Addr) (code ct : Value) : FuncData :=
  { name := fName st, qualname := qual, params := fArgs st, body := .stmts (fBody st), scope := fScope st, globals := mainGlobals, closure := [], defaults := dflt, kwdefaults := .none,
    doc := doc, pyModule := pm, annotations := an, code := code, closureTuple := ct, builtins := builtinsNs }
noncomputable def kpart1 (P : Params) : Frag :=
  [(2, { cls := Value.none, data := Data.dict #[] }),
   (3, { cls := Value.type "dict", data := Data.dict #[{ hash := PyData.keyHash P (Str.ofString "__name__"), key := Value.str (Str.ofString "__name__") 165, val := Value.str (Str.ofString "law_mr0294_01") 490 }, { hash := PyData.keyHash P (Str.ofString "__doc__"), key := Value.str (Str.ofString "__doc__") 166, val := Value.none }, { hash := PyData.keyHash P (Str.ofString "__package__"), key := Value.str (Str.ofString "__package__") 167, val := Value.none }, { hash := PyData.keyHash P (Str.ofString "__loader__"), key := Value.str (Str.ofString "__loader__") 168, val := Value.builtin "__main__.__loader__#opaque" }, { hash := PyData.keyHash P (Str.ofString "__spec__"), key := Value.str (Str.ofString "__spec__") 169, val := Value.none }, { hash := PyData.keyHash P (Str.ofString "__annotations__"), key := Value.str (Str.ofString "__annotations__") 170, val := Value.ref 6 }, { hash := PyData.keyHash P (Str.ofString "__builtins__"), key := Value.str (Str.ofString "__builtins__") 171, val := Value.ref 4 }, { hash := PyData.keyHash P (Str.ofString "__file__"), key := Value.str (Str.ofString "__file__") 173, val := Value.str (Str.ofString "/claim/cut.py") 172 }, { hash := PyData.keyHash P (Str.ofString "__cached__"), key := Value.str (Str.ofString "__cached__") 174, val := Value.none }, { hash := PyData.keyHash P (Str.ofString "_wall"), key := Value.str (Str.ofString "_wall") 193, val := Value.ref 21 }, { hash := PyData.keyHash P (Str.ofString "_NODE_OUT"), key := Value.str (Str.ofString "_NODE_OUT") 198, val := Value.int (-1) 197 }, { hash := PyData.keyHash P (Str.ofString "_NODE_DONE"), key := Value.str (Str.ofString "_NODE_DONE") 201, val := Value.int (-2) 200 }, { hash := PyData.keyHash P (Str.ofString "_NodeInfo"), key := Value.str (Str.ofString "_NodeInfo") 238, val := Value.ref 40 }, { hash := PyData.keyHash P (Str.ofString "CycleError"), key := Value.str (Str.ofString "CycleError") 256, val := Value.ref 55 }, { hash := PyData.keyHash P (Str.ofString "TopologicalSorter"), key := Value.str (Str.ofString "TopologicalSorter") 375, val := Value.ref 137 }, { hash := PyData.keyHash P (Str.ofString "_ctoi"), key := Value.str (Str.ofString "_ctoi") 384, val := Value.ref 148 }, { hash := PyData.keyHash P (Str.ofString "isalnum"), key := Value.str (Str.ofString "isalnum") 391, val := Value.ref 155 }, { hash := PyData.keyHash P (Str.ofString "isalpha"), key := Value.str (Str.ofString "isalpha") 398, val := Value.ref 162 }, { hash := PyData.keyHash P (Str.ofString "isascii"), key := Value.str (Str.ofString "isascii") 405, val := Value.ref 169 }, { hash := PyData.keyHash P (Str.ofString "isblank"), key := Value.str (Str.ofString "isblank") 412, val := Value.ref 176 }, { hash := PyData.keyHash P (Str.ofString "iscntrl"), key := Value.str (Str.ofString "iscntrl") 419, val := Value.ref 183 }, { hash := PyData.keyHash P (Str.ofString "isdigit"), key := Value.str (Str.ofString "isdigit") 426, val := Value.ref 190 }, { hash := PyData.keyHash P (Str.ofString "isgraph"), key := Value.str (Str.ofString "isgraph") 433, val := Value.ref 197 }, { hash := PyData.keyHash P (Str.ofString "islower"), key := Value.str (Str.ofString "islower") 440, val := Value.ref 204 }, { hash := PyData.keyHash P (Str.ofString "isprint"), key := Value.str (Str.ofString "isprint") 447, val := Value.ref 211 }, { hash := PyData.keyHash P (Str.ofString "ispunct"), key := Value.str (Str.ofString "ispunct") 454, val := Value.ref 218 }, { hash := PyData.keyHash P (Str.ofString "isspace"), key := Value.str (Str.ofString "isspace") 461, val := Value.ref 225 }, { hash := PyData.keyHash P (Str.ofString "isupper"), key := Value.str (Str.ofString "isupper") 468, val := Value.ref 232 }, { hash := PyData.keyHash P (Str.ofString "isxdigit"), key := Value.str (Str.ofString "isxdigit") 475, val := Value.ref 239 }, { hash := PyData.keyHash P (Str.ofString "isctrl"), key := Value.str (Str.ofString "isctrl") 482, val := Value.ref 246 }, { hash := PyData.keyHash P (Str.ofString "ismeta"), key := Value.str (Str.ofString "ismeta") 489, val := Value.ref 253 }, { hash := PyData.keyHash P (Str.ofString "_law_kinds"), key := Value.str (Str.ofString "_law_kinds") 497, val := Value.ref 258 }, { hash := PyData.keyHash P (Str.ofString "_law_thing"), key := Value.str (Str.ofString "_law_thing") 505, val := Value.ref 265 }, { hash := PyData.keyHash P (Str.ofString "_law_ties"), key := Value.str (Str.ofString "_law_ties") 511, val := Value.ref 270 }, { hash := PyData.keyHash P (Str.ofString "law"), key := Value.str (Str.ofString "law") 517, val := Value.ref 275 }] 35 }),
   (35, { cls := Value.type "code", data := Data.fields #[Value.str (Str.ofString "__init__") 218, Value.str (Str.ofString "_NodeInfo.__init__") 219, Value.str (Str.ofString "/claim/cut.py") 220, Value.int 10 0, Value.int 2 0, Value.int 0 0, Value.int 0 0, Value.int 3 0, Value.ref 30, Value.bool true, Value.int 181 0, Value.ref 31, Value.none, Value.ref 32, Value.ref 33, Value.ref 34, Value.int 223 0, Value.int 10 0, Value.str (Str.ofString "/claim/cut.py") 224] }),
   (36, ⟨Value.type "function", none, Data.func (fdOf (meth 4 1) "_NodeInfo.__init__" (Value.none) (Value.none) (Value.str (Str.ofString "cpy313.graphlib") 194) (none) (Value.ref 35) (Value.none)), #[]⟩),
   (39, { cls := Value.type "dict", data := Data.dict #[{ hash := PyData.keyHash P (Str.ofString "__module__"), key := Value.str (Str.ofString "__module__") 209, val := Value.str (Str.ofString "cpy313.graphlib") 194 }, { hash := PyData.keyHash P (Str.ofString "__firstlineno__"), key := Value.str (Str.ofString "__firstlineno__") 213, val := Value.int 7 212 }, { hash := PyData.keyHash P (Str.ofString "__slots__"), key := Value.str (Str.ofString "__slots__") 217, val := Value.ref 29 }, { hash := PyData.keyHash P (Str.ofString "__init__"), key := Value.str (Str.ofString "__init__") 225, val := Value.ref 36 }, { hash := PyData.keyHash P (Str.ofString "__static_attributes__"), key := Value.str (Str.ofString "__static_attributes__") 229, val := Value.ref 37 }, { hash := PyData.keyHash P (Str.ofString "node"), key := Value.str (Str.ofString "node") 231, val := Value.ref 41 }, { hash := PyData.keyHash P (Str.ofString "npredecessors"), key := Value.str (Str.ofString "npredecessors") 233, val := Value.ref 42 }, { hash := PyData.keyHash P (Str.ofString "successors"), key := Value.str (Str.ofString "successors") 235, val := Value.ref 43 }, { hash := PyData.keyHash P (Str.ofString "__doc__"), key := Value.str (Str.ofString "__doc__") 236, val := Value.none }] 5 }),
   (40, { cls := Value.type "type", data := Data.cls { name := Str.ofString "_NodeInfo", bases := [Value.type "object"], mro := [Value.ref 40, Value.type "object"], ns := 39, qualname := Str.ofString "_NodeInfo", hasDict := false, slotNames := [Str.ofString "node", Str.ofString "npredecessors", Str.ofString "successors"] }, slots := #[none, none, some (Value.str (Str.ofString "_NodeInfo") 202), some (Value.str (Str.ofString "_NodeInfo") 210), some (Value.builtin "object.__new__"), some (Value.bool false)] }),
   (41, { cls := Value.type "member_descriptor", data := Data.fields #[Value.str (Str.ofString "node") 230, Value.ref 40, Value.builtin "proto.slot", Value.builtin "proto.slot#set", Value.int 2 0] }),
   (42, { cls := Value.type "member_descriptor", data := Data.fields #[Value.str (Str.ofString "npredecessors") 232, Value.ref 40, Value.builtin "proto.slot", Value.builtin "proto.slot#set", Value.int 1 0] }),
   (43, { cls := Value.type "member_descriptor", data := Data.fields #[Value.str (Str.ofString "successors") 234, Value.ref 40, Value.builtin "proto.slot", Value.builtin "proto.slot#set", Value.int 0 0] }),
   (66, { cls := Value.type "tuple", data := Data.seq #[Value.none] })]
noncomputable def kpart2 (P : Params) : Frag :=
  [(72, { cls := Value.type "code", data := Data.fields #[Value.str (Str.ofString "__init__") 269, Value.str (Str.ofString "TopologicalSorter.__init__") 270, Value.str (Str.ofString "/claim/cut.py") 271, Value.int 18 0, Value.int 2 0, Value.int 0 0, Value.int 0 0, Value.int 3 0, Value.ref 67, Value.bool true, Value.int 181 0, Value.ref 68, Value.none, Value.ref 69, Value.ref 70, Value.ref 71, Value.int 276 0, Value.int 18 0, Value.str (Str.ofString "/claim/cut.py") 277] }),
   (73, ⟨Value.type "function", none, Data.func (fdOf (meth 6 0) "TopologicalSorter.__init__" (Value.ref 66) (Value.none) (Value.str (Str.ofString "cpy313.graphlib") 194) (none) (Value.ref 72) (Value.none)), #[]⟩),
   (79, { cls := Value.type "code", data := Data.fields #[Value.str (Str.ofString "_get_nodeinfo") 279, Value.str (Str.ofString "TopologicalSorter._get_nodeinfo") 280, Value.str (Str.ofString "/claim/cut.py") 281, Value.int 27 0, Value.int 2 0, Value.int 0 0, Value.int 0 0, Value.int 3 0, Value.ref 74, Value.bool true, Value.int 181 0, Value.ref 75, Value.none, Value.ref 76, Value.ref 77, Value.ref 78, Value.int 285 0, Value.int 27 0, Value.str (Str.ofString "/claim/cut.py") 286] }),
   (80, ⟨Value.type "function", none, Data.func (fdOf (meth 6 1) "TopologicalSorter._get_nodeinfo" (Value.none) (Value.none) (Value.str (Str.ofString "cpy313.graphlib") 194) (none) (Value.ref 79) (Value.none)), #[]⟩),
   (86, { cls := Value.type "code", data := Data.fields #[Value.str (Str.ofString "add") 288, Value.str (Str.ofString "TopologicalSorter.add") 289, Value.str (Str.ofString "/claim/cut.py") 290, Value.int 32 0, Value.int 2 0, Value.int 0 0, Value.int 0 0, Value.int 7 0, Value.ref 81, Value.bool true, Value.int 181 0, Value.ref 82, Value.none, Value.ref 83, Value.ref 84, Value.ref 85, Value.int 297 0, Value.int 32 0, Value.str (Str.ofString "/claim/cut.py") 298] }),
   (87, ⟨Value.type "function", none, Data.func (fdOf (meth 6 2) "TopologicalSorter.add" (Value.none) (Value.none) (Value.str (Str.ofString "cpy313.graphlib") 194) (none) (Value.ref 86) (Value.none)), #[]⟩),
   (91, { cls := Value.type "code", data := Data.fields #[Value.str (Str.ofString "prepare") 300, Value.str (Str.ofString "TopologicalSorter.prepare") 301, Value.str (Str.ofString "/claim/cut.py") 302, Value.int 41 0, Value.int 1 0, Value.int 0 0, Value.int 0 0, Value.int 3 0, Value.ref 88, Value.bool true, Value.int 181 0, Value.ref 89, Value.none, Value.none, Value.none, Value.ref 90, Value.int 303 0, Value.int 41 0, Value.str (Str.ofString "/claim/cut.py") 304] }),
   (92, ⟨Value.type "function", none, Data.func (fdOf (meth 6 3) "TopologicalSorter.prepare" (Value.none) (Value.none) (Value.str (Str.ofString "cpy313.graphlib") 194) (none) (Value.ref 91) (Value.none)), #[]⟩),
   (98, { cls := Value.type "code", data := Data.fields #[Value.str (Str.ofString "get_ready") 306, Value.str (Str.ofString "TopologicalSorter.get_ready") 307, Value.str (Str.ofString "/claim/cut.py") 308, Value.int 49 0, Value.int 1 0, Value.int 0 0, Value.int 0 0, Value.int 3 0, Value.ref 93, Value.bool true, Value.int 181 0, Value.ref 94, Value.none, Value.ref 95, Value.ref 96, Value.ref 97, Value.int 313 0, Value.int 49 0, Value.str (Str.ofString "/claim/cut.py") 314] }),
   (99, ⟨Value.type "function", none, Data.func (fdOf (meth 6 4) "TopologicalSorter.get_ready" (Value.none) (Value.none) (Value.str (Str.ofString "cpy313.graphlib") 194) (none) (Value.ref 98) (Value.none)), #[]⟩)]
noncomputable def kpart3 (P : Params) : Frag :=
  [(105, { cls := Value.type "code", data := Data.fields #[Value.str (Str.ofString "is_active") 316, Value.str (Str.ofString "TopologicalSorter.is_active") 317, Value.str (Str.ofString "/claim/cut.py") 318, Value.int 60 0, Value.int 1 0, Value.int 0 0, Value.int 0 0, Value.int 3 0, Value.ref 100, Value.bool true, Value.int 181 0, Value.ref 101, Value.none, Value.ref 102, Value.ref 103, Value.ref 104, Value.int 320 0, Value.int 60 0, Value.str (Str.ofString "/claim/cut.py") 321] }),
   (106, ⟨Value.type "function", none, Data.func (fdOf (meth 6 5) "TopologicalSorter.is_active" (Value.none) (Value.none) (Value.str (Str.ofString "cpy313.graphlib") 194) (none) (Value.ref 105) (Value.none)), #[]⟩),
   (119, { cls := Value.type "code", data := Data.fields #[Value.str (Str.ofString "done") 330, Value.str (Str.ofString "TopologicalSorter.done") 331, Value.str (Str.ofString "/claim/cut.py") 332, Value.int 68 0, Value.int 1 0, Value.int 0 0, Value.int 0 0, Value.int 7 0, Value.ref 114, Value.bool true, Value.int 181 0, Value.ref 115, Value.none, Value.ref 116, Value.ref 117, Value.ref 118, Value.int 341 0, Value.int 68 0, Value.str (Str.ofString "/claim/cut.py") 342] }),
   (120, ⟨Value.type "function", none, Data.func (fdOf (meth 6 7) "TopologicalSorter.done" (Value.none) (Value.none) (Value.str (Str.ofString "cpy313.graphlib") 194) (none) (Value.ref 119) (Value.none)), #[]⟩),
   (126, { cls := Value.type "code", data := Data.fields #[Value.str (Str.ofString "_find_cycle") 344, Value.str (Str.ofString "TopologicalSorter._find_cycle") 345, Value.str (Str.ofString "/claim/cut.py") 346, Value.int 91 0, Value.int 1 0, Value.int 0 0, Value.int 0 0, Value.int 3 0, Value.ref 121, Value.bool true, Value.int 181 0, Value.ref 122, Value.none, Value.ref 123, Value.ref 124, Value.ref 125, Value.int 354 0, Value.int 91 0, Value.str (Str.ofString "/claim/cut.py") 355] }),
   (127, ⟨Value.type "function", none, Data.func (fdOf (meth 6 8) "TopologicalSorter._find_cycle" (Value.none) (Value.none) (Value.str (Str.ofString "cpy313.graphlib") 194) (none) (Value.ref 126) (Value.none)), #[]⟩),
   (136, { cls := Value.type "dict", data := Data.dict #[{ hash := PyData.keyHash P (Str.ofString "__module__"), key := Value.str (Str.ofString "__module__") 264, val := Value.str (Str.ofString "cpy313.graphlib") 194 }, { hash := PyData.keyHash P (Str.ofString "__firstlineno__"), key := Value.str (Str.ofString "__firstlineno__") 268, val := Value.int 16 267 }, { hash := PyData.keyHash P (Str.ofString "__init__"), key := Value.str (Str.ofString "__init__") 278, val := Value.ref 73 }, { hash := PyData.keyHash P (Str.ofString "_get_nodeinfo"), key := Value.str (Str.ofString "_get_nodeinfo") 287, val := Value.ref 80 }, { hash := PyData.keyHash P (Str.ofString "add"), key := Value.str (Str.ofString "add") 299, val := Value.ref 87 }, { hash := PyData.keyHash P (Str.ofString "prepare"), key := Value.str (Str.ofString "prepare") 305, val := Value.ref 92 }, { hash := PyData.keyHash P (Str.ofString "get_ready"), key := Value.str (Str.ofString "get_ready") 315, val := Value.ref 99 }, { hash := PyData.keyHash P (Str.ofString "is_active"), key := Value.str (Str.ofString "is_active") 322, val := Value.ref 106 }, { hash := PyData.keyHash P (Str.ofString "__bool__"), key := Value.str (Str.ofString "__bool__") 329, val := Value.ref 113 }, { hash := PyData.keyHash P (Str.ofString "done"), key := Value.str (Str.ofString "done") 343, val := Value.ref 120 }, { hash := PyData.keyHash P (Str.ofString "_find_cycle"), key := Value.str (Str.ofString "_find_cycle") 356, val := Value.ref 127 }, { hash := PyData.keyHash P (Str.ofString "static_order"), key := Value.str (Str.ofString "static_order") 363, val := Value.ref 134 }, { hash := PyData.keyHash P (Str.ofString "__static_attributes__"), key := Value.str (Str.ofString "__static_attributes__") 368, val := Value.ref 135 }, { hash := PyData.keyHash P (Str.ofString "__dict__"), key := Value.str (Str.ofString "__dict__") 370, val := Value.ref 138 }, { hash := PyData.keyHash P (Str.ofString "__weakref__"), key := Value.str (Str.ofString "__weakref__") 372, val := Value.ref 139 }, { hash := PyData.keyHash P (Str.ofString "__doc__"), key := Value.str (Str.ofString "__doc__") 373, val := Value.none }] 4 }),
   (137, { cls := Value.type "type", data := Data.cls { name := Str.ofString "TopologicalSorter", bases := [Value.type "object"], mro := [Value.ref 137, Value.type "object"], ns := 136, qualname := Str.ofString "TopologicalSorter" }, slots := #[none, none, some (Value.str (Str.ofString "TopologicalSorter") 257), some (Value.str (Str.ofString "TopologicalSorter") 265), some (Value.builtin "object.__new__"), some (Value.bool true)] }),
   (138, { cls := Value.type "getset_descriptor", data := Data.fields #[Value.str (Str.ofString "__dict__") 369, Value.ref 137, Value.builtin "function.__dict__", Value.builtin "function.__dict__#set"] }),
   (139, { cls := Value.type "getset_descriptor", data := Data.fields #[Value.str (Str.ofString "__weakref__") 371, Value.ref 137, Value.builtin "ExceptionGroup.__weakref__", Value.none] })]
noncomputable def kpart4 (P : Params) : Frag :=
  [(147, { cls := Value.type "code", data := Data.fields #[Value.str (Str.ofString "_ctoi") 378, Value.str (Str.ofString "_ctoi") 379, Value.str (Str.ofString "/claim/cut.py") 380, Value.int 123 0, Value.int 1 0, Value.int 0 0, Value.int 0 0, Value.int 3 0, Value.ref 142, Value.bool true, Value.int 181 0, Value.ref 143, Value.none, Value.ref 144, Value.ref 145, Value.ref 146, Value.int 382 0, Value.int 123 0, Value.str (Str.ofString "/claim/cut.py") 383] }),
   (148, ⟨Value.type "function", none, Data.func (fdOf (top 8) "_ctoi" (Value.none) (Value.none) (Value.str (Str.ofString "cpy313.curses.ascii") 376) (none) (Value.ref 147) (Value.none)), #[]⟩),
   (154, { cls := Value.type "code", data := Data.fields #[Value.str (Str.ofString "isalnum") 385, Value.str (Str.ofString "isalnum") 386, Value.str (Str.ofString "/claim/cut.py") 387, Value.int 128 0, Value.int 1 0, Value.int 0 0, Value.int 0 0, Value.int 3 0, Value.ref 149, Value.bool true, Value.int 181 0, Value.ref 150, Value.none, Value.ref 151, Value.ref 152, Value.ref 153, Value.int 389 0, Value.int 128 0, Value.str (Str.ofString "/claim/cut.py") 390] }),
   (155, ⟨Value.type "function", none, Data.func (fdOf (top 9) "isalnum" (Value.none) (Value.none) (Value.str (Str.ofString "cpy313.curses.ascii") 376) (none) (Value.ref 154) (Value.none)), #[]⟩),
   (161, { cls := Value.type "code", data := Data.fields #[Value.str (Str.ofString "isalpha") 392, Value.str (Str.ofString "isalpha") 393, Value.str (Str.ofString "/claim/cut.py") 394, Value.int 130 0, Value.int 1 0, Value.int 0 0, Value.int 0 0, Value.int 3 0, Value.ref 156, Value.bool true, Value.int 181 0, Value.ref 157, Value.none, Value.ref 158, Value.ref 159, Value.ref 160, Value.int 396 0, Value.int 130 0, Value.str (Str.ofString "/claim/cut.py") 397] }),
   (162, ⟨Value.type "function", none, Data.func (fdOf (top 10) "isalpha" (Value.none) (Value.none) (Value.str (Str.ofString "cpy313.curses.ascii") 376) (none) (Value.ref 161) (Value.none)), #[]⟩),
   (168, { cls := Value.type "code", data := Data.fields #[Value.str (Str.ofString "isascii") 399, Value.str (Str.ofString "isascii") 400, Value.str (Str.ofString "/claim/cut.py") 401, Value.int 132 0, Value.int 1 0, Value.int 0 0, Value.int 0 0, Value.int 3 0, Value.ref 163, Value.bool true, Value.int 181 0, Value.ref 164, Value.none, Value.ref 165, Value.ref 166, Value.ref 167, Value.int 403 0, Value.int 132 0, Value.str (Str.ofString "/claim/cut.py") 404] }),
   (169, ⟨Value.type "function", none, Data.func (fdOf (top 11) "isascii" (Value.none) (Value.none) (Value.str (Str.ofString "cpy313.curses.ascii") 376) (none) (Value.ref 168) (Value.none)), #[]⟩),
   (175, { cls := Value.type "code", data := Data.fields #[Value.str (Str.ofString "isblank") 406, Value.str (Str.ofString "isblank") 407, Value.str (Str.ofString "/claim/cut.py") 408, Value.int 134 0, Value.int 1 0, Value.int 0 0, Value.int 0 0, Value.int 3 0, Value.ref 170, Value.bool true, Value.int 181 0, Value.ref 171, Value.none, Value.ref 172, Value.ref 173, Value.ref 174, Value.int 410 0, Value.int 134 0, Value.str (Str.ofString "/claim/cut.py") 411] }),
   (176, ⟨Value.type "function", none, Data.func (fdOf (top 12) "isblank" (Value.none) (Value.none) (Value.str (Str.ofString "cpy313.curses.ascii") 376) (none) (Value.ref 175) (Value.none)), #[]⟩)]
noncomputable def kpart5 (P : Params) : Frag :=
  [(182, { cls := Value.type "code", data := Data.fields #[Value.str (Str.ofString "iscntrl") 413, Value.str (Str.ofString "iscntrl") 414, Value.str (Str.ofString "/claim/cut.py") 415, Value.int 136 0, Value.int 1 0, Value.int 0 0, Value.int 0 0, Value.int 3 0, Value.ref 177, Value.bool true, Value.int 181 0, Value.ref 178, Value.none, Value.ref 179, Value.ref 180, Value.ref 181, Value.int 417 0, Value.int 136 0, Value.str (Str.ofString "/claim/cut.py") 418] }),
   (183, ⟨Value.type "function", none, Data.func (fdOf (top 13) "iscntrl" (Value.none) (Value.none) (Value.str (Str.ofString "cpy313.curses.ascii") 376) (none) (Value.ref 182) (Value.none)), #[]⟩),
   (189, { cls := Value.type "code", data := Data.fields #[Value.str (Str.ofString "isdigit") 420, Value.str (Str.ofString "isdigit") 421, Value.str (Str.ofString "/claim/cut.py") 422, Value.int 138 0, Value.int 1 0, Value.int 0 0, Value.int 0 0, Value.int 3 0, Value.ref 184, Value.bool true, Value.int 181 0, Value.ref 185, Value.none, Value.ref 186, Value.ref 187, Value.ref 188, Value.int 424 0, Value.int 138 0, Value.str (Str.ofString "/claim/cut.py") 425] }),
   (190, ⟨Value.type "function", none, Data.func (fdOf (top 14) "isdigit" (Value.none) (Value.none) (Value.str (Str.ofString "cpy313.curses.ascii") 376) (none) (Value.ref 189) (Value.none)), #[]⟩),
   (196, { cls := Value.type "code", data := Data.fields #[Value.str (Str.ofString "isgraph") 427, Value.str (Str.ofString "isgraph") 428, Value.str (Str.ofString "/claim/cut.py") 429, Value.int 140 0, Value.int 1 0, Value.int 0 0, Value.int 0 0, Value.int 3 0, Value.ref 191, Value.bool true, Value.int 181 0, Value.ref 192, Value.none, Value.ref 193, Value.ref 194, Value.ref 195, Value.int 431 0, Value.int 140 0, Value.str (Str.ofString "/claim/cut.py") 432] }),
   (197, ⟨Value.type "function", none, Data.func (fdOf (top 15) "isgraph" (Value.none) (Value.none) (Value.str (Str.ofString "cpy313.curses.ascii") 376) (none) (Value.ref 196) (Value.none)), #[]⟩),
   (203, { cls := Value.type "code", data := Data.fields #[Value.str (Str.ofString "islower") 434, Value.str (Str.ofString "islower") 435, Value.str (Str.ofString "/claim/cut.py") 436, Value.int 142 0, Value.int 1 0, Value.int 0 0, Value.int 0 0, Value.int 3 0, Value.ref 198, Value.bool true, Value.int 181 0, Value.ref 199, Value.none, Value.ref 200, Value.ref 201, Value.ref 202, Value.int 438 0, Value.int 142 0, Value.str (Str.ofString "/claim/cut.py") 439] }),
   (204, ⟨Value.type "function", none, Data.func (fdOf (top 16) "islower" (Value.none) (Value.none) (Value.str (Str.ofString "cpy313.curses.ascii") 376) (none) (Value.ref 203) (Value.none)), #[]⟩),
   (210, { cls := Value.type "code", data := Data.fields #[Value.str (Str.ofString "isprint") 441, Value.str (Str.ofString "isprint") 442, Value.str (Str.ofString "/claim/cut.py") 443, Value.int 144 0, Value.int 1 0, Value.int 0 0, Value.int 0 0, Value.int 3 0, Value.ref 205, Value.bool true, Value.int 181 0, Value.ref 206, Value.none, Value.ref 207, Value.ref 208, Value.ref 209, Value.int 445 0, Value.int 144 0, Value.str (Str.ofString "/claim/cut.py") 446] }),
   (211, ⟨Value.type "function", none, Data.func (fdOf (top 17) "isprint" (Value.none) (Value.none) (Value.str (Str.ofString "cpy313.curses.ascii") 376) (none) (Value.ref 210) (Value.none)), #[]⟩)]
noncomputable def kpart6 (P : Params) : Frag :=
  [(217, { cls := Value.type "code", data := Data.fields #[Value.str (Str.ofString "ispunct") 448, Value.str (Str.ofString "ispunct") 449, Value.str (Str.ofString "/claim/cut.py") 450, Value.int 146 0, Value.int 1 0, Value.int 0 0, Value.int 0 0, Value.int 3 0, Value.ref 212, Value.bool true, Value.int 181 0, Value.ref 213, Value.none, Value.ref 214, Value.ref 215, Value.ref 216, Value.int 452 0, Value.int 146 0, Value.str (Str.ofString "/claim/cut.py") 453] }),
   (218, ⟨Value.type "function", none, Data.func (fdOf (top 18) "ispunct" (Value.none) (Value.none) (Value.str (Str.ofString "cpy313.curses.ascii") 376) (none) (Value.ref 217) (Value.none)), #[]⟩),
   (224, { cls := Value.type "code", data := Data.fields #[Value.str (Str.ofString "isspace") 455, Value.str (Str.ofString "isspace") 456, Value.str (Str.ofString "/claim/cut.py") 457, Value.int 148 0, Value.int 1 0, Value.int 0 0, Value.int 0 0, Value.int 3 0, Value.ref 219, Value.bool true, Value.int 181 0, Value.ref 220, Value.none, Value.ref 221, Value.ref 222, Value.ref 223, Value.int 459 0, Value.int 148 0, Value.str (Str.ofString "/claim/cut.py") 460] }),
   (225, ⟨Value.type "function", none, Data.func (fdOf (top 19) "isspace" (Value.none) (Value.none) (Value.str (Str.ofString "cpy313.curses.ascii") 376) (none) (Value.ref 224) (Value.none)), #[]⟩),
   (231, { cls := Value.type "code", data := Data.fields #[Value.str (Str.ofString "isupper") 462, Value.str (Str.ofString "isupper") 463, Value.str (Str.ofString "/claim/cut.py") 464, Value.int 150 0, Value.int 1 0, Value.int 0 0, Value.int 0 0, Value.int 3 0, Value.ref 226, Value.bool true, Value.int 181 0, Value.ref 227, Value.none, Value.ref 228, Value.ref 229, Value.ref 230, Value.int 466 0, Value.int 150 0, Value.str (Str.ofString "/claim/cut.py") 467] }),
   (232, ⟨Value.type "function", none, Data.func (fdOf (top 20) "isupper" (Value.none) (Value.none) (Value.str (Str.ofString "cpy313.curses.ascii") 376) (none) (Value.ref 231) (Value.none)), #[]⟩),
   (238, { cls := Value.type "code", data := Data.fields #[Value.str (Str.ofString "isxdigit") 469, Value.str (Str.ofString "isxdigit") 470, Value.str (Str.ofString "/claim/cut.py") 471, Value.int 152 0, Value.int 1 0, Value.int 0 0, Value.int 0 0, Value.int 3 0, Value.ref 233, Value.bool true, Value.int 181 0, Value.ref 234, Value.none, Value.ref 235, Value.ref 236, Value.ref 237, Value.int 473 0, Value.int 152 0, Value.str (Str.ofString "/claim/cut.py") 474] }),
   (239, ⟨Value.type "function", none, Data.func (fdOf (top 21) "isxdigit" (Value.none) (Value.none) (Value.str (Str.ofString "cpy313.curses.ascii") 376) (none) (Value.ref 238) (Value.none)), #[]⟩),
   (245, { cls := Value.type "code", data := Data.fields #[Value.str (Str.ofString "isctrl") 476, Value.str (Str.ofString "isctrl") 477, Value.str (Str.ofString "/claim/cut.py") 478, Value.int 154 0, Value.int 1 0, Value.int 0 0, Value.int 0 0, Value.int 3 0, Value.ref 240, Value.bool true, Value.int 181 0, Value.ref 241, Value.none, Value.ref 242, Value.ref 243, Value.ref 244, Value.int 480 0, Value.int 154 0, Value.str (Str.ofString "/claim/cut.py") 481] }),
   (246, ⟨Value.type "function", none, Data.func (fdOf (top 22) "isctrl" (Value.none) (Value.none) (Value.str (Str.ofString "cpy313.curses.ascii") 376) (none) (Value.ref 245) (Value.none)), #[]⟩)]
noncomputable def kpart7 (P : Params) : Frag :=
  [(252, { cls := Value.type "code", data := Data.fields #[Value.str (Str.ofString "ismeta") 483, Value.str (Str.ofString "ismeta") 484, Value.str (Str.ofString "/claim/cut.py") 485, Value.int 156 0, Value.int 1 0, Value.int 0 0, Value.int 0 0, Value.int 3 0, Value.ref 247, Value.bool true, Value.int 181 0, Value.ref 248, Value.none, Value.ref 249, Value.ref 250, Value.ref 251, Value.int 487 0, Value.int 156 0, Value.str (Str.ofString "/claim/cut.py") 488] }),
   (253, ⟨Value.type "function", none, Data.func (fdOf (top 23) "ismeta" (Value.none) (Value.none) (Value.str (Str.ofString "cpy313.curses.ascii") 376) (none) (Value.ref 252) (Value.none)), #[]⟩),
   (257, { cls := Value.type "code", data := Data.fields #[Value.str (Str.ofString "_law_kinds") 492, Value.str (Str.ofString "_law_kinds") 493, Value.str (Str.ofString "/claim/cut.py") 494, Value.int 159 0, Value.int 1 0, Value.int 0 0, Value.int 0 0, Value.int 3 0, Value.ref 254, Value.bool true, Value.int 181 0, Value.ref 255, Value.none, Value.none, Value.none, Value.ref 256, Value.int 495 0, Value.int 159 0, Value.str (Str.ofString "/claim/cut.py") 496] }),
   (258, ⟨Value.type "function", none, Data.func (fdOf (top 25) "_law_kinds" (Value.none) (Value.none) (Value.str (Str.ofString "law_mr0294_01") 490) (none) (Value.ref 257) (Value.none)), #[]⟩),
   (264, { cls := Value.type "code", data := Data.fields #[Value.str (Str.ofString "_law_thing") 498, Value.str (Str.ofString "_law_thing") 499, Value.str (Str.ofString "/claim/cut.py") 500, Value.int 175 0, Value.int 1 0, Value.int 0 0, Value.int 0 0, Value.int 3 0, Value.ref 259, Value.bool true, Value.int 181 0, Value.ref 260, Value.none, Value.ref 261, Value.ref 262, Value.ref 263, Value.int 503 0, Value.int 175 0, Value.str (Str.ofString "/claim/cut.py") 504] }),
   (265, ⟨Value.type "function", none, Data.func (fdOf (top 26) "_law_thing" (Value.none) (Value.none) (Value.str (Str.ofString "law_mr0294_01") 490) (none) (Value.ref 264) (Value.none)), #[]⟩),
   (269, { cls := Value.type "code", data := Data.fields #[Value.str (Str.ofString "_law_ties") 506, Value.str (Str.ofString "_law_ties") 507, Value.str (Str.ofString "/claim/cut.py") 508, Value.int 182 0, Value.int 2 0, Value.int 0 0, Value.int 0 0, Value.int 3 0, Value.ref 266, Value.bool true, Value.int 181 0, Value.ref 267, Value.none, Value.none, Value.none, Value.ref 268, Value.int 509 0, Value.int 182 0, Value.str (Str.ofString "/claim/cut.py") 510] }),
   (270, ⟨Value.type "function", none, Data.func (fdOf (top 27) "_law_ties" (Value.none) (Value.none) (Value.str (Str.ofString "law_mr0294_01") 490) (none) (Value.ref 269) (Value.none)), #[]⟩),
   (274, { cls := Value.type "code", data := Data.fields #[Value.str (Str.ofString "law") 512, Value.str (Str.ofString "law") 513, Value.str (Str.ofString "/claim/cut.py") 514, Value.int 189 0, Value.int 1 0, Value.int 0 0, Value.int 0 0, Value.int 3 0, Value.ref 271, Value.bool true, Value.int 181 0, Value.ref 272, Value.none, Value.none, Value.none, Value.ref 273, Value.int 515 0, Value.int 189 0, Value.str (Str.ofString "/claim/cut.py") 516] }),
   (275, ⟨Value.type "function", none, Data.func (fdOf (top 28) "law" (Value.none) (Value.none) (Value.str (Str.ofString "law_mr0294_01") 490) (none) (Value.ref 274) (Value.none)), #[]⟩)]
noncomputable def heapK (P : Params) : Frag := kpart1 P ++ (kpart2 P ++ (kpart3 P ++ (kpart4 P ++ (kpart5 P ++ (kpart6 P ++ (kpart7 P))))))
def addrsK : List Addr := [2, 3, 35, 36, 39, 40, 41, 42, 43, 66, 72, 73, 79, 80, 86, 87, 91, 92, 98, 99, 105, 106, 119, 120, 126, 127, 136, 137, 138, 139, 147, 148, 154, 155, 161, 162, 168, 169, 175, 176, 182, 183, 189, 190, 196, 197, 203, 204, 210, 211, 217, 218, 224, 225, 231, 232, 238, 239, 245, 246, 252, 253, 257, 258, 264, 265, 269, 270, 274, 275]
theorem addrsK_eq (P : Params) : addrsK = (heapK P).map (·.1) := by kernel_rfl
end Mine
end
section
open PySem PySem.W PyProof.Rows PySem.Calls
set_option Elab.async false
set_option maxRecDepth 100000
namespace Mine

/-- the frozen part of the heap: objects that are never changed again -/
abbrev Fz := Addr → Option Obj
def Fz.le (F F' : Fz) : Prop := ∀ b o, F b = some o → F' b = some o
theorem Fz.le_refl (F : Fz) : F.le F := fun _ _ e => e
theorem Fz.le_trans {F G H : Fz} (a : F.le G) (b : G.le H) : F.le H := fun x o e => b x o (a x o e)

/-- values of the small level -/
inductive MV where
  | none
  | bool (b : Bool)
  | int (i : Int)
  | str (s : Str)
  | list (xs : List MV)
  | tup (xs : List MV)
  | raw (v : Value)
  | rng (n : Int)
  deriving Inhabited

abbrev MV.ref (a : Addr) : MV := .raw (.ref a)

def lobj (items : Array Value) (n : Nat) : Obj := { cls := .type "list", data := .seq items n }
def robj (n : Int) (t u w : Tok) : Obj := { cls := .type "range", data := .fields #[.int 0 t, .int n u, .int 1 w] }
def tobj (items : Array Value) (n : Nat) : Obj := { cls := .type "tuple", data := .seq items n }

mutual
def VH (F : Fz) : MV → Value → Prop
  | .none, v => v = .none
  | .bool b, v => v = .bool b
  | .int i, v => ∃ t, v = .int i t
  | .str s, v => ∃ t, v = .str s t
  | .list xs, v => ∃ a items n, v = .ref a ∧ F a = some (lobj items n) ∧ VHs F xs items.toList
  | .tup xs, v => ∃ a items n, v = .ref a ∧ F a = some (tobj items n) ∧ VHs F xs items.toList
  | .raw w, v => v = w
  | .rng n, v => ∃ a t u w, v = .ref a ∧ F a = some (robj n t u w)
def VHs (F : Fz) : List MV → List Value → Prop
  | [], vs => vs = []
  | x :: xs, vs => ∃ v r, vs = v :: r ∧ VH F x v ∧ VHs F xs r
end

mutual
theorem VH.mono {F F' : Fz} (h : F.le F') : ∀ {m : MV} {v : Value}, VH F m v → VH F' m v
  | .none, v, q => by simp only [VH] at *; exact q
  | .bool b, v, q => by simp only [VH] at *; exact q
  | .int i, v, q => by simp only [VH] at *; exact q
  | .str s, v, q => by simp only [VH] at *; exact q
  | .list xs, v, q => by
    simp only [VH] at *
    obtain ⟨a, items, n, e, f, r⟩ := q
    exact ⟨a, items, n, e, h _ _ f, VHs.mono h r⟩
  | .tup xs, v, q => by
    simp only [VH] at *
    obtain ⟨a, items, n, e, f, r⟩ := q
    exact ⟨a, items, n, e, h _ _ f, VHs.mono h r⟩
  | .raw w, v, q => by simp only [VH] at *; exact q
  | .rng n, v, q => by
    simp only [VH] at *
    obtain ⟨a, t, u, w, e, f⟩ := q
    exact ⟨a, t, u, w, e, h _ _ f⟩
theorem VHs.mono {F F' : Fz} (h : F.le F') : ∀ {ms : List MV} {vs : List Value}, VHs F ms vs → VHs F' ms vs
  | [], vs, q => by simp only [VHs] at *; exact q
  | x :: xs, vs, q => by
    simp only [VHs] at *
    obtain ⟨v, r, e, a, b⟩ := q
    exact ⟨v, r, e, VH.mono h a, VHs.mono h b⟩
end

theorem VHs.length {F : Fz} : ∀ {ms : List MV} {vs : List Value}, VHs F ms vs → vs.length = ms.length
  | [], vs, q => by simp only [VHs] at q; subst q; rfl
  | x :: xs, vs, q => by
    simp only [VHs] at q
    obtain ⟨v, r, e, a, b⟩ := q
    subst e
    simp [VHs.length b]

theorem VHs.append {F : Fz} : ∀ {ms ns : List MV} {vs us : List Value}, VHs F ms vs → VHs F ns us → VHs F (ms ++ ns) (vs ++ us)
  | [], ns, vs, us, q, r => by simp only [VHs] at q; subst q; exact r
  | x :: xs, ns, vs, us, q, r => by
    simp only [VHs] at q
    obtain ⟨v, rest, e, a, b⟩ := q
    subst e
    simp only [List.cons_append, VHs]
    exact ⟨v, rest ++ us, rfl, a, VHs.append b r⟩

theorem VHs.get {F : Fz} : ∀ {ms : List MV} {vs : List Value}, VHs F ms vs → ∀ {i : Nat} {m : MV}, ms[i]? = some m → ∃ v, vs[i]? = some v ∧ VH F m v
  | [], vs, q, i, m, e => by simp at e
  | x :: xs, vs, q, i, m, e => by
    simp only [VHs] at q
    obtain ⟨v, r, e', a, b⟩ := q
    subst e'
    cases i with
    | zero => simp at e; subst e; exact ⟨v, rfl, a⟩
    | succ i => simp at e; obtain ⟨u, hu, hv⟩ := VHs.get b e; exact ⟨u, by simpa using hu, hv⟩

/-- what is known of an object that may change -/
structure Desc where
  p : Fz → Obj → Prop
  mono : ∀ F F' o, Fz.le F F' → p F o → p F' o

abbrev MHeap := Addr → Option Desc

structure Cx where
  prog : Program
  w : World
  h₀ : Heap
  os : OsState
  gl : Str → Option Value
  fr : List Addr := []

abbrev Cx.M (X : Cx) : Model := model X.prog X.w

structure St (X : Cx) (F : Fz) (σ : MHeap) (s : Shared) : Prop where
  top : ∀ b o, X.h₀.get? b = some o → F b = some o
  fz : ∀ b o, F b = some o → s.heap.get? b = some o
  own : ∀ b d, σ b = some d → ∃ o, s.heap.get? b = some o ∧ d.p F o
  apart : ∀ b, σ b ≠ none → F b = none
  gens : s.gens = #[]
  os : s.os = X.os
  frs : ∀ f ∈ X.fr, (∃ o es n, s.heap.get? f = some o ∧ o.data = .dict es n) ∧ F f = none ∧ σ f = none

/-- an object is kept; of a dict (a frame's names) the slots may be turned -/
def Kp (o o' : Obj) : Prop := o' = o ∨ ((∃ es n, o.data = .dict es n) ∧ ∃ sl, o' = { o with slots := sl })
theorem Kp.refl (o : Obj) : Kp o o := .inl rfl
theorem Kp.trans {a b c : Obj} (x : Kp a b) (y : Kp b c) : Kp a c := by
  rcases x with rfl | ⟨⟨es, n, hd⟩, sl, rfl⟩
  · exact y
  · rcases y with rfl | ⟨_, sl', rfl⟩
    · exact .inr ⟨⟨es, n, hd⟩, sl, rfl⟩
    · exact .inr ⟨⟨es, n, hd⟩, sl', rfl⟩
theorem Kp.data {a b : Obj} (x : Kp a b) : b.data = a.data := by
  rcases x with rfl | ⟨_, sl, rfl⟩ <;> rfl
theorem Kp.same {a b : Obj} (x : Kp a b) (nd : ∀ es n, a.data ≠ .dict es n) : b = a := by
  rcases x with rfl | ⟨⟨es, n, hd⟩, _⟩
  · rfl
  · exact absurd hd (nd es n)

structure Since (F : Fz) (σ : MHeap) (s : Shared) (F' : Fz) (σ' : MHeap) (s' : Shared) : Prop where
  mono : F.le F'
  kp : ∀ b o, s.heap.get? b = some o → σ b = none → ∃ o', s'.heap.get? b = some o' ∧ Kp o o'
  dom : ∀ b, σ b ≠ none → σ' b ≠ none ∨ F' b ≠ none
  newS : ∀ b, σ b = none → σ' b ≠ none → s.heap.get? b = none
  newF : ∀ b, F b = none → σ b = none → F' b ≠ none → s.heap.get? b = none
theorem Since.keepX {F F' : Fz} {σ σ' : MHeap} {s s' : Shared} (t : Since F σ s F' σ' s') {b : Addr} {o : Obj} (e : s.heap.get? b = some o) (n : σ b = none) (nd : ∀ es n, o.data ≠ .dict es n) : s'.heap.get? b = some o := by
  obtain ⟨o', h1, h2⟩ := t.kp b o e n
  rw [h2.same nd] at h1; exact h1

structure Trans (X : Cx) (F : Fz) (σ : MHeap) (s : Shared) (F' : Fz) (σ' : MHeap) (s' : Shared) : Prop extends Since F σ s F' σ' s' where
  st : St X F' σ' s'

theorem Since.refl (F : Fz) (σ : MHeap) (s : Shared) : Since F σ s F σ s :=
  ⟨Fz.le_refl F, fun _ o e _ => ⟨o, e, .refl o⟩, fun _ h => .inl h, fun _ h h' => absurd h h', fun _ h _ h' => absurd h h'⟩
theorem Trans.refl {X : Cx} {F : Fz} {σ : MHeap} {s : Shared} (h : St X F σ s) : Trans X F σ s F σ s := ⟨Since.refl F σ s, h⟩

theorem get?_lt {h : Heap} {b : Addr} {o : Obj} (e : h.get? b = some o) : b < h.objs.size := Heap.lt_size e

theorem get?_ge {h : Heap} {b : Addr} (e : h.objs.size ≤ b) : h.get? b = none := by
  cases q : h.get? b with
  | none => rfl
  | some o => exact absurd (get?_lt q) (Nat.not_lt.mpr e)

theorem Fz.le_ne {F G : Fz} (h : F.le G) {x : Addr} (n : F x ≠ none) : G x ≠ none := by
  cases q : F x with
  | none => exact absurd q n
  | some o => rw [h x o q]; exact Option.some_ne_none _
theorem Since.trans {F G H : Fz} {σ τ υ : MHeap} {s t u : Shared} (a : Since F σ s G τ t) (b : Since G τ t H υ u) : Since F σ s H υ u where
  mono := Fz.le_trans a.mono b.mono
  kp := fun x o e n => by
    obtain ⟨o1, e1, k1⟩ := a.kp x o e n
    have n1 : τ x = none := by
      cases q : τ x with
      | none => rfl
      | some d =>
        have := a.newS x n (by rw [q]; exact Option.some_ne_none _)
        rw [this] at e; cases e
    obtain ⟨o2, e2, k2⟩ := b.kp x o1 e1 n1
    exact ⟨o2, e2, k1.trans k2⟩
  dom := fun x h => by
    rcases a.dom x h with h | h
    · exact b.dom x h
    · exact .inr (Fz.le_ne b.mono h)
  newS := fun x n h => by
    cases q : τ x with
    | none =>
      have h1 := b.newS x q h
      cases e : s.heap.get? x with
      | none => rfl
      | some o => obtain ⟨o', e', _⟩ := a.kp x o e n; rw [e'] at h1; cases h1
    | some d => exact a.newS x n (by rw [q]; exact Option.some_ne_none _)
  newF := fun x n ns h => by
    cases q : G x with
    | some d => exact a.newF x n ns (by rw [q]; exact Option.some_ne_none _)
    | none =>
      cases z : τ x with
      | some d => exact a.newS x ns (by rw [z]; exact Option.some_ne_none _)
      | none =>
        have h1 := b.newF x q z h
        cases e : s.heap.get? x with
        | none => rfl
        | some o => obtain ⟨o', e', _⟩ := a.kp x o e ns; rw [e'] at h1; cases h1

theorem Trans.trans {X : Cx} {F G H : Fz} {σ τ υ : MHeap} {s t u : Shared} (a : Trans X F σ s G τ t) (b : Trans X G τ t H υ u) : Trans X F σ s H υ u :=
  ⟨a.toSince.trans b.toSince, b.st⟩

abbrev MEnv := List (Str × MV)

/-- a name of the frame holds the value -/
def NameIs (env : Env) (F : Fz) (h : Heap) (x : Str) (mv : MV) : Prop :=
  (env.kindOf x = some .local ∧ ∃ m v, h.Ns env.locals m ∧ m x = some v ∧ VH F mv v) ∨
  ((env.kindOf x = some .cell ∨ env.kindOf x = some .free) ∧ (x == ("__classdict__" : Str)) = false ∧ ∃ c v, env.cells.lookup x = some c ∧ h.IsCell c (some v) ∧ VH F mv v)

structure EnvOK (env : Env) (φ : MEnv) (F : Fz) (σ : MHeap) (h : Heap) : Prop where
  kind : env.scope.kind = .function
  glob : env.globals = mainGlobals
  bt : env.builtins = builtinsNs
  names : ∀ x mv, φ.lookup x = some mv → NameIs env F h x mv
  ns : ∃ m, h.Ns env.locals m
  cells : ∀ x c, env.cells.lookup x = some c → ∃ v, h.IsCell c v
  locFree : σ env.locals = none ∧ F env.locals = none
  cellFree : ∀ x c, env.cells.lookup x = some c → σ c = none ∧ F c = none

theorem IsCell.lt {h : Heap} {c : Addr} {v : Option Value} (e : h.IsCell c v) : c < h.objs.size := by
  obtain ⟨o, ho, _⟩ := e; exact get?_lt ho
theorem Ns.lt {h : Heap} {c : Addr} {m : Str → Option Value} (e : h.Ns c m) : c < h.objs.size := by
  obtain ⟨o, es, ep, ho, _⟩ := e; exact get?_lt ho
theorem Ns.keepAt {h h' : Heap} {c : Addr} {m : Str → Option Value} (e : h.Ns c m) (k : ∀ o, h.get? c = some o → h'.get? c = some o) : h'.Ns c m := by
  obtain ⟨o, es, ep, ho, r⟩ := e; exact ⟨o, es, ep, k o ho, r⟩
theorem IsCell.keepAt {h h' : Heap} {c : Addr} {v : Option Value} (e : h.IsCell c v) (k : ∀ o, h.get? c = some o → h'.get? c = some o) : h'.IsCell c v := by
  obtain ⟨o, ho, r⟩ := e; exact ⟨o, k o ho, r⟩

theorem Ns.kpAt {h h' : Heap} {c : Addr} {m : Str → Option Value} (e : h.Ns c m) (k : ∀ o, h.get? c = some o → ∃ o', h'.get? c = some o' ∧ Kp o o') : h'.Ns c m := by
  obtain ⟨o, es, ep, ho, hd, r⟩ := e
  obtain ⟨o', ho', hk⟩ := k o ho
  exact ⟨o', es, ep, ho', hk.data.trans hd, r⟩
theorem IsCell.kpAt {h h' : Heap} {c : Addr} {v : Option Value} (e : h.IsCell c v) (k : ∀ o, h.get? c = some o → ∃ o', h'.get? c = some o' ∧ Kp o o') : h'.IsCell c v := by
  obtain ⟨o, ho, r⟩ := e
  obtain ⟨o', ho', hk⟩ := k o ho
  exact ⟨o', ho', hk.data.trans r⟩
theorem Since.noneS {F F' : Fz} {σ σ' : MHeap} {s s' : Shared} (t : Since F σ s F' σ' s') {b : Addr} {o : Obj} (hb : s.heap.get? b = some o) (n : σ b = none) : σ' b = none := by
  cases q : σ' b with
  | none => rfl
  | some d => rw [t.newS b n (by rw [q]; exact Option.some_ne_none _)] at hb; cases hb
theorem Since.noneF {F F' : Fz} {σ σ' : MHeap} {s s' : Shared} (t : Since F σ s F' σ' s') {b : Addr} {o : Obj} (hb : s.heap.get? b = some o) (ns : σ b = none) (n : F b = none) : F' b = none := by
  cases q : F' b with
  | none => rfl
  | some d => rw [t.newF b n ns (by rw [q]; exact Option.some_ne_none _)] at hb; cases hb
theorem Ns.at {h : Heap} {c : Addr} {m : Str → Option Value} (e : h.Ns c m) : ∃ o, h.get? c = some o := by
  obtain ⟨o, es, ep, ho, _⟩ := e; exact ⟨o, ho⟩
theorem IsCell.at {h : Heap} {c : Addr} {v : Option Value} (e : h.IsCell c v) : ∃ o, h.get? c = some o := by
  obtain ⟨o, ho, _⟩ := e; exact ⟨o, ho⟩

theorem lookup_mem {α : Type} {l : List (Str × α)} {x : Str} {c : α} (h : l.lookup x = some c) : (x, c) ∈ l := mem_of_lookup h

theorem EnvOK.step {env : Env} {φ : MEnv} {F F' : Fz} {σ σ' : MHeap} {s s' : Shared} (e : EnvOK env φ F σ s.heap) (t : Since F σ s F' σ' s') : EnvOK env φ F' σ' s'.heap where
  kind := e.kind
  glob := e.glob
  bt := e.bt
  names := fun x mv h => by
    rcases e.names x mv h with ⟨hk, m, v, hn, hm, hv⟩ | ⟨hk, hc, c, v, hl, hcl, hv⟩
    · exact .inl ⟨hk, m, v, Ns.kpAt hn fun o ho => t.kp _ o ho e.locFree.1, hm, hv.mono t.mono⟩
    · exact .inr ⟨hk, hc, c, v, hl, IsCell.kpAt hcl fun o ho => t.kp _ o ho (e.cellFree x c hl).1, hv.mono t.mono⟩
  ns := let ⟨m, hn⟩ := e.ns; ⟨m, Ns.kpAt hn fun o ho => t.kp _ o ho e.locFree.1⟩
  cells := fun x c h => let ⟨v, hv⟩ := e.cells x c h; ⟨v, IsCell.kpAt hv fun o ho => t.kp _ o ho (e.cellFree x c h).1⟩
  locFree := let ⟨m, hn⟩ := e.ns; let ⟨_, ho⟩ := Ns.at hn; ⟨t.noneS ho e.locFree.1, t.noneF ho e.locFree.1 e.locFree.2⟩
  cellFree := fun x c h => let ⟨v, hv⟩ := e.cells x c h; let ⟨_, ho⟩ := IsCell.at hv; ⟨t.noneS ho (e.cellFree x c h).1, t.noneF ho (e.cellFree x c h).1 (e.cellFree x c h).2⟩

theorem EnvOK.less {env : Env} {φ ψ : MEnv} {F : Fz} {σ : MHeap} {h : Heap} (e : EnvOK env φ F σ h) (q : ∀ x mv, ψ.lookup x = some mv → φ.lookup x = some mv) : EnvOK env ψ F σ h :=
  { e with names := fun x mv hx => e.names x mv (q x mv hx) }

/-- the end of an expression -/
def PostE (X : Cx) (F : Fz) (σ : MHeap) (s : Shared) (Q : MV → MHeap → Prop) (v : Value) (s' : Shared) : Prop :=
  ∃ F' σ' mv, Trans X F σ s F' σ' s' ∧ VH F' mv v ∧ Q mv σ'
def noE : Value → Shared → Prop := fun _ _ => False

def WT (X : Cx) (A : Around) (env : Env) (t : Sem Value) (φ : MEnv) (σ : MHeap) (Q : MV → MHeap → Prop) : Prop :=
  ∀ F s, St X F σ s → EnvOK env φ F σ s.heap → wpAny X.M A t (PostE X F σ s Q) noE s

/-- the small level's wp of an expression -/
def WE (X : Cx) (A : Around) (env : Env) (e : Expr) (φ : MEnv) (σ : MHeap) (Q : MV → MHeap → Prop) : Prop := WT X A env (eval e env) φ σ Q

theorem PostE.trans {X : Cx} {F G : Fz} {σ τ : MHeap} {s t : Shared} {Q : MV → MHeap → Prop} {v : Value} {u : Shared} (a : Trans X F σ s G τ t) (b : PostE X G τ t Q v u) : PostE X F σ s Q v u := by
  obtain ⟨H, υ, mv, tr, hv, hq⟩ := b
  exact ⟨H, υ, mv, a.trans tr, hv, hq⟩

theorem noE_any {X : Cx} {A : Around} {α : Type} {t : Sem α} {Q : α → Shared → Prop} {E : Value → Shared → Prop} {s : Shared} (h : wpAny X.M A t Q noE s) : wpAny X.M A t Q E s :=
  wpAny_mono h (fun _ _ q => q) (fun _ _ q => q.elim)

theorem WT.mono {X : Cx} {A : Around} {env : Env} {t : Sem Value} {φ : MEnv} {σ : MHeap} {Q Q' : MV → MHeap → Prop} (h : WT X A env t φ σ Q) (q : ∀ mv σ', Q mv σ' → Q' mv σ') : WT X A env t φ σ Q' :=
  fun F s st ev => wpAny_mono (h F s st ev) (fun _ _ ⟨F', σ', mv, tr, hv, hq⟩ => ⟨F', σ', mv, tr, hv, q mv σ' hq⟩) (fun _ _ x => x)

/-- one small value after another -/
theorem WT.andThen {X : Cx} {A : Around} {env : Env} {t : Sem Value} {φ : MEnv} {σ : MHeap} {k : Value → Sem Value} {Q : MV → MHeap → Prop} {P : MV → MHeap → Prop}
    (h : WT X A env t φ σ P) (hk : ∀ mv σ', P mv σ' → ∀ F s v, St X F σ' s → EnvOK env φ F σ' s.heap → VH F mv v → wpAny X.M A (k v) (PostE X F σ' s Q) noE s)
    {F : Fz} {s : Shared} (st : St X F σ s) (ev : EnvOK env φ F σ s.heap) : wpAny X.M A t (fun v s₁ => wpAny X.M A (k v) (PostE X F σ s Q) noE s₁) noE s :=
  wpAny_mono (h F s st ev) (fun v s₁ ⟨F', σ', mv, tr, hv, hq⟩ => wpAny_mono (hk mv σ' hq F' s₁ v tr.st (ev.step tr.toSince) hv) (fun _ _ p => p.trans tr) (fun _ _ x => x)) (fun _ _ x => x)
end Mine
end
section
open PySem PySem.W PyProof.Rows PySem.Calls
set_option Elab.async false
set_option maxRecDepth 100000
set_option linter.unusedVariables false
namespace Mine
section
variable {X : Cx} {A : Around} {env : Env} {φ : MEnv} {σ : MHeap} {Q : MV → MHeap → Prop} {F : Fz} {s : Shared}

theorem St.tok (h : St X F σ s) (t : Nat) : St X F σ { s with toks := t } := ⟨h.top, h.fz, h.own, h.apart, h.gens, h.os, h.frs⟩
theorem Trans.tok (h : St X F σ s) (t : Nat) : Trans X F σ s F σ { s with toks := t } :=
  ⟨⟨Fz.le_refl F, fun _ o e _ => ⟨o, e, .refl o⟩, fun _ h => .inl h, fun _ h h' => absurd h h', fun _ h _ h' => absurd h h'⟩, h.tok t⟩
theorem PostE.now {mv : MV} {v : Value} (st : St X F σ s) (hv : VH F mv v) (hq : Q mv σ) : PostE X F σ s Q v s := ⟨F, σ, mv, .refl st, hv, hq⟩
theorem PostE.tk {mv : MV} {v : Value} {t : Nat} (st : St X F σ s) (hv : VH F mv v) (hq : Q mv σ) : PostE X F σ s Q v { s with toks := t } := ⟨F, σ, mv, .tok st t, hv, hq⟩

/-- a new frozen object -/
def Fz.put (F : Fz) (a : Addr) (o : Obj) : Fz := fun b => if b = a then some o else F b
theorem Fz.put_self (F : Fz) (a : Addr) (o : Obj) : F.put a o a = some o := by simp [Fz.put]
theorem St.fresh (h : St X F σ s) {a : Addr} (ha : s.heap.get? a = none) : F a = none ∧ σ a = none := by
  constructor
  · cases q : F a with
    | none => rfl
    | some o => rw [h.fz a o q] at ha; cases ha
  · cases q : σ a with
    | none => rfl
    | some d => obtain ⟨o, ho, _⟩ := h.own a d q; rw [ho] at ha; cases ha
theorem St.freshSize (h : St X F σ s) : F s.heap.objs.size = none ∧ σ s.heap.objs.size = none := h.fresh (get?_ge (Nat.le_refl _))
theorem Fz.le_put {F : Fz} {a : Addr} {o : Obj} (h : F a = none) : F.le (F.put a o) := fun b x e => by
  unfold Fz.put
  by_cases q : b = a
  · subst q; rw [h] at e; cases e
  · rw [if_neg q]; exact e
/-- an allocation, frozen at once -/
theorem Trans.alloc (h : St X F σ s) (o : Obj) (hf : o.isFreed = false) (t : Nat) :
    Trans X F σ s (F.put s.heap.objs.size o) σ { s with heap := s.heap.push o, toks := t } where
  mono := Fz.le_put h.freshSize.1
  kp := fun b x e _ => ⟨x, Heap.get?_push_of_some _ e, .refl x⟩
  dom := fun _ q => .inl q
  newS := fun _ q q' => absurd q q'
  newF := fun b q _ q' => by
    unfold Fz.put at q'
    by_cases e : b = s.heap.objs.size
    · subst e; exact get?_ge (Nat.le_refl _)
    · rw [if_neg e] at q'; exact absurd q q'
  st := {
    top := fun b x e => Fz.le_put h.freshSize.1 b x (h.top b x e)
    fz := fun b x e => by
      unfold Fz.put at e
      by_cases q : b = s.heap.objs.size
      · subst q; rw [if_pos rfl] at e; cases e; exact Heap.get?_push_size _ hf
      · rw [if_neg q] at e; exact Heap.get?_push_of_some _ (h.fz b x e)
    own := fun b d e => by
      obtain ⟨x, hx, hp⟩ := h.own b d e
      exact ⟨x, Heap.get?_push_of_some _ hx, d.mono _ _ _ (Fz.le_put h.freshSize.1) hp⟩
    apart := fun b q => by
      unfold Fz.put
      by_cases e : b = s.heap.objs.size
      · subst e; exact absurd h.freshSize.2 q
      · rw [if_neg e]; exact h.apart b q
    gens := h.gens
    os := h.os
    frs := fun f hf => by
      obtain ⟨⟨x, es, n, hx, hd⟩, h1, h2⟩ := h.frs f hf
      refine ⟨⟨x, es, n, Heap.get?_push_of_some _ hx, hd⟩, ?_, h2⟩
      unfold Fz.put
      rw [if_neg (Nat.ne_of_lt (get?_lt hx))]; exact h1 }

theorem WE_name {x : Str} {pos : Pos} {mv : MV} (hx : φ.lookup x = some mv) (h : Q mv σ) (hd : (x == ("__debug__" : Str)) = false := by decide) : WE X A env (.Name x pos) φ σ Q := by
  intro F s st ev
  refine wpAny_Name ?_ hd
  rcases ev.names x mv hx with ⟨hk, m, v, hn, hm, hv⟩ | ⟨hk, hc, c, v, hl, hcl, hv⟩
  · exact wpAny_loadName_local ev.kind hk hn hm (.now st hv h)
  · rcases hk with hk | hk
    · exact wpAny_loadName_cell ev.kind hk hl hcl (.now st hv h)
    · exact wpAny_loadName_free ev.kind hk hl hcl (.now st hv h) hc

theorem WE_int {i : Int} {k : Nat} {pos : Pos} (h : Q (.int i) σ) : WE X A env (.Constant (.int i) k pos) φ σ Q :=
  fun F s st ev => wpAny_Constant_int (.tk st (by simp only [VH]; exact ⟨_, rfl⟩) h)
theorem WE_str {x : Str} {k : Nat} {pos : Pos} (h : Q (.str x) σ) : WE X A env (.Constant (.str x) k pos) φ σ Q :=
  fun F s st ev => wpAny_Constant_str (.tk st (by simp only [VH]; exact ⟨_, rfl⟩) h)
theorem WE_bool {b : Bool} {k : Nat} {pos : Pos} (h : Q (.bool b) σ) : WE X A env (.Constant (.bool b) k pos) φ σ Q :=
  fun F s st ev => wpAny_Constant_bool (.now st (by simp only [VH]) h)
theorem WE_none {k : Nat} {pos : Pos} (h : Q .none σ) : WE X A env (.Constant .none k pos) φ σ Q :=
  fun F s st ev => wpAny_Constant_none (.now st (by simp only [VH]) h)

/-- operations on values -/
def WV1 (X : Cx) (A : Around) (k : Value → Sem Value) (a : MV) (σ : MHeap) (Q : MV → MHeap → Prop) : Prop :=
  ∀ F s v, St X F σ s → VH F a v → wpAny X.M A (k v) (PostE X F σ s Q) noE s
def WV2 (X : Cx) (A : Around) (k : Value → Value → Sem Value) (a b : MV) (σ : MHeap) (Q : MV → MHeap → Prop) : Prop :=
  ∀ F s v u, St X F σ s → VH F a v → VH F b u → wpAny X.M A (k v u) (PostE X F σ s Q) noE s

theorem WE_binop {l r : Expr} {op : Operator} {pos : Pos} (h : WE X A env l φ σ (fun a σ₁ => WE X A env r φ σ₁ (fun b σ₂ => WV2 X A (binaryOp op) a b σ₂ Q))) : WE X A env (.BinOp l op r pos) φ σ Q := by
  intro F s st ev
  refine wpAny_BinOp (wpAny_mono (h F s st ev) ?_ fun _ _ x => x)
  rintro v s₁ ⟨F₁, σ₁, a, t₁, ha, h₁⟩
  refine wpAny_mono (h₁ F₁ s₁ t₁.st (ev.step t₁.toSince)) ?_ fun _ _ x => x
  rintro u s₂ ⟨F₂, σ₂, b, t₂, hb, h₂⟩
  exact wpAny_mono (h₂ F₂ s₂ v u t₂.st (ha.mono t₂.mono) hb) (fun _ _ p => p.trans (t₁.trans t₂)) fun _ _ x => x

theorem WE_compare {l r : Expr} {op : CmpOp} {pos : Pos} (h : WE X A env l φ σ (fun a σ₁ => WE X A env r φ σ₁ (fun b σ₂ => WV2 X A (compareOp op) a b σ₂ Q)))
    (hm : behindInMarks op r = false := by with_unfolding_all rfl) : WE X A env (.Compare l [op] [r] pos) φ σ Q := by
  intro F s st ev
  refine wpAny_Compare1 (wpAny_mono (h F s st ev) ?_ fun _ _ x => x) hm
  rintro v s₁ ⟨F₁, σ₁, a, t₁, ha, h₁⟩
  refine wpAny_mono (h₁ F₁ s₁ t₁.st (ev.step t₁.toSince)) ?_ fun _ _ x => x
  rintro u s₂ ⟨F₂, σ₂, b, t₂, hb, h₂⟩
  exact wpAny_mono (h₂ F₂ s₂ v u t₂.st (ha.mono t₂.mono) hb) (fun _ _ p => p.trans (t₁.trans t₂)) fun _ _ x => x

/-- tests -/
def PostB (X : Cx) (F : Fz) (σ : MHeap) (s : Shared) (Q : Bool → MHeap → Prop) (b : Bool) (s' : Shared) : Prop :=
  ∃ F' σ', Trans X F σ s F' σ' s' ∧ Q b σ'
def WB (X : Cx) (A : Around) (env : Env) (e : Expr) (φ : MEnv) (σ : MHeap) (Q : Bool → MHeap → Prop) : Prop :=
  ∀ F s, St X F σ s → EnvOK env φ F σ s.heap → wpAny X.M A (isTrue e env (eval e env)) (PostB X F σ s Q) noE s
theorem PostB.trans {G : Fz} {τ : MHeap} {t : Shared} {Q : Bool → MHeap → Prop} {v : Bool} {u : Shared} (b : PostB X G τ t Q v u) (a : Trans X F σ s G τ t) : PostB X F σ s Q v u := by
  obtain ⟨H, υ, tr, hq⟩ := b
  exact ⟨H, υ, a.trans tr, hq⟩
def WTr (X : Cx) (A : Around) (a : MV) (σ : MHeap) (Q : Bool → MHeap → Prop) : Prop :=
  ∀ F s v, St X F σ s → VH F a v → wpAny X.M A (truthy v) (PostB X F σ s Q) noE s

theorem WB_value {e : Expr} {Q : Bool → MHeap → Prop} (h : WE X A env e φ σ (fun a σ₁ => WTr X A a σ₁ Q))
    (he : isTrue e env (eval e env) = (do let v ← eval e env; standAt e.pos; holding [v] (truthy v)) := by rfl) : WB X A env e φ σ Q := by
  intro F s st ev
  refine wpAny_isTrue_value (wpAny_mono (h F s st ev) ?_ fun _ _ x => x) he
  rintro v s₁ ⟨F₁, σ₁, a, t₁, ha, h₁⟩
  exact wpAny_mono (h₁ F₁ s₁ v t₁.st ha) (fun _ _ p => p.trans t₁) fun _ _ x => x

theorem WB_compare {l r : Expr} {op : CmpOp} {pos : Pos} {Q : Bool → MHeap → Prop} (h : WE X A env l φ σ (fun a σ₁ => WE X A env r φ σ₁ (fun b σ₂ => WV2 X A (compareOp op) a b σ₂ (fun c σ₃ => WTr X A c σ₃ Q))))
    (hm : behindInMarks op r = false := by with_unfolding_all rfl) : WB X A env (.Compare l [op] [r] pos) φ σ Q := by
  intro F s st ev
  refine wpAny_isTrue_Compare1 (wpAny_mono (h F s st ev) ?_ fun _ _ x => x) hm
  rintro v s₁ ⟨F₁, σ₁, a, t₁, ha, h₁⟩
  refine wpAny_mono (h₁ F₁ s₁ t₁.st (ev.step t₁.toSince)) ?_ fun _ _ x => x
  rintro u s₂ ⟨F₂, σ₂, b, t₂, hb, h₂⟩
  refine wpAny_mono (h₂ F₂ s₂ v u t₂.st (ha.mono t₂.mono) hb) ?_ fun _ _ x => x
  rintro c s₃ ⟨F₃, σ₃, c', t₃, hc, h₃⟩
  exact wpAny_mono (h₃ F₃ s₃ c t₃.st hc) (fun _ _ p => p.trans ((t₁.trans t₂).trans t₃)) fun _ _ x => x

theorem WB_not {e : Expr} {pos : Pos} {Q : Bool → MHeap → Prop} (h : WB X A env e φ σ (fun b σ₁ => Q (!b) σ₁)) : WB X A env (.UnaryOp .Not e pos) φ σ Q := by
  intro F s st ev
  exact wpAny_isTrue_Not (wpAny_mono (h F s st ev) (fun b s₁ p => p) fun _ _ x => x)

def WAll (X : Cx) (A : Around) (env : Env) (op : BoolOp) (es : List Expr) (φ : MEnv) (σ : MHeap) (Q : Bool → MHeap → Prop) : Prop :=
  ∀ F s, St X F σ s → EnvOK env φ F σ s.heap → wpAny X.M A (allTrue op es env) (PostB X F σ s Q) noE s
theorem WB_boolop {op : BoolOp} {es : List Expr} {pos : Pos} {Q : Bool → MHeap → Prop} (h : WAll X A env op es φ σ Q) : WB X A env (.BoolOp op es pos) φ σ Q :=
  fun F s st ev => wpAny_isTrue_BoolOp (h F s st ev)
theorem WAll_and_nil {Q : Bool → MHeap → Prop} (h : Q true σ) : WAll X A env .And [] φ σ Q := fun F s st ev => wpAny_allTrue_And_nil ⟨F, σ, .refl st, h⟩
theorem WAll_or_nil {Q : Bool → MHeap → Prop} (h : Q false σ) : WAll X A env .Or [] φ σ Q := fun F s st ev => wpAny_allTrue_Or_nil ⟨F, σ, .refl st, h⟩
theorem WAll_and {e : Expr} {es : List Expr} {Q : Bool → MHeap → Prop} (h : WB X A env e φ σ (fun b σ₁ => match b with | true => WAll X A env .And es φ σ₁ Q | false => Q false σ₁)) : WAll X A env .And (e :: es) φ σ Q := by
  intro F s st ev
  refine wpAny_allTrue_And_cons (wpAny_mono (h F s st ev) ?_ fun _ _ x => x)
  rintro b s₁ ⟨F₁, σ₁, t₁, h₁⟩
  cases b with
  | true => exact wpAny_mono (h₁ F₁ s₁ t₁.st (ev.step t₁.toSince)) (fun _ _ p => p.trans t₁) fun _ _ x => x
  | false => exact ⟨F₁, σ₁, t₁, h₁⟩
theorem WAll_or {e : Expr} {es : List Expr} {Q : Bool → MHeap → Prop} (h : WB X A env e φ σ (fun b σ₁ => match b with | true => Q true σ₁ | false => WAll X A env .Or es φ σ₁ Q)) : WAll X A env .Or (e :: es) φ σ Q := by
  intro F s st ev
  refine wpAny_allTrue_Or_cons (wpAny_mono (h F s st ev) ?_ fun _ _ x => x)
  rintro b s₁ ⟨F₁, σ₁, t₁, h₁⟩
  cases b with
  | false => exact wpAny_mono (h₁ F₁ s₁ t₁.st (ev.step t₁.toSince)) (fun _ _ p => p.trans t₁) fun _ _ x => x
  | true => exact ⟨F₁, σ₁, t₁, h₁⟩

theorem WE_ifexp {t a b : Expr} {pos : Pos} (h : WB X A env t φ σ (fun c σ₁ => match c with | true => WE X A env a φ σ₁ Q | false => WE X A env b φ σ₁ Q)) : WE X A env (.IfExp t a b pos) φ σ Q := by
  intro F s st ev
  refine wpAny_IfExp (wpAny_mono (h F s st ev) ?_ fun _ _ x => x)
  rintro c s₁ ⟨F₁, σ₁, t₁, h₁⟩
  cases c with
  | true => exact wpAny_mono (h₁ F₁ s₁ t₁.st (ev.step t₁.toSince)) (fun _ _ p => p.trans t₁) fun _ _ x => x
  | false => exact wpAny_mono (h₁ F₁ s₁ t₁.st (ev.step t₁.toSince)) (fun _ _ p => p.trans t₁) fun _ _ x => x

/-- several expressions -/
def PostL (X : Cx) (F : Fz) (σ : MHeap) (s : Shared) (Q : List MV → MHeap → Prop) (vs : List Value) (s' : Shared) : Prop :=
  ∃ F' σ' ms, Trans X F σ s F' σ' s' ∧ VHs F' ms vs ∧ Q ms σ'
def WL (X : Cx) (A : Around) (env : Env) (pos : Pos) (es : List Expr) (φ : MEnv) (σ : MHeap) (Q : List MV → MHeap → Prop) : Prop :=
  ∀ F s, St X F σ s → EnvOK env φ F σ s.heap → wpAny X.M A (spliced (backTo pos (starEach es env))) (PostL X F σ s Q) noE s
theorem WL_nil {pos : Pos} {Q : List MV → MHeap → Prop} (h : Q [] σ) : WL X A env pos [] φ σ Q :=
  fun F s st ev => wpAny_items_nil ⟨F, σ, [], .refl st, by simp only [VHs], h⟩
theorem WL_cons {pos : Pos} {e : Expr} {es : List Expr} {Q : List MV → MHeap → Prop} (h : WE X A env e φ σ (fun a σ₁ => WL X A env pos es φ σ₁ (fun ms σ₂ => Q (a :: ms) σ₂)))
    (he : starEach (e :: es) env = (false, eval e env) :: starEach es env := by rfl) : WL X A env pos (e :: es) φ σ Q := by
  intro F s st ev
  refine wpAny_items_cons (wpAny_mono (h F s st ev) ?_ fun _ _ x => x) he
  rintro v s₁ ⟨F₁, σ₁, a, t₁, ha, h₁⟩
  refine wpAny_mono (h₁ F₁ s₁ t₁.st (ev.step t₁.toSince)) ?_ fun _ _ x => x
  rintro vs s₂ ⟨F₂, σ₂, ms, t₂, hm, h₂⟩
  exact ⟨F₂, σ₂, a :: ms, t₁.trans t₂, by simp only [VHs]; exact ⟨v, vs, rfl, ha.mono t₂.mono, hm⟩, h₂⟩

theorem WE_list {es : List Expr} {pos : Pos} (h : WL X A env pos es φ σ (fun ms σ₁ => ms.length ≤ sizeLine ∧ Q (.list ms) σ₁)) : WE X A env (.List es pos) φ σ Q := by
  intro F s st ev
  refine wpAny_List (wpAny_mono (h F s st ev) ?_ fun _ _ x => x)
  rintro vs s₁ ⟨F₁, σ₁, ms, t₁, hm, hl, h₁⟩
  refine ⟨by rw [hm.length]; exact hl, ?_⟩
  refine ⟨_, σ₁, .list ms, t₁.trans (Trans.alloc t₁.st _ rfl s₁.toks), ?_, h₁⟩
  simp only [VH]
  refine ⟨_, vs.toArray, 0, rfl, Fz.put_self _ _ _, ?_⟩
  exact VHs.mono (Fz.le_put t₁.st.freshSize.1) (by simpa using hm)
theorem WE_tuple {es : List Expr} {k : Nat} {pos : Pos} (h : WL X A env pos es φ σ (fun ms σ₁ => ms.length ≤ sizeLine ∧ Q (.tup ms) σ₁)) : WE X A env (.Tuple es k pos) φ σ Q := by
  intro F s st ev
  refine wpAny_Tuple (wpAny_mono (h F s st ev) ?_ fun _ _ x => x)
  rintro vs s₁ ⟨F₁, σ₁, ms, t₁, hm, hl, h₁⟩
  refine ⟨by rw [hm.length]; exact hl, ?_⟩
  refine ⟨_, σ₁, .tup ms, t₁.trans (Trans.alloc t₁.st _ rfl s₁.toks), ?_, h₁⟩
  simp only [VH]
  refine ⟨_, vs.toArray, 0, rfl, Fz.put_self _ _ _, ?_⟩
  exact VHs.mono (Fz.le_put t₁.st.freshSize.1) (by simpa using hm)
end
end Mine
end
section
open PySem PySem.W PyProof.Rows PySem.Calls
set_option Elab.async false
set_option maxRecDepth 100000
set_option linter.unusedVariables false
namespace Mine

structure Base where
  F : Fz
  σ : MHeap
  s : Shared

/-- as Since, but for the frame's own places -/
structure SinceX (ex : Addr → Prop) (F : Fz) (σ : MHeap) (s : Shared) (F' : Fz) (σ' : MHeap) (s' : Shared) : Prop where
  mono : F.le F'
  kp : ∀ b o, ¬ ex b → s.heap.get? b = some o → σ b = none → ∃ o', s'.heap.get? b = some o' ∧ Kp o o'
  dom : ∀ b, σ b ≠ none → σ' b ≠ none ∨ F' b ≠ none
  newS : ∀ b, ¬ ex b → σ b = none → σ' b ≠ none → s.heap.get? b = none
  newF : ∀ b, ¬ ex b → F b = none → σ b = none → F' b ≠ none → s.heap.get? b = none
theorem Since.x {ex : Addr → Prop} {F F' : Fz} {σ σ' : MHeap} {s s' : Shared} (a : Since F σ s F' σ' s') : SinceX ex F σ s F' σ' s' :=
  ⟨a.mono, fun b o _ => a.kp b o, a.dom, fun b _ => a.newS b, fun b _ => a.newF b⟩
theorem SinceX.keepX {ex : Addr → Prop} {F F' : Fz} {σ σ' : MHeap} {s s' : Shared} (t : SinceX ex F σ s F' σ' s') {b : Addr} {o : Obj} (hx : ¬ ex b) (e : s.heap.get? b = some o) (n : σ b = none) (nd : ∀ es n, o.data ≠ .dict es n) : s'.heap.get? b = some o := by
  obtain ⟨o', h1, h2⟩ := t.kp b o hx e n
  rw [h2.same nd] at h1; exact h1
theorem SinceX.trans {ex : Addr → Prop} {F G H : Fz} {σ τ υ : MHeap} {s t u : Shared} (a : SinceX ex F σ s G τ t) (b : SinceX ex G τ t H υ u) : SinceX ex F σ s H υ u where
  mono := Fz.le_trans a.mono b.mono
  kp := fun x o hx e n => by
    obtain ⟨o1, e1, k1⟩ := a.kp x o hx e n
    have n1 : τ x = none := by
      cases q : τ x with
      | none => rfl
      | some d =>
        have := a.newS x hx n (by rw [q]; exact Option.some_ne_none _)
        rw [this] at e; cases e
    obtain ⟨o2, e2, k2⟩ := b.kp x o1 hx e1 n1
    exact ⟨o2, e2, k1.trans k2⟩
  dom := fun x h => by
    rcases a.dom x h with h | h
    · exact b.dom x h
    · exact .inr (Fz.le_ne b.mono h)
  newS := fun x hx n h => by
    cases q : τ x with
    | none =>
      have h1 := b.newS x hx q h
      cases e : s.heap.get? x with
      | none => rfl
      | some o => obtain ⟨o', e', _⟩ := a.kp x o hx e n; rw [e'] at h1; cases h1
    | some d => exact a.newS x hx n (by rw [q]; exact Option.some_ne_none _)
  newF := fun x hx n ns h => by
    cases q : G x with
    | some d => exact a.newF x hx n ns (by rw [q]; exact Option.some_ne_none _)
    | none =>
      cases z : τ x with
      | some d => exact a.newS x hx ns (by rw [z]; exact Option.some_ne_none _)
      | none =>
        have h1 := b.newF x hx q z h
        cases e : s.heap.get? x with
        | none => rfl
        | some o => obtain ⟨o', e', _⟩ := a.kp x o hx e ns; rw [e'] at h1; cases h1

def own (env : Env) (b : Addr) : Prop := b = env.locals ∨ ∃ x, env.cells.lookup x = some b

structure Fm (X : Cx) (B : Base) (env : Env) (φ : MEnv) (F : Fz) (σ : MHeap) (s : Shared) : Prop where
  st : St X F σ s
  since : SinceX (own env) B.F B.σ B.s F σ s
  ev : EnvOK env φ F σ s.heap
  apart : env.cells.Pairwise fun x y => x.2 ≠ y.2
  above : ∀ x c, (x, c) ∈ env.cells → c ≠ env.locals

theorem St.live {X : Cx} {F : Fz} {σ : MHeap} {s : Shared} (st : St X F σ s) : ∀ x d, σ x = some d → ∃ o, s.heap.get? x = some o := fun x d e => let ⟨o, ho, _⟩ := st.own x d e; ⟨o, ho⟩
theorem Fm.step {X : Cx} {B : Base} {env : Env} {φ : MEnv} {F F' : Fz} {σ σ' : MHeap} {s s' : Shared} (f : Fm X B env φ F σ s) (t : Trans X F σ s F' σ' s') : Fm X B env φ F' σ' s' :=
  ⟨t.st, f.since.trans t.toSince.x, f.ev.step t.toSince, f.apart, f.above⟩
theorem Fm.less {X : Cx} {B : Base} {env : Env} {φ ψ : MEnv} {F : Fz} {σ : MHeap} {s : Shared} (f : Fm X B env φ F σ s) (q : ∀ x mv, ψ.lookup x = some mv → φ.lookup x = some mv) : Fm X B env ψ F σ s :=
  { f with ev := f.ev.less q }
theorem Fm.trans {X : Cx} {B : Base} {env : Env} {φ : MEnv} {F : Fz} {σ : MHeap} {s : Shared} (f : Fm X B env φ F σ s) (hn : ∀ b, own env b → B.s.heap.get? b = none) : Trans X B.F B.σ B.s F σ s := by
  refine ⟨⟨f.since.mono, fun b o e n => f.since.kp b o (fun h => by rw [hn b h] at e; cases e) e n, f.since.dom, fun b n h => ?_, fun b n ns h => ?_⟩, f.st⟩
  · by_cases q : own env b
    · exact hn b q
    · exact f.since.newS b q n h
  · by_cases q : own env b
    · exact hn b q
    · exact f.since.newF b q n ns h
/-- the same frame seen from now -/
theorem Fm.now {X : Cx} {B : Base} {env : Env} {φ : MEnv} {F : Fz} {σ : MHeap} {s : Shared} (f : Fm X B env φ F σ s) : Fm X ⟨F, σ, s⟩ env φ F σ s :=
  ⟨f.st, (Since.refl F σ s).x, f.ev, f.apart, f.above⟩
theorem Fm.back {X : Cx} {B : Base} {env : Env} {φ φ' : MEnv} {F F' : Fz} {σ σ' : MHeap} {s s' : Shared} (f : Fm X B env φ F σ s) (g : Fm X ⟨F, σ, s⟩ env φ' F' σ' s') : Fm X B env φ' F' σ' s' :=
  ⟨g.st, f.since.trans g.since, g.ev, g.apart, g.above⟩

inductive MF where
  | next | brk | cont
  | ret (v : MV)
def FlowIs (F : Fz) : MF → Flow → Prop
  | .next, f => f = .next
  | .brk, f => f = .brk
  | .cont, f => f = .cont
  | .ret mv, f => ∃ v, f = .ret v ∧ VH F mv v

def PostS (X : Cx) (B : Base) (env : Env) (Q : MF → MEnv → MHeap → Prop) (fl : Flow) (s' : Shared) : Prop :=
  ∃ F' σ' φ' mf, Fm X B env φ' F' σ' s' ∧ FlowIs F' mf fl ∧ Q mf φ' σ'
/-- statements -/
def WS (X : Cx) (A : Around) (env : Env) (ss : List Stmt) (φ : MEnv) (σ : MHeap) (Q : MF → MEnv → MHeap → Prop) : Prop :=
  ∀ B F s, Fm X B env φ F σ s → wpAny X.M A (execs ss env) (PostS X B env Q) noE s
def WS1 (X : Cx) (A : Around) (env : Env) (st : Stmt) (φ : MEnv) (σ : MHeap) (Q : MF → MEnv → MHeap → Prop) : Prop :=
  ∀ B F s, Fm X B env φ F σ s → wpAny X.M A (exec st env) (PostS X B env Q) noE s

theorem Ns.uniq {h : Heap} {a : Addr} {m m' : Str → Option Value} (x : h.Ns a m) (y : h.Ns a m') : m = m' := by
  obtain ⟨o, es, ep, ho, hd, _, hf⟩ := x
  obtain ⟨o', es', ep', ho', hd', _, hf'⟩ := y
  rw [ho] at ho'; cases ho'
  rw [hd] at hd'; cases hd'
  funext n
  rw [← hf n, ← hf' n]

def storable (env : Env) (x : Str) : Bool := match env.kindOf x with
  | some .local => true
  | some .cell => (env.cells.lookup x).isSome && !(x == ("__classdict__" : Str))
  | _ => false

section
variable {X : Cx} {A : Around} {B : Base} {env : Env} {φ : MEnv} {σ : MHeap} {F : Fz} {s : Shared}

theorem lookup_cons_self {x : Str} {mv : MV} {φ : MEnv} : List.lookup x ((x, mv) :: φ) = some mv := by simp

/-- a dict at that place is a dict still -/
def DictStays (a : Addr) (h h' : Heap) : Prop := ∀ o es n, h.get? a = some o → o.data = .dict es n → ∃ o' es' n', h'.get? a = some o' ∧ o'.data = .dict es' n'
/-- a heap that differs at one place of the frame alone -/
theorem St.sameBut {a : Addr} {h' : Heap} {t : Nat} (st : St X F σ s) (hs : Heap.SameBut a s.heap h') (hf : F a = none) (ho : σ a = none) (hdd : DictStays a s.heap h') : St X F σ { s with heap := h', toks := t } where
  top := st.top
  fz := fun b o e => (hs.2 b (by rintro rfl; rw [hf] at e; cases e)).trans (st.fz b o e)
  own := fun b d e => by
    obtain ⟨o, h1, h2⟩ := st.own b d e
    exact ⟨o, (hs.2 b (by rintro rfl; rw [ho] at e; cases e)).trans h1, h2⟩
  apart := st.apart
  gens := st.gens
  os := st.os
  frs := fun f hf => by
    obtain ⟨⟨x, es, n, hx, hd⟩, h1, h2⟩ := st.frs f hf
    refine ⟨?_, h1, h2⟩
    by_cases e : f = a
    · subst e; exact hdd x es n hx hd
    · exact ⟨x, es, n, (hs.2 f e).trans hx, hd⟩
theorem SinceX.sameBut {ex : Addr → Prop} {F₀ : Fz} {σ₀ : MHeap} {s₀ : Shared} {a : Addr} {h' : Heap} {t : Nat} (c : SinceX ex F₀ σ₀ s₀ F σ s) (hs : Heap.ExtBut a s.heap h') (hn : ex a ∨ s₀.heap.get? a = none) : SinceX ex F₀ σ₀ s₀ F σ { s with heap := h', toks := t } where
  mono := c.mono
  kp := fun b o hx e n => by
    obtain ⟨o1, e1, k1⟩ := c.kp b o hx e n
    exact ⟨o1, hs b o1 (by rintro rfl; rcases hn with h | h; exact hx h; rw [h] at e; cases e) e1, k1⟩
  dom := c.dom
  newS := c.newS
  newF := c.newF

theorem EnvOK.store {x : Str} {mv : MV} {v : Value} (st : St X F σ s) (ev : EnvOK env φ F σ s.heap) (ap : ∀ c y c₂, env.kindOf x = some .cell → env.cells.lookup x = some c → y ≠ x → env.cells.lookup y = some c₂ → c₂ ≠ c) (ab : ∀ x c, env.cells.lookup x = some c → c ≠ env.locals)
    (hv : VH F mv v) (hx : storable env x = true) :
    wpAny X.M A (storeName env x v) (fun _ s' => ∃ a h' tk, s' = { s with heap := h', toks := tk } ∧ (a = env.locals ∨ (env.kindOf x = some .cell ∧ env.cells.lookup x = some a)) ∧ Heap.SameBut a s.heap h' ∧
      F a = none ∧ σ a = none ∧ DictStays a s.heap h' ∧ EnvOK env ((x, mv) :: φ) F σ h') noE s := by
  unfold storable at hx
  split at hx
  · rename_i hk
    obtain ⟨m, hn⟩ := ev.ns
    refine wpAny_storeName_local hk hn (fun h' hn' hs' => ?_) (by rw [ev.kind]; rfl)
    have other : ∀ b, b ≠ env.locals → ∀ o, s.heap.get? b = some o → h'.get? b = some o := fun b hb o e => (hs'.2 b hb).trans e
    refine ⟨env.locals, h', _, rfl, .inl rfl, hs', ev.locFree.2, ev.locFree.1, fun _ _ _ _ _ => let ⟨o, es, ep, ho, hd, _⟩ := hn'; ⟨o, es, ep, ho, hd⟩, ?_⟩
    refine ⟨ev.kind, ev.glob, ev.bt, ?_, ⟨_, hn'⟩, ?_, ev.locFree, ev.cellFree⟩
    · intro y my hy
      by_cases e : y = x
      · subst e
        rw [lookup_cons_self] at hy; cases hy
        exact .inl ⟨hk, _, v, hn', by simp, hv⟩
      · have hy' : φ.lookup y = some my := by
          rw [List.lookup_cons] at hy
          have : (y == x) = false := by simpa using e
          rw [this] at hy; exact hy
        rcases ev.names y my hy' with ⟨hk', m', v', hn₂, hm', hv'⟩ | ⟨hk', hc, c, v', hl, hcl, hv'⟩
        · have := Ns.uniq hn hn₂; subst this
          exact .inl ⟨hk', _, v', hn', by simp [e, hm'], hv'⟩
        · exact .inr ⟨hk', hc, c, v', hl, IsCell.keepAt hcl (other c (ab y c hl)), hv'⟩
    · intro y c hc
      obtain ⟨u, hu⟩ := ev.cells y c hc
      exact ⟨u, IsCell.keepAt hu (other c (ab y c hc))⟩
  · rename_i hk
    rw [Bool.and_eq_true, Bool.not_eq_true'] at hx
    obtain ⟨c, hc⟩ := Option.isSome_iff_exists.mp hx.1
    obtain ⟨u, hu⟩ := ev.cells x c hc
    refine wpAny_storeName_cell ev.kind hk hc hu (fun h' hc' hs' => ?_)
    have hcf := ev.cellFree x c hc
    have other : ∀ b, b ≠ c → ∀ o, s.heap.get? b = some o → h'.get? b = some o := fun b hb o e => (hs'.2 b hb).trans e
    have hcl : env.locals ≠ c := Ne.symm (ab x c hc)
    refine ⟨c, h', s.toks, rfl, .inr ⟨hk, hc⟩, hs', hcf.2, hcf.1, fun o es n ho hd => (by obtain ⟨o', ho', hd'⟩ := hu; rw [ho] at ho'; cases ho'; rw [hd] at hd'; cases hd'), ?_⟩
    refine ⟨ev.kind, ev.glob, ev.bt, ?_, ?_, ?_, ev.locFree, ev.cellFree⟩
    · intro y my hy
      by_cases e : y = x
      · subst e
        rw [lookup_cons_self] at hy; cases hy
        exact .inr ⟨.inl hk, hx.2, c, v, hc, hc', hv⟩
      · have hy' : φ.lookup y = some my := by
          rw [List.lookup_cons] at hy
          have : (y == x) = false := by simpa using e
          rw [this] at hy; exact hy
        rcases ev.names y my hy' with ⟨hk', m', v', hn₂, hm', hv'⟩ | ⟨hk', hcd, c₂, v', hl, hcl₂, hv'⟩
        · exact .inl ⟨hk', m', v', Ns.keepAt hn₂ (other _ hcl), hm', hv'⟩
        · refine .inr ⟨hk', hcd, c₂, v', hl, IsCell.keepAt hcl₂ (other c₂ (ap c y c₂ hk hc e hl)), hv'⟩
    · obtain ⟨m, hn⟩ := ev.ns
      exact ⟨m, Ns.keepAt hn (other _ hcl)⟩
    · intro y c₂ hc₂
      by_cases e : c₂ = c
      · subst e; exact ⟨_, hc'⟩
      · obtain ⟨u, hu⟩ := ev.cells y c₂ hc₂
        exact ⟨u, IsCell.keepAt hu (other c₂ e)⟩
  · cases hx

theorem Fm.store {x : Str} {mv : MV} {v : Value} (f : Fm X B env φ F σ s) (hv : VH F mv v) (hx : storable env x = true) :
    wpAny X.M A (storeName env x v) (fun _ s' => Fm X B env ((x, mv) :: φ) F σ s') noE s := by
  refine wpAny_mono (EnvOK.store f.st f.ev (fun c y c₂ _ hc hy hl => by rintro rfl; exact hy (name_of_addr f.apart (lookup_mem hl) (lookup_mem hc))) (fun x c hc => f.above x c (lookup_mem hc)) hv hx) ?_ fun _ _ x => x
  rintro _ s' ⟨a, h', tk, rfl, ha, hs, hF, hσ, hdd, ev⟩
  have hn : own env a := by
    rcases ha with rfl | ⟨hk, hc⟩
    · exact .inl rfl
    · exact .inr ⟨x, hc⟩
  exact ⟨f.st.sameBut hs hF hσ hdd, f.since.sameBut hs.extBut (.inl hn), ev, f.apart, f.above⟩

variable {Q : MF → MEnv → MHeap → Prop}

theorem WS_nil (h : Q .next φ σ) : WS X A env [] φ σ Q := fun B F s f => wpAny_execs_nil ⟨F, σ, φ, .next, f, rfl, h⟩
def thenS (X : Cx) (A : Around) (env : Env) (rest : List Stmt) (Q : MF → MEnv → MHeap → Prop) : MF → MEnv → MHeap → Prop
  | .next, φ', σ' => WS X A env rest φ' σ' Q
  | .brk, φ', σ' => Q .brk φ' σ'
  | .cont, φ', σ' => Q .cont φ' σ'
  | .ret v, φ', σ' => Q (.ret v) φ' σ'
theorem WS_cons {st : Stmt} {rest : List Stmt} (h : WS1 X A env st φ σ (thenS X A env rest Q)) : WS X A env (st :: rest) φ σ Q := by
  intro B F s f
  refine wpAny_execs_cons (wpAny_mono (h B F s f) ?_ fun _ _ x => x)
  rintro fl s' ⟨F', σ', φ', mf, f', hfl, hq⟩
  cases mf with
  | next => cases hfl; exact hq B F' s' f'
  | brk => cases hfl; exact ⟨F', σ', φ', .brk, f', rfl, hq⟩
  | cont => cases hfl; exact ⟨F', σ', φ', .cont, f', rfl, hq⟩
  | ret v => obtain ⟨u, rfl, hu⟩ := hfl; exact ⟨F', σ', φ', .ret v, f', ⟨u, rfl, hu⟩, hq⟩

theorem WS1_assign {x : Str} {p pos : Pos} {e : Expr} (h : WE X A env e φ σ (fun mv σ₁ => Q .next ((x, mv) :: φ) σ₁)) (hx : storable env x = true := by rfl)
    (hs : swapsWith e (some (.Name x p)) pos.line env = pure false := by rfl) : WS1 X A env (.Assign [.Name x p] e pos) φ σ Q := by
  intro B F s f
  refine wpAny_Assign_Name (wpAny_mono (h F s f.st f.ev) ?_ fun _ _ x => x) hs
  rintro v s₁ ⟨F₁, σ₁, mv, t₁, hv, hq⟩
  exact wpAny_mono ((f.step t₁).store hv hx) (fun _ s' f' => ⟨F₁, σ₁, _, .next, f', rfl, hq⟩) fun _ _ x => x

theorem WS1_if {t : Expr} {b o : List Stmt} {pos : Pos} (h : WB X A env t φ σ (fun c σ₁ => match c with | true => WS X A env b φ σ₁ Q | false => WS X A env o φ σ₁ Q)) : WS1 X A env (.If t b o pos) φ σ Q := by
  intro B F s f
  refine wpAny_If (wpAny_mono (h F s f.st f.ev) ?_ fun _ _ x => x)
  rintro c s₁ ⟨F₁, σ₁, t₁, h₁⟩
  cases c with
  | true => exact h₁ B F₁ s₁ (f.step t₁)
  | false => exact h₁ B F₁ s₁ (f.step t₁)

theorem WS1_return {e : Expr} {pos : Pos} (h : WE X A env e φ σ (fun mv σ₁ => Q (.ret mv) φ σ₁)) : WS1 X A env (.Return (some e) pos) φ σ Q := by
  intro B F s f
  refine wpAny_Return_some (wpAny_mono (h F s f.st f.ev) ?_ fun _ _ x => x)
  rintro v s₁ ⟨F₁, σ₁, mv, t₁, hv, hq⟩
  exact ⟨F₁, σ₁, φ, .ret mv, f.step t₁, ⟨v, rfl, hv⟩, hq⟩

theorem WS1_expr {e : Expr} {pos : Pos} (h : WE X A env e φ σ (fun mv σ₁ => mv = .none ∧ Q .next φ σ₁)) (hi : interactive env = false := by rfl) (hs : swapsWith e none pos.line env = pure false := by rfl) :
    WS1 X A env (.Expr e pos) φ σ Q := by
  intro B F s f
  refine wpAny_Expr (wpAny_mono (h F s f.st f.ev) ?_ fun _ _ x => x) hi hs
  rintro v s₁ ⟨F₁, σ₁, mv, t₁, hv, rfl, hq⟩
  simp only [VH] at hv; subst hv
  exact ⟨F₁, σ₁, φ, .next, f.step t₁, rfl, hq⟩

theorem WS1_break {pos : Pos} (h : Q .brk φ σ) : WS1 X A env (.Break pos) φ σ Q := fun B F s f => wpAny_Break ⟨F, σ, φ, .brk, f, rfl, h⟩
theorem WS1_continue {pos : Pos} (h : Q .cont φ σ) : WS1 X A env (.Continue pos) φ σ Q := fun B F s f => wpAny_Continue ⟨F, σ, φ, .cont, f, rfl, h⟩

theorem WS.less {ss : List Stmt} {ψ : MEnv} (h : WS X A env ss ψ σ Q) (q : ∀ x mv, ψ.lookup x = some mv → φ.lookup x = some mv) : WS X A env ss φ σ Q :=
  fun B F s f => h B F s (f.less q)
theorem WS.mono {ss : List Stmt} {Q' : MF → MEnv → MHeap → Prop} (h : WS X A env ss φ σ Q) (q : ∀ mf φ' σ', Q mf φ' σ' → Q' mf φ' σ') : WS X A env ss φ σ Q' :=
  fun B F s f => wpAny_mono (h B F s f) (fun _ _ ⟨F', σ', φ', mf, a, b, c⟩ => ⟨F', σ', φ', mf, a, b, q _ _ _ c⟩) fun _ _ x => x
end

/-- a call of one of the text's defs -/
def WCall (X : Cx) (A : Around) (f : Addr) (args : List MV) (σ : MHeap) (Q : MV → MHeap → Prop) : Prop :=
  ∀ F s vs, St X F σ s → VHs F args vs → codeAny X.M A (.call (.ref f) ⟨vs, []⟩) (fun r s' => ∃ v, r = .ok (.ret v) ∧ PostE X F σ s Q v s') s

theorem bindL_miss {kd : Str → Option NameKind} : ∀ {binds : List (Str × Value)} {m : Str → Option Value} {x : Str}, x ∉ binds.map (·.1) → bindL kd binds m x = m x
  | [], m, x, _ => rfl
  | (n, v) :: r, m, x, h => by
    unfold bindL
    rw [bindL_miss (fun q => h (List.mem_cons_of_mem _ q))]
    have : x ≠ n := fun e => h (by subst e; exact List.mem_cons_self)
    split
    · simp [this]
    · rfl
theorem bindL_get {kd : Str → Option NameKind} : ∀ {binds : List (Str × Value)} {m : Str → Option Value} {x : Str} {v : Value}, (binds.map (·.1)).Nodup → binds.lookup x = some v → kd x = some .local → bindL kd binds m x = some v
  | [], m, x, v, _, h, _ => by simp at h
  | (n, u) :: r, m, x, v, hn, h, hk => by
    rw [List.map_cons, List.nodup_cons] at hn
    rw [List.lookup_cons] at h
    unfold bindL
    cases q : x == n with
    | true =>
      rw [q] at h; cases h
      have := beq_iff_eq.mp q; subst this
      rw [bindL_miss hn.1, if_pos hk]; simp
    | false => rw [q] at h; exact bindL_get hn.2 h hk
theorem bindC_miss {kd : Str → Option NameKind} : ∀ {binds : List (Str × Value)} {m : Str → Option Value} {x : Str}, x ∉ binds.map (·.1) → bindC kd binds m x = m x
  | [], m, x, _ => rfl
  | (n, v) :: r, m, x, h => by
    unfold bindC
    rw [bindC_miss (fun q => h (List.mem_cons_of_mem _ q))]
    have : x ≠ n := fun e => h (by subst e; exact List.mem_cons_self)
    split
    · rfl
    · simp [this]
theorem bindC_get {kd : Str → Option NameKind} : ∀ {binds : List (Str × Value)} {m : Str → Option Value} {x : Str} {v : Value}, (binds.map (·.1)).Nodup → binds.lookup x = some v → kd x ≠ some .local → bindC kd binds m x = some v
  | [], m, x, v, _, h, _ => by simp at h
  | (n, u) :: r, m, x, v, hn, h, hk => by
    rw [List.map_cons, List.nodup_cons] at hn
    rw [List.lookup_cons] at h
    unfold bindC
    cases q : x == n with
    | true =>
      rw [q] at h; cases h
      have := beq_iff_eq.mp q; subst this
      rw [bindC_miss hn.1, if_neg hk]; simp
    | false => rw [q] at h; exact bindC_get hn.2 h hk

theorem zip_lookup {F : Fz} : ∀ {ps : List Str} {ms : List MV} {vs : List Value} {x : Str} {mv : MV}, VHs F ms vs → (ps.zip ms).lookup x = some mv → ∃ v, (ps.zip vs).lookup x = some v ∧ VH F mv v
  | [], ms, vs, x, mv, _, h => by simp at h
  | p :: ps, [], vs, x, mv, _, h => by simp at h
  | p :: ps, m :: ms, vs, x, mv, hv, h => by
    simp only [VHs] at hv
    obtain ⟨v, r, rfl, ha, hb⟩ := hv
    simp only [List.zip_cons_cons, List.lookup_cons] at h ⊢
    cases q : x == p with
    | true => rw [q] at h; cases h; exact ⟨v, rfl, ha⟩
    | false => rw [q] at h; exact zip_lookup hb h

theorem zip_nodup : ∀ {ps : List Str} {us : List Value}, ps.Nodup → ((ps.zip us).map (·.1)).Nodup
  | [], _, _ => by simp
  | p :: ps, [], _ => by simp
  | p :: ps, u :: us, h => by
    rw [List.nodup_cons] at h
    rw [List.zip_cons_cons, List.map_cons, List.nodup_cons]
    refine ⟨fun q => ?_, zip_nodup h.2⟩
    obtain ⟨y, hy, e⟩ := List.mem_map.mp q
    have e' : y.1 = p := e
    exact h.1 (e' ▸ (List.of_mem_zip hy).1)

/-- what a def's own binding of its arguments does -/
def WBind (X : Cx) (A : Around) (fd : FuncData) (args : List MV) (ps : List Str) (args' : List MV) (σ : MHeap) : Prop :=
  ∀ F s vs, St X F σ s → VHs F args vs → wpAny X.M A.in1 (bindArgs fd ⟨vs, []⟩) (fun binds s' => ∃ F' us, Trans X F σ s F' σ s' ∧ binds = ps.zip us ∧ VHs F' args' us) noE s

def paramOk (fd : FuncData) (x : Str) : Bool := match fd.scope.names.lookup x with
  | some .local => true
  | some .cell => ((cellsFrom 0 fd.scope.names []).lookup x).isSome && !(x == ("__classdict__" : Str))
  | _ => false
theorem cellsFrom_some (n : Nat) : ∀ (k : Nat) (l : List (Str × NameKind)) (acc acc' : List (Str × Addr)) (x : Str), ((acc.lookup x).isSome = true → (acc'.lookup x).isSome = true) → ((cellsFrom k l acc).lookup x).isSome = true → ((cellsFrom n l acc').lookup x).isSome = true := by
  intro k l
  induction l generalizing k n with
  | nil => intro acc acc' x h q; exact h q
  | cons p r ih =>
    obtain ⟨nm, kd⟩ := p
    intro acc acc' x h q
    unfold cellsFrom at q ⊢
    split at q
    · rename_i hc
      rw [if_pos hc]
      refine ih _ _ _ _ x ?_ q
      intro z
      rw [List.lookup_cons] at z ⊢
      cases e : x == nm with
      | true => rfl
      | false => rw [e] at z; exact h z
    · rename_i hc
      rw [if_neg hc]
      exact ih _ _ _ _ x h q

theorem WCall_def {X : Cx} {A : Around} {f : Addr} {o : Obj} {fd : FuncData} {body : List Stmt} {args args' : List MV} {ps : List Str} {σ : MHeap} {Q : MV → MHeap → Prop}
    (hroom : A.depth < recursionLimit) (ho : X.h₀.get? f = some o) (hdata : o.data = .func fd) (hlim : X.h₀.NoLimit) (hcd : X.h₀.CodeRec fd.code fd.qualname) (hbody : fd.body = .stmts body) (hclo : fd.closure = [])
    (hgl : fd.globals = mainGlobals) (hbt : fd.builtins = builtinsNs)
    (hbind : WBind X A fd args ps args' σ) (hnd : ps.Nodup) (hpar : ps.all (paramOk fd) = true)
    (h : ∀ L, WS X (A.deeper (callEnvC fd L f)) (callEnvC fd L f) body (ps.zip args') σ (fun mf _ σ' => match mf with | .ret mv => Q mv σ' | .next => Q .none σ' | _ => False))
    (hco : fd.scope.isCoroutine = false := by rfl) (hgen : fd.scope.isGenerator = false := by rfl) (hk : fd.scope.kind = .function := by rfl) : WCall X A f args σ Q := by
  intro F s vs st hv
  refine codeAny_call_function hroom (st.fz _ _ (st.top _ _ ho)) hdata hco hgen hbody (hcd.keeps fun b o e => st.fz _ _ (st.top _ _ e)) ?_
  refine noE_any (wpAny_mono (hbind F s vs st hv) ?_ fun _ _ x => x)
  rintro binds s₁ ⟨F₁, us, t₁, rfl, hu⟩
  rw [hclo]
  have hpk : ∀ x ∈ ps, fd.scope.names.lookup x = some .local ∨ (fd.scope.names.lookup x = some .cell ∧ (x == ("__classdict__" : Str)) = false ∧ ∀ n, ((cellsFrom n fd.scope.names []).lookup x).isSome = true) := by
    intro x hx
    have := List.all_eq_true.mp hpar x hx
    unfold paramOk at this
    split at this
    · rename_i e; exact .inl e
    · rename_i e
      rw [Bool.and_eq_true, Bool.not_eq_true'] at this
      exact .inr ⟨e, this.2, fun n => cellsFrom_some n 0 _ [] [] x (fun z => z) this.1⟩
    · cases this
  have mem_ps : ∀ x ∈ ps.zip us, x.1 ∈ ps := fun x hx => (List.of_mem_zip hx).1
  refine wpAny_newFunctionEnv_cells hk (fun x hx => ?_) fun env he s₂ ic => ?_
  · rcases hpk x.1 (mem_ps x hx) with e | ⟨e, _, e2⟩
    · exact .inl e
    · exact .inr ⟨e, e2 _⟩
  subst he
  refine ⟨hlim.keeps fun b o e => ic.toInCall.keep b o (t₁.st.fz _ _ (t₁.st.top _ _ e)), codeAny_func ?_⟩
  obtain ⟨h₂, tk, rfl⟩ := ic.toInCall.same
  have hL := Ns.lt ic.toInCall.ns
  have hfm : Fm X ⟨F₁, σ, s₁⟩ (callEnvC fd s₁.heap.objs.size f) (ps.zip args') F₁ σ { s₁ with heap := h₂, toks := tk } := by
    have hS := t₁.st.freshSize
    have cellGe : ∀ x c, (x, c) ∈ (callEnvC fd s₁.heap.objs.size f).cells → s₁.heap.objs.size < c := fun x c hc => ic.above x c hc
    refine ⟨?_, ?_, ?_, ic.apart, fun x c hc => Nat.ne_of_gt (cellGe x c hc)⟩
    · exact ⟨t₁.st.top, fun b o e => ic.toInCall.keep b o (t₁.st.fz b o e), fun b d e => by obtain ⟨o, h1, h2⟩ := t₁.st.own b d e; exact ⟨o, ic.toInCall.keep b o h1, h2⟩, t₁.st.apart, t₁.st.gens, t₁.st.os, fun f hf => by obtain ⟨⟨o, es, n, ho, hd⟩, h2⟩ := t₁.st.frs f hf; exact ⟨⟨o, es, n, ic.toInCall.keep f o ho, hd⟩, h2⟩⟩
    · exact Since.x ⟨Fz.le_refl _, fun b o e _ => ⟨o, ic.toInCall.keep b o e, .refl o⟩, fun _ q => .inl q, fun _ q q' => absurd q q', fun _ q _ q' => absurd q q'⟩
    · refine ⟨hk, hgl, hbt, ?_, ⟨_, ic.toInCall.ns⟩, ?_, ⟨hS.2, hS.1⟩, fun x c hc => ?_⟩
      · intro x mv hx
        obtain ⟨v, hv', hvh⟩ := zip_lookup hu hx
        have hxp : x ∈ ps := (List.of_mem_zip (lookup_mem hv')).1
        have hnd' : ((ps.zip us).map (·.1)).Nodup := by
          exact zip_nodup hnd
        rcases hpk x hxp with e | ⟨e, e1, e2⟩
        · exact .inl ⟨e, _, v, ic.toInCall.ns, bindL_get hnd' hv' e, hvh⟩
        · obtain ⟨c, hc⟩ := Option.isSome_iff_exists.mp (e2 (s₁.heap.objs.size + 1))
          have hcell := ic.cell x c hc
          have : bindC (callEnvC fd s₁.heap.objs.size f).kindOf (ps.zip us) (fun _ => none) x = some v := bindC_get hnd' hv' (by
            show fd.scope.names.lookup x ≠ _
            rw [e]; decide)
          exact .inr ⟨.inl e, e1, c, v, hc, this ▸ hcell, hvh⟩
      · exact fun x c hc => ⟨_, ic.cell x c hc⟩
      · have := cellGe x c (lookup_mem hc)
        have := t₁.st.fresh (get?_ge (Nat.le_of_lt this))
        exact ⟨this.2, this.1⟩
  refine noE_any (wpAny_mono (h _ _ F₁ _ hfm) ?_ fun _ _ x => x)
  rintro fl s' ⟨F', σ', φ', mf, f', hfl, hq⟩
  have ft := f'.trans (fun b hb => by
    rcases hb with rfl | ⟨x, hx⟩
    · exact get?_ge (Nat.le_refl _)
    · exact get?_ge (Nat.le_of_lt (ic.above x b (lookup_mem hx))))
  cases mf with
  | next => cases hfl; exact ⟨_, rfl, F', σ', .none, t₁.trans ft, by simp only [VH], hq⟩
  | brk => exact hq.elim
  | cont => exact hq.elim
  | ret mv => obtain ⟨v, rfl, hv'⟩ := hfl; exact ⟨_, rfl, F', σ', mv, t₁.trans ft, hv', hq⟩
end Mine
end
section
open PySem PySem.W PyProof.Rows PySem.Calls
set_option Elab.async false
set_option maxRecDepth 100000
set_option linter.unusedVariables false
namespace Mine
noncomputable abbrev KK : Params → Frag := heapK

structure Cx.Ok (X : Cx) : Prop where
  kin : (KK X.w.params).In X.h₀
  top : ∃ p loose mg mb, TopRead p loose mg mb X.h₀

def fdGet (o : Obj) : FuncData := match o.data with
  | .func f => f
  | _ => fdOf (.Pass ⟨0, 0, 0, 0⟩) Str.empty .none .none .none none .none .none

def FnAt (X : Cx) (a : Addr) (st : Stmt) (qual : Str) (dflt : Value) : Prop :=
  ∃ o doc pm an code ct, X.h₀.get? a = some o ∧ o.data = .func (fdOf st qual dflt doc pm an code ct) ∧ X.h₀.CodeRec code qual

noncomputable def objAt (P : Params) (a : Addr) : Obj := ((KK P).lookup a).getD { cls := .none }
theorem at_ {X : Cx} (hX : X.Ok) (a : Addr) (h : ((KK X.w.params).lookup a).isSome = true) : X.h₀.get? a = some (objAt X.w.params a) := by
  refine hX.kin a _ ?_
  unfold objAt
  cases q : (KK X.w.params).lookup a with
  | none => rw [q] at h; cases h
  | some o => rfl
theorem fnAt {X : Cx} (hX : X.Ok) (a c : Addr) (st : Stmt) (qual : Str) (dflt : Value) (vs : Array Value) (t : Tok)
    (h : ((KK X.w.params).lookup a).isSome = true) (hc : ((KK X.w.params).lookup c).isSome = true)
    (hd : (objAt X.w.params a).data = .func (fdOf st qual dflt (fdGet (objAt X.w.params a)).doc (fdGet (objAt X.w.params a)).pyModule (fdGet (objAt X.w.params a)).annotations (.ref c) (fdGet (objAt X.w.params a)).closureTuple))
    (hf : (objAt X.w.params c).data = .fields vs) (hv : vs[1]? = some (.str qual t)) : FnAt X a st qual dflt :=
  ⟨_, _, _, _, _, _, at_ hX a h, hd, ⟨c, _, vs, t, rfl, at_ hX c hc, hf, hv⟩⟩

noncomputable def fieldsOf' (o : Obj) : Array Value := match o.data with | .fields vs => vs | _ => #[]
def tokOf : Option Value → Tok
  | some (.str _ t) => t
  | _ => 0
section
variable {X : Cx}
theorem fn_ctoi (hX : X.Ok) : FnAt X 148 (top 8) "_ctoi" .none :=
  fnAt hX 148 147 (top 8) "_ctoi" .none (fieldsOf' (objAt X.w.params 147)) (tokOf (fieldsOf' (objAt X.w.params 147))[1]?) (by kernel_rfl) (by kernel_rfl) (by kernel_rfl) (by kernel_rfl) (by kernel_rfl)
theorem fn_isalnum (hX : X.Ok) : FnAt X 155 (top 9) "isalnum" .none :=
  fnAt hX 155 154 (top 9) "isalnum" .none (fieldsOf' (objAt X.w.params 154)) (tokOf (fieldsOf' (objAt X.w.params 154))[1]?) (by kernel_rfl) (by kernel_rfl) (by kernel_rfl) (by kernel_rfl) (by kernel_rfl)
theorem fn_isalpha (hX : X.Ok) : FnAt X 162 (top 10) "isalpha" .none :=
  fnAt hX 162 161 (top 10) "isalpha" .none (fieldsOf' (objAt X.w.params 161)) (tokOf (fieldsOf' (objAt X.w.params 161))[1]?) (by kernel_rfl) (by kernel_rfl) (by kernel_rfl) (by kernel_rfl) (by kernel_rfl)
theorem fn_isascii (hX : X.Ok) : FnAt X 169 (top 11) "isascii" .none :=
  fnAt hX 169 168 (top 11) "isascii" .none (fieldsOf' (objAt X.w.params 168)) (tokOf (fieldsOf' (objAt X.w.params 168))[1]?) (by kernel_rfl) (by kernel_rfl) (by kernel_rfl) (by kernel_rfl) (by kernel_rfl)
theorem fn_isblank (hX : X.Ok) : FnAt X 176 (top 12) "isblank" .none :=
  fnAt hX 176 175 (top 12) "isblank" .none (fieldsOf' (objAt X.w.params 175)) (tokOf (fieldsOf' (objAt X.w.params 175))[1]?) (by kernel_rfl) (by kernel_rfl) (by kernel_rfl) (by kernel_rfl) (by kernel_rfl)
theorem fn_iscntrl (hX : X.Ok) : FnAt X 183 (top 13) "iscntrl" .none :=
  fnAt hX 183 182 (top 13) "iscntrl" .none (fieldsOf' (objAt X.w.params 182)) (tokOf (fieldsOf' (objAt X.w.params 182))[1]?) (by kernel_rfl) (by kernel_rfl) (by kernel_rfl) (by kernel_rfl) (by kernel_rfl)
theorem fn_isdigit (hX : X.Ok) : FnAt X 190 (top 14) "isdigit" .none :=
  fnAt hX 190 189 (top 14) "isdigit" .none (fieldsOf' (objAt X.w.params 189)) (tokOf (fieldsOf' (objAt X.w.params 189))[1]?) (by kernel_rfl) (by kernel_rfl) (by kernel_rfl) (by kernel_rfl) (by kernel_rfl)
theorem fn_isgraph (hX : X.Ok) : FnAt X 197 (top 15) "isgraph" .none :=
  fnAt hX 197 196 (top 15) "isgraph" .none (fieldsOf' (objAt X.w.params 196)) (tokOf (fieldsOf' (objAt X.w.params 196))[1]?) (by kernel_rfl) (by kernel_rfl) (by kernel_rfl) (by kernel_rfl) (by kernel_rfl)
theorem fn_islower (hX : X.Ok) : FnAt X 204 (top 16) "islower" .none :=
  fnAt hX 204 203 (top 16) "islower" .none (fieldsOf' (objAt X.w.params 203)) (tokOf (fieldsOf' (objAt X.w.params 203))[1]?) (by kernel_rfl) (by kernel_rfl) (by kernel_rfl) (by kernel_rfl) (by kernel_rfl)
theorem fn_isprint (hX : X.Ok) : FnAt X 211 (top 17) "isprint" .none :=
  fnAt hX 211 210 (top 17) "isprint" .none (fieldsOf' (objAt X.w.params 210)) (tokOf (fieldsOf' (objAt X.w.params 210))[1]?) (by kernel_rfl) (by kernel_rfl) (by kernel_rfl) (by kernel_rfl) (by kernel_rfl)
theorem fn_ispunct (hX : X.Ok) : FnAt X 218 (top 18) "ispunct" .none :=
  fnAt hX 218 217 (top 18) "ispunct" .none (fieldsOf' (objAt X.w.params 217)) (tokOf (fieldsOf' (objAt X.w.params 217))[1]?) (by kernel_rfl) (by kernel_rfl) (by kernel_rfl) (by kernel_rfl) (by kernel_rfl)
theorem fn_isspace (hX : X.Ok) : FnAt X 225 (top 19) "isspace" .none :=
  fnAt hX 225 224 (top 19) "isspace" .none (fieldsOf' (objAt X.w.params 224)) (tokOf (fieldsOf' (objAt X.w.params 224))[1]?) (by kernel_rfl) (by kernel_rfl) (by kernel_rfl) (by kernel_rfl) (by kernel_rfl)
theorem fn_isupper (hX : X.Ok) : FnAt X 232 (top 20) "isupper" .none :=
  fnAt hX 232 231 (top 20) "isupper" .none (fieldsOf' (objAt X.w.params 231)) (tokOf (fieldsOf' (objAt X.w.params 231))[1]?) (by kernel_rfl) (by kernel_rfl) (by kernel_rfl) (by kernel_rfl) (by kernel_rfl)
theorem fn_isxdigit (hX : X.Ok) : FnAt X 239 (top 21) "isxdigit" .none :=
  fnAt hX 239 238 (top 21) "isxdigit" .none (fieldsOf' (objAt X.w.params 238)) (tokOf (fieldsOf' (objAt X.w.params 238))[1]?) (by kernel_rfl) (by kernel_rfl) (by kernel_rfl) (by kernel_rfl) (by kernel_rfl)
theorem fn_isctrl (hX : X.Ok) : FnAt X 246 (top 22) "isctrl" .none :=
  fnAt hX 246 245 (top 22) "isctrl" .none (fieldsOf' (objAt X.w.params 245)) (tokOf (fieldsOf' (objAt X.w.params 245))[1]?) (by kernel_rfl) (by kernel_rfl) (by kernel_rfl) (by kernel_rfl) (by kernel_rfl)
theorem fn_ismeta (hX : X.Ok) : FnAt X 253 (top 23) "ismeta" .none :=
  fnAt hX 253 252 (top 23) "ismeta" .none (fieldsOf' (objAt X.w.params 252)) (tokOf (fieldsOf' (objAt X.w.params 252))[1]?) (by kernel_rfl) (by kernel_rfl) (by kernel_rfl) (by kernel_rfl) (by kernel_rfl)
theorem fn_law_kinds (hX : X.Ok) : FnAt X 258 (top 25) "_law_kinds" .none :=
  fnAt hX 258 257 (top 25) "_law_kinds" .none (fieldsOf' (objAt X.w.params 257)) (tokOf (fieldsOf' (objAt X.w.params 257))[1]?) (by kernel_rfl) (by kernel_rfl) (by kernel_rfl) (by kernel_rfl) (by kernel_rfl)
theorem fn_law_thing (hX : X.Ok) : FnAt X 265 (top 26) "_law_thing" .none :=
  fnAt hX 265 264 (top 26) "_law_thing" .none (fieldsOf' (objAt X.w.params 264)) (tokOf (fieldsOf' (objAt X.w.params 264))[1]?) (by kernel_rfl) (by kernel_rfl) (by kernel_rfl) (by kernel_rfl) (by kernel_rfl)
theorem fn_law_ties (hX : X.Ok) : FnAt X 270 (top 27) "_law_ties" .none :=
  fnAt hX 270 269 (top 27) "_law_ties" .none (fieldsOf' (objAt X.w.params 269)) (tokOf (fieldsOf' (objAt X.w.params 269))[1]?) (by kernel_rfl) (by kernel_rfl) (by kernel_rfl) (by kernel_rfl) (by kernel_rfl)
theorem fn_law (hX : X.Ok) : FnAt X 275 (top 28) "law" .none :=
  fnAt hX 275 274 (top 28) "law" .none (fieldsOf' (objAt X.w.params 274)) (tokOf (fieldsOf' (objAt X.w.params 274))[1]?) (by kernel_rfl) (by kernel_rfl) (by kernel_rfl) (by kernel_rfl) (by kernel_rfl)
theorem fn_ni_init (hX : X.Ok) : FnAt X 36 (meth 4 1) "_NodeInfo.__init__" .none :=
  fnAt hX 36 35 (meth 4 1) "_NodeInfo.__init__" .none (fieldsOf' (objAt X.w.params 35)) (tokOf (fieldsOf' (objAt X.w.params 35))[1]?) (by kernel_rfl) (by kernel_rfl) (by kernel_rfl) (by kernel_rfl) (by kernel_rfl)
theorem fn_ts_init (hX : X.Ok) : FnAt X 73 (meth 6 0) "TopologicalSorter.__init__" (.ref 66) :=
  fnAt hX 73 72 (meth 6 0) "TopologicalSorter.__init__" (.ref 66) (fieldsOf' (objAt X.w.params 72)) (tokOf (fieldsOf' (objAt X.w.params 72))[1]?) (by kernel_rfl) (by kernel_rfl) (by kernel_rfl) (by kernel_rfl) (by kernel_rfl)
theorem fn_ts__get_nodeinfo (hX : X.Ok) : FnAt X 80 (meth 6 1) "TopologicalSorter._get_nodeinfo" .none :=
  fnAt hX 80 79 (meth 6 1) "TopologicalSorter._get_nodeinfo" .none (fieldsOf' (objAt X.w.params 79)) (tokOf (fieldsOf' (objAt X.w.params 79))[1]?) (by kernel_rfl) (by kernel_rfl) (by kernel_rfl) (by kernel_rfl) (by kernel_rfl)
theorem fn_ts_add (hX : X.Ok) : FnAt X 87 (meth 6 2) "TopologicalSorter.add" .none :=
  fnAt hX 87 86 (meth 6 2) "TopologicalSorter.add" .none (fieldsOf' (objAt X.w.params 86)) (tokOf (fieldsOf' (objAt X.w.params 86))[1]?) (by kernel_rfl) (by kernel_rfl) (by kernel_rfl) (by kernel_rfl) (by kernel_rfl)
theorem fn_ts_prepare (hX : X.Ok) : FnAt X 92 (meth 6 3) "TopologicalSorter.prepare" .none :=
  fnAt hX 92 91 (meth 6 3) "TopologicalSorter.prepare" .none (fieldsOf' (objAt X.w.params 91)) (tokOf (fieldsOf' (objAt X.w.params 91))[1]?) (by kernel_rfl) (by kernel_rfl) (by kernel_rfl) (by kernel_rfl) (by kernel_rfl)
theorem fn_ts_get_ready (hX : X.Ok) : FnAt X 99 (meth 6 4) "TopologicalSorter.get_ready" .none :=
  fnAt hX 99 98 (meth 6 4) "TopologicalSorter.get_ready" .none (fieldsOf' (objAt X.w.params 98)) (tokOf (fieldsOf' (objAt X.w.params 98))[1]?) (by kernel_rfl) (by kernel_rfl) (by kernel_rfl) (by kernel_rfl) (by kernel_rfl)
theorem fn_ts_is_active (hX : X.Ok) : FnAt X 106 (meth 6 5) "TopologicalSorter.is_active" .none :=
  fnAt hX 106 105 (meth 6 5) "TopologicalSorter.is_active" .none (fieldsOf' (objAt X.w.params 105)) (tokOf (fieldsOf' (objAt X.w.params 105))[1]?) (by kernel_rfl) (by kernel_rfl) (by kernel_rfl) (by kernel_rfl) (by kernel_rfl)
theorem fn_ts_done (hX : X.Ok) : FnAt X 120 (meth 6 7) "TopologicalSorter.done" .none :=
  fnAt hX 120 119 (meth 6 7) "TopologicalSorter.done" .none (fieldsOf' (objAt X.w.params 119)) (tokOf (fieldsOf' (objAt X.w.params 119))[1]?) (by kernel_rfl) (by kernel_rfl) (by kernel_rfl) (by kernel_rfl) (by kernel_rfl)
theorem fn_ts__find_cycle (hX : X.Ok) : FnAt X 127 (meth 6 8) "TopologicalSorter._find_cycle" .none :=
  fnAt hX 127 126 (meth 6 8) "TopologicalSorter._find_cycle" .none (fieldsOf' (objAt X.w.params 126)) (tokOf (fieldsOf' (objAt X.w.params 126))[1]?) (by kernel_rfl) (by kernel_rfl) (by kernel_rfl) (by kernel_rfl) (by kernel_rfl)
end
end Mine
end
section
open PySem PySem.W PyProof.Rows PySem.Calls
set_option Elab.async false
set_option maxRecDepth 100000
set_option linter.unusedVariables false
namespace Mine
section
variable {X : Cx} {A : Around} {env : Env} {φ : MEnv} {σ : MHeap} {Q : MV → MHeap → Prop} {F : Fz} {s : Shared}

def GlobIs (X : Cx) (x : Str) (v : Value) : Prop :=
  ∀ (A : Around) (env : Env) (Q : Value → Shared → Prop) (E : Value → Shared → Prop) (s : Shared), env.globals = mainGlobals → env.builtins = builtinsNs → (∀ b o, X.h₀.get? b = some o → s.heap.get? b = some o) → Q v s → wpAny X.M A (loadGlobal env x) Q E s
theorem globK (hX : X.Ok) {x : Str} {v : Value} (e : nsIn (KK X.w.params) mainGlobals x = some (some v)) : GlobIs X x v := by
  intro A env Q E s hg hb k h
  obtain ⟨p, loose, mg, mb, T⟩ := hX.top
  exact loadGlobal_global (by rw [hg]; exact T.g.keeps k) (mg_of hX.kin T.g e) h
theorem globB (hX : X.Ok) {x : Str} {v : Value} (e : nsIn (KK X.w.params) mainGlobals x = some none) (hv : bootBuiltins x = some v) (hn : x ≠ "__name__") : GlobIs X x v := by
  intro A env Q E s hg hb k h
  obtain ⟨p, loose, mg, mb, T⟩ := hX.top
  exact loadGlobal_builtin (by rw [hg]; exact T.g.keeps k) (mg_none_of hX.kin T.g e) (by rw [hb]; exact T.b.keeps k) ((T.builtins x hn).trans hv) h
theorem St.h₀ (st : St X F σ s) : ∀ b o, X.h₀.get? b = some o → s.heap.get? b = some o := fun b o e => st.fz b o (st.top b o e)
theorem Cx.Ok.lim (hX : X.Ok) : X.h₀.NoLimit := by obtain ⟨p, loose, mg, mb, T⟩ := hX.top; exact T.nolimit

theorem WE_glob {x : Str} {pos : Pos} {v : Value} (hg : GlobIs X x v) (h : Q (.raw v) σ) (hk : env.kindOf x = some .globalImplicit := by rfl) (hd : (x == ("__debug__" : Str)) = false := by decide) : WE X A env (.Name x pos) φ σ Q :=
  fun F s st ev => Name_function_global ev.kind hk (hg A env _ _ s ev.glob ev.bt st.h₀ (.now st (by simp only [VH]) h)) hd
theorem WE_globInt {x : Str} {pos : Pos} {i : Int} {t : Tok} (hg : GlobIs X x (.int i t)) (h : Q (.int i) σ) (hk : env.kindOf x = some .globalImplicit := by rfl) (hd : (x == ("__debug__" : Str)) = false := by decide) : WE X A env (.Name x pos) φ σ Q :=
  fun F s st ev => Name_function_global ev.kind hk (hg A env _ _ s ev.glob ev.bt st.h₀ (.now st (by simp only [VH]; exact ⟨t, rfl⟩) h)) hd

def loneStar : List (Bool × Sem Value) → Bool
  | [(true, _)] => true
  | _ => false
theorem evalArgs_sp {M : Model} {E : Value → Shared → Prop} {f : Value} {args : List (Bool × Sem Value)} {Q : Args → Shared → Prop} (hn : loneStar args = false) (h : wpAny M A (spliced args) (fun vs s' => Q ⟨vs, []⟩ s') E s) : wpAny M A (evalArgs f true args []) Q E s := by
  have fin : ∀ {args : List (Bool × Sem Value)}, wpAny M A (spliced args) (fun vs s' => Q ⟨vs, []⟩ s') E s → (evalArgs f true args [] = (spliced args >>= fun vs => holding (vs ++ (none : Option Value).toList) ((evalAll (([] : List (Option Str × Sem Value)).map (·.2))) >>= fun us => (pure vs : Sem (List Value)) >>= fun ps => pure ⟨ps, (([] : List (Option Str × Sem Value)).filterMap (·.1)).zip us⟩))) → wpAny M A (evalArgs f true args []) Q E s := fun h e => by
    rw [e]
    refine wpAny_bind (wpAny_mono h (fun vs s' h' => ?_) fun _ _ x => x)
    refine wpAny_holding ?_
    exact wpAny_bind (wpAny_pure (wpAny_bind (wpAny_pure (wpAny_pure h'))))
  match args, hn, h with
  | [], _, h => exact fin h rfl
  | [(false, x)], _, h => exact fin h rfl
  | [(true, x)], hn, _ => cases hn
  | (false, x) :: y :: r, _, h => exact fin h rfl
  | (true, x) :: y :: r, _, h => exact fin h rfl

/-- a call with given values -/
def WCv (X : Cx) (A : Around) (f : Value) (args : List MV) (σ : MHeap) (Q : MV → MHeap → Prop) : Prop :=
  ∀ F s vs, St X F σ s → VHs F args vs → wpAny X.M A (call f vs) (PostE X F σ s Q) noE s
theorem WCall.v {f : Addr} {args : List MV} (h : WCall X A f args σ Q) : WCv X A (.ref f) args σ Q := fun F s vs st hv => by
  refine wpAny_call (codeAny_mono (h F s vs st hv) ?_)
  rintro r s' ⟨v, rfl, hp⟩
  exact hp

theorem WE_callF {x : Str} {p pos : Pos} {args : List Expr} {a : Addr} {st' : Stmt} {q : Str} {d : Value} (hg : GlobIs X x (.ref a)) (hf : FnAt X a st' q d)
    (h : WL X A env pos args φ σ (fun ms σ₁ => WCall X A a ms σ₁ Q)) (hn : loneStar (backTo pos (starEach args env)) = false := by rfl) (hk : env.kindOf x = some .globalImplicit := by rfl) (hd : (x == ("__debug__" : Str)) = false := by decide) :
    WE X A env (.Call (.Name x p) args [] pos) φ σ Q := by
  intro F s st ev
  obtain ⟨o, doc, pm, an, code, ct, ho, hdat, hcd⟩ := hf
  refine wpAny_Call_NameR (Name_function_global ev.kind hk (hg A env _ _ s ev.glob ev.bt st.h₀ ?_) hd)
  refine callWith_function (o := o) (fd := fdOf st' q d doc pm an code ct) (evalArgs_sp hn (wpAny_mono (h F s st ev) ?_ fun _ _ x => x))
  rintro vs s₁ ⟨F₁, σ₁, ms, t₁, hm, h₁⟩
  exact ⟨⟨t₁.st.h₀ _ _ ho, hdat⟩, wpAny_mono (WCall.v h₁ F₁ s₁ vs t₁.st hm) (fun _ _ p => p.trans t₁) fun _ _ x => x⟩
theorem WE_callB {x : Str} {p pos : Pos} {args : List Expr} {id : String} (hg : GlobIs X x (.builtin id))
    (h : WL X A env pos args φ σ (fun ms σ₁ => WCv X A (.builtin id) ms σ₁ Q)) (hp : (backTo pos (starEach args env)).any (·.1) = false := by rfl) (hn : loneStar (backTo pos (starEach args env)) = false := by rfl) (hk : env.kindOf x = some .globalImplicit := by rfl) (hd : (x == ("__debug__" : Str)) = false := by decide) :
    WE X A env (.Call (.Name x p) args [] pos) φ σ Q := by
  intro F s st ev
  refine wpAny_Call_NameR (Name_function_global ev.kind hk (hg A env _ _ s ev.glob ev.bt st.h₀ ?_) hd)
  refine callWith_builtin hp (evalArgs_sp hn (wpAny_mono (h F s st ev) ?_ fun _ _ x => x))
  rintro vs s₁ ⟨F₁, σ₁, ms, t₁, hm, h₁⟩
  exact wpAny_mono (h₁ F₁ s₁ vs t₁.st hm) (fun _ _ p => p.trans t₁) fun _ _ x => x
theorem WE_callT {x : Str} {p pos : Pos} {args : List Expr} {T : String} (hg : GlobIs X x (.type T))
    (h : WL X A env pos args φ σ (fun ms σ₁ => WCv X A (.type T) ms σ₁ Q)) (hp : (backTo pos (starEach args env)).any (·.1) = false := by rfl) (hn : loneStar (backTo pos (starEach args env)) = false := by rfl) (hk : env.kindOf x = some .globalImplicit := by rfl) (hd : (x == ("__debug__" : Str)) = false := by decide) :
    WE X A env (.Call (.Name x p) args [] pos) φ σ Q := by
  intro F s st ev
  refine wpAny_Call_NameR (Name_function_global ev.kind hk (hg A env _ _ s ev.glob ev.bt st.h₀ ?_) hd)
  refine PyProof.Rows.callWith_type hp (evalArgs_sp hn (wpAny_mono (h F s st ev) ?_ fun _ _ x => x))
  rintro vs s₁ ⟨F₁, σ₁, ms, t₁, hm, h₁⟩
  exact wpAny_mono (h₁ F₁ s₁ vs t₁.st hm) (fun _ _ p => p.trans t₁) fun _ _ x => x

/-- operations on ints -/
theorem V_add {a b : Int} (h : Q (.int (a + b)) σ) : WV2 X A (binaryOp .Add) (.int a) (.int b) σ Q := by
  rintro F s v u st hv hu; simp only [VH] at hv hu; obtain ⟨t, rfl⟩ := hv; obtain ⟨t', rfl⟩ := hu
  exact PyProof.Rows.add_int (.tk st (by simp only [VH]; exact ⟨_, rfl⟩) h)
theorem V_sub {a b : Int} (h : Q (.int (a - b)) σ) : WV2 X A (binaryOp .Sub) (.int a) (.int b) σ Q := by
  rintro F s v u st hv hu; simp only [VH] at hv hu; obtain ⟨t, rfl⟩ := hv; obtain ⟨t', rfl⟩ := hu
  exact PyProof.Rows.sub_int (.tk st (by simp only [VH]; exact ⟨_, rfl⟩) h)
theorem V_mul {a b : Int} (hm : IntMulOk a b) (h : Q (.int (a * b)) σ) : WV2 X A (binaryOp .Mult) (.int a) (.int b) σ Q := by
  rintro F s v u st hv hu; simp only [VH] at hv hu; obtain ⟨t, rfl⟩ := hv; obtain ⟨t', rfl⟩ := hu
  exact PyProof.Rows.mul_int (.tk st (by simp only [VH]; exact ⟨_, rfl⟩) h) hm
theorem V_mod {a b : Int} (hb : b ≠ 0) (h : Q (.int (a.fmod b)) σ) : WV2 X A (binaryOp .Mod) (.int a) (.int b) σ Q := by
  rintro F s v u st hv hu; simp only [VH] at hv hu; obtain ⟨t, rfl⟩ := hv; obtain ⟨t', rfl⟩ := hu
  exact PyProof.Rows.mod_int' hb (.tk st (by simp only [VH]; exact ⟨_, rfl⟩) h)
theorem V_div {a b : Int} (hb : b ≠ 0) (hs : Builtin.divisionGoesByPylong a b = false) (h : Q (.int (a.fdiv b)) σ) : WV2 X A (binaryOp .FloorDiv) (.int a) (.int b) σ Q := by
  rintro F s v u st hv hu; simp only [VH] at hv hu; obtain ⟨t, rfl⟩ := hv; obtain ⟨t', rfl⟩ := hu
  exact PyProof.Rows.floordiv_int hb (.tk st (by simp only [VH]; exact ⟨_, rfl⟩) h) (.inl hs)
theorem V_eq {a b : Int} (h : Q (.bool (a == b)) σ) : WV2 X A (compareOp .Eq) (.int a) (.int b) σ Q := by
  rintro F s v u st hv hu; simp only [VH] at hv hu; obtain ⟨t, rfl⟩ := hv; obtain ⟨t', rfl⟩ := hu
  exact PyProof.Rows.eq_int (.now st (by simp only [VH]) h)
theorem V_ne {a b : Int} (h : Q (.bool (a != b)) σ) : WV2 X A (compareOp .NotEq) (.int a) (.int b) σ Q := by
  rintro F s v u st hv hu; simp only [VH] at hv hu; obtain ⟨t, rfl⟩ := hv; obtain ⟨t', rfl⟩ := hu
  exact PyProof.Rows.ne_int (.now st (by simp only [VH]) h)
theorem V_lt {a b : Int} (h : Q (.bool (decide (a < b))) σ) : WV2 X A (compareOp .Lt) (.int a) (.int b) σ Q := by
  rintro F s v u st hv hu; simp only [VH] at hv hu; obtain ⟨t, rfl⟩ := hv; obtain ⟨t', rfl⟩ := hu
  exact PyProof.Rows.lt_int (.now st (by simp only [VH]) h)
theorem V_le {a b : Int} (h : Q (.bool (decide (a ≤ b))) σ) : WV2 X A (compareOp .LtE) (.int a) (.int b) σ Q := by
  rintro F s v u st hv hu; simp only [VH] at hv hu; obtain ⟨t, rfl⟩ := hv; obtain ⟨t', rfl⟩ := hu
  exact PyProof.Rows.le_int (.now st (by simp only [VH]) h)
theorem V_gt {a b : Int} (h : Q (.bool (decide (b < a))) σ) : WV2 X A (compareOp .Gt) (.int a) (.int b) σ Q := by
  rintro F s v u st hv hu; simp only [VH] at hv hu; obtain ⟨t, rfl⟩ := hv; obtain ⟨t', rfl⟩ := hu
  exact PyProof.Rows.gt_int (.now st (by simp only [VH]) h)
theorem V_ge {a b : Int} (h : Q (.bool (decide (b ≤ a))) σ) : WV2 X A (compareOp .GtE) (.int a) (.int b) σ Q := by
  rintro F s v u st hv hu; simp only [VH] at hv hu; obtain ⟨t, rfl⟩ := hv; obtain ⟨t', rfl⟩ := hu
  exact PyProof.Rows.ge_int (.now st (by simp only [VH]) h)
theorem Tr_bool {b : Bool} {Q : Bool → MHeap → Prop} (h : Q b σ) : WTr X A (.bool b) σ Q := by
  rintro F s v st hv; simp only [VH] at hv; subst hv
  exact wpAny_truthy_bool ⟨F, σ, .refl st, h⟩
end
end Mine
end
section
open PySem PySem.W PyProof.Rows PySem.Calls
set_option Elab.async false
set_option maxRecDepth 100000
set_option linter.unusedVariables false
namespace Mine
section
variable {X : Cx} {A : Around} {env : Env} {φ : MEnv} {σ : MHeap} {Q : MV → MHeap → Prop} {F : Fz} {s : Shared}

theorem VH.listAt {xs : List MV} {v : Value} (st : St X F σ s) (h : VH F (.list xs) v) : ∃ a items n, v = .ref a ∧ F a = some (lobj items n) ∧ s.heap.IsList a items ∧ VHs F xs items.toList := by
  simp only [VH] at h
  obtain ⟨a, items, n, rfl, hf, hv⟩ := h
  exact ⟨a, items, n, rfl, hf, ⟨_, st.fz _ _ hf, rfl, n, rfl⟩, hv⟩
theorem VH.tupAt {xs : List MV} {v : Value} (st : St X F σ s) (h : VH F (.tup xs) v) : ∃ a items n, v = .ref a ∧ F a = some (tobj items n) ∧ IsTup s.heap a items ∧ VHs F xs items.toList := by
  simp only [VH] at h
  obtain ⟨a, items, n, rfl, hf, hv⟩ := h
  exact ⟨a, items, n, rfl, hf, ⟨_, st.fz _ _ hf, rfl, n, rfl⟩, hv⟩
theorem VHs.ints : ∀ {ns : List Int} {vs : List Value}, VHs F (ns.map .int) vs → IntsAre vs ns
  | [], vs, h => by simp only [List.map_nil, VHs] at h; subst h; exact .nil
  | n :: ns, vs, h => by
    simp only [List.map_cons, VHs] at h
    obtain ⟨v, r, rfl, hv, hr⟩ := h
    simp only [VH] at hv
    obtain ⟨t, rfl⟩ := hv
    exact .cons n t (VHs.ints hr)
theorem VHs.ofInts : ∀ {ns : List Int} {vs : List Value}, IntsAre vs ns → VHs F (ns.map .int) vs
  | _, _, .nil => by simp only [List.map_nil, VHs]
  | _, _, .cons n t h => by simp only [List.map_cons, VHs]; exact ⟨_, _, rfl, by simp only [VH]; exact ⟨t, rfl⟩, VHs.ofInts h⟩

/-- and, or as values -/
def WBo (X : Cx) (A : Around) (env : Env) (pos : Pos) (op : BoolOp) (es : List Expr) (φ : MEnv) (σ : MHeap) (Q : MV → MHeap → Prop) : Prop :=
  WT X A env (boolOp pos op (evalEach es env)) φ σ Q
theorem WE_boolop {op : BoolOp} {es : List Expr} {pos : Pos} (h : WBo X A env pos op es φ σ Q) : WE X A env (.BoolOp op es pos) φ σ Q := h
theorem WBo_last {op : BoolOp} {e : Expr} {pos : Pos} (h : WE X A env e φ σ Q) : WBo X A env pos op [e] φ σ Q := h
theorem WBo_or {e e' : Expr} {es : List Expr} {pos : Pos} (h : WE X A env e φ σ (fun a σ₁ => WTr X A a σ₁ (fun b σ₂ => match b with | true => σ₂ = σ₁ ∧ Q a σ₁ | false => σ₂ = σ₁ ∧ WBo X A env pos .Or (e' :: es) φ σ₁ Q))) :
    WBo X A env pos .Or (e :: e' :: es) φ σ Q := by
  intro F s st ev
  show wpAny X.M A (do
    let v ← eval e env
    standAt pos
    let t ← holding [v] (truthy v)
    match BoolOp.Or, t with
    | .And, false | .Or, true => pure v
    | _, _ => boolOp pos .Or (evalEach (e' :: es) env)) _ _ s
  refine wpAny_bind (wpAny_mono (h F s st ev) ?_ fun _ _ x => x)
  rintro v s₁ ⟨F₁, σ₁, a, t₁, ha, h₁⟩
  refine wpAny_bind (wpAny_standAt (wpAny_bind (wpAny_holding (wpAny_mono (h₁ F₁ s₁ v t₁.st ha) ?_ fun _ _ x => x))))
  rintro b s₂ ⟨F₂, σ₂, t₂, h₂⟩
  cases b with
  | true => obtain ⟨rfl, hq⟩ := h₂; exact wpAny_pure ⟨F₂, σ₂, a, t₁.trans t₂, ha.mono t₂.mono, hq⟩
  | false =>
    obtain ⟨rfl, hq⟩ := h₂
    exact wpAny_mono (hq F₂ s₂ t₂.st ((ev.step t₁.toSince).step t₂.toSince)) (fun _ _ p => p.trans (t₁.trans t₂)) fun _ _ x => x
theorem WBo_and {e e' : Expr} {es : List Expr} {pos : Pos} (h : WE X A env e φ σ (fun a σ₁ => WTr X A a σ₁ (fun b σ₂ => match b with | false => σ₂ = σ₁ ∧ Q a σ₁ | true => σ₂ = σ₁ ∧ WBo X A env pos .And (e' :: es) φ σ₁ Q))) :
    WBo X A env pos .And (e :: e' :: es) φ σ Q := by
  intro F s st ev
  show wpAny X.M A (do
    let v ← eval e env
    standAt pos
    let t ← holding [v] (truthy v)
    match BoolOp.And, t with
    | .And, false | .Or, true => pure v
    | _, _ => boolOp pos .And (evalEach (e' :: es) env)) _ _ s
  refine wpAny_bind (wpAny_mono (h F s st ev) ?_ fun _ _ x => x)
  rintro v s₁ ⟨F₁, σ₁, a, t₁, ha, h₁⟩
  refine wpAny_bind (wpAny_standAt (wpAny_bind (wpAny_holding (wpAny_mono (h₁ F₁ s₁ v t₁.st ha) ?_ fun _ _ x => x))))
  rintro b s₂ ⟨F₂, σ₂, t₂, h₂⟩
  cases b with
  | false => obtain ⟨rfl, hq⟩ := h₂; exact wpAny_pure ⟨F₂, σ₂, a, t₁.trans t₂, ha.mono t₂.mono, hq⟩
  | true =>
    obtain ⟨rfl, hq⟩ := h₂
    exact wpAny_mono (hq F₂ s₂ t₂.st ((ev.step t₁.toSince).step t₂.toSince)) (fun _ _ p => p.trans (t₁.trans t₂)) fun _ _ x => x

/-- a chain of two comparisons as a value, and as a test -/
theorem WE_chain {l r₁ r₂ : Expr} {op₁ op₂ : CmpOp} {pos : Pos}
    (h : WE X A env l φ σ (fun a σ₁ => WE X A env r₁ φ σ₁ (fun b σ₂ => WV2 X A (compareOp op₁) a b σ₂ (fun c σ₃ => WTr X A c σ₃ (fun t σ₄ => σ₄ = σ₃ ∧ match t with
      | true => WE X A env r₂ φ σ₃ (fun d σ₅ => WV2 X A (compareOp op₂) b d σ₅ Q)
      | false => Q c σ₃)))))
    (hm : lastMarks [op₁, op₂] [r₁, r₂] = false := by with_unfolding_all rfl) : WE X A env (.Compare l [op₁, op₂] [r₁, r₂] pos) φ σ Q := by
  intro F s st ev
  refine Compare_chain (wpAny_mono (h F s st ev) ?_ fun _ _ x => x) hm
  rintro v s₁ ⟨F₁, σ₁, a, t₁, ha, h₁⟩
  refine chain_link (wpAny_mono (h₁ F₁ s₁ t₁.st (ev.step t₁.toSince)) ?_ fun _ _ x => x)
  rintro u s₂ ⟨F₂, σ₂, b, t₂, hb, h₂⟩
  refine wpAny_mono (h₂ F₂ s₂ v u t₂.st (ha.mono t₂.mono) hb) ?_ fun _ _ x => x
  rintro c s₃ ⟨F₃, σ₃, c', t₃, hc, h₃⟩
  refine wpAny_mono (h₃ F₃ s₃ c t₃.st hc) ?_ fun _ _ x => x
  rintro t s₄ ⟨F₄, σ₄, t₄, rfl, h₄⟩
  have T := ((t₁.trans t₂).trans t₃).trans t₄
  cases t with
  | false => exact ⟨F₄, _, c', T, hc.mono t₄.mono, h₄⟩
  | true =>
    refine chain_last (wpAny_mono (h₄ F₄ s₄ t₄.st (ev.step T.toSince)) ?_ fun _ _ x => x)
    rintro d s₅ ⟨F₅, σ₅, d', t₅, hd, h₅⟩
    exact wpAny_mono (h₅ F₅ s₅ u d t₅.st (hb.mono (Fz.le_trans t₃.mono (Fz.le_trans t₄.mono t₅.mono))) hd) (fun _ _ p => p.trans (T.trans t₅)) fun _ _ x => x

theorem WE_not {e : Expr} {pos : Pos} (h : WE X A env e φ σ (fun a σ₁ => WTr X A a σ₁ (fun b σ₂ => Q (.bool (!b)) σ₂))) : WE X A env (.UnaryOp .Not e pos) φ σ Q := by
  intro F s st ev
  refine wpAny_UnaryOp (wpAny_mono (h F s st ev) ?_ fun _ _ x => x)
  rintro v s₁ ⟨F₁, σ₁, a, t₁, ha, h₁⟩
  refine not_of (wpAny_mono (h₁ F₁ s₁ v t₁.st ha) ?_ fun _ _ x => x)
  rintro b s₂ ⟨F₂, σ₂, t₂, h₂⟩
  exact ⟨F₂, σ₂, _, t₁.trans t₂, by simp only [VH], h₂⟩

/-- is, is not: against None, True, False -/
def plainMV : MV → Bool
  | .none => true
  | .bool _ => true
  | _ => false
def isMV : MV → MV → Bool
  | .none, .none => true
  | .bool a, .bool b => a == b
  | _, _ => false
theorem VH.plain {a b : MV} {v u : Value} (hp : plainMV b = true) (ha : VH F a v) (hb : VH F b u) (hr : ∀ w, a ≠ .raw w) : plainIs v u = true ∧ (v == u) = isMV a b := by
  cases b with
  | none =>
    simp only [VH] at hb; subst hb
    cases a <;> simp only [VH] at ha
    · subst ha; exact ⟨rfl, rfl⟩
    · subst ha; exact ⟨rfl, rfl⟩
    · obtain ⟨t, rfl⟩ := ha; exact ⟨rfl, rfl⟩
    · obtain ⟨t, rfl⟩ := ha; exact ⟨rfl, rfl⟩
    · obtain ⟨t, _, _, rfl, _⟩ := ha; exact ⟨rfl, rfl⟩
    · obtain ⟨t, _, _, rfl, _⟩ := ha; exact ⟨rfl, rfl⟩
    · rename_i w; exact absurd rfl (hr w)
    · obtain ⟨t, _, _, _, rfl, _⟩ := ha; exact ⟨rfl, rfl⟩
  | bool b =>
    simp only [VH] at hb; subst hb
    cases a <;> simp only [VH] at ha
    · subst ha; exact ⟨rfl, rfl⟩
    · subst ha; rename_i c; cases b <;> cases c <;> exact ⟨rfl, rfl⟩
    · obtain ⟨t, rfl⟩ := ha; exact ⟨rfl, rfl⟩
    · obtain ⟨t, rfl⟩ := ha; exact ⟨rfl, rfl⟩
    · obtain ⟨t, _, _, rfl, _⟩ := ha; exact ⟨rfl, rfl⟩
    · obtain ⟨t, _, _, rfl, _⟩ := ha; exact ⟨rfl, rfl⟩
    · rename_i w; exact absurd rfl (hr w)
    · obtain ⟨t, _, _, _, rfl, _⟩ := ha; exact ⟨rfl, rfl⟩
  | _ => cases hp
theorem V_is {a b : MV} (h : Q (.bool (isMV a b)) σ) (hp : plainMV b = true := by rfl) (hr : ∀ w, a ≠ .raw w := by intro _ h; cases h) : WV2 X A (compareOp .Is) a b σ Q := by
  rintro F s v u st hv hu
  obtain ⟨h1, h2⟩ := hv.plain hp hu hr
  exact wpAny_is_plain h1 (.now st (by simp only [VH, h2]) h)
theorem V_isNot {a b : MV} (h : Q (.bool (!isMV a b)) σ) (hp : plainMV b = true := by rfl) (hr : ∀ w, a ≠ .raw w := by intro _ h; cases h) : WV2 X A (compareOp .IsNot) a b σ Q := by
  rintro F s v u st hv hu
  obtain ⟨h1, h2⟩ := hv.plain hp hu hr
  exact wpAny_isNot_plain h1 (.now st (by simp only [VH, h2]) h)
theorem V_refIsNone {a : Addr} (h : Q (.bool false) σ) : WV2 X A (compareOp .Is) (.raw (.ref a)) .none σ Q := by
  rintro F s v u st hv hu; simp only [VH] at hv hu; subst hv; subst hu
  exact wpAny_is_plain rfl (.now st (by simp only [VH]; rfl) h)
theorem V_refIsNotNone {a : Addr} (h : Q (.bool true) σ) : WV2 X A (compareOp .IsNot) (.raw (.ref a)) .none σ Q := by
  rintro F s v u st hv hu; simp only [VH] at hv hu; subst hv; subst hu
  exact wpAny_isNot_plain rfl (.now st (by simp only [VH]; rfl) h)

theorem V_inInts {k : Int} {ns : List Int} (h : Q (.bool (ns.any (· == k))) σ) : WV2 X A (compareOp .In) (.int k) (.list (ns.map .int)) σ Q := by
  rintro F s v u st hv hu; simp only [VH] at hv; obtain ⟨t, rfl⟩ := hv
  obtain ⟨a, items, n, rfl, hf, hl, hx⟩ := hu.listAt st
  exact in_list_ints (vs := items.toList) (by simpa using hl) hx.ints (.now st (by simp only [VH]) h)
theorem V_notInInts {k : Int} {ns : List Int} (h : Q (.bool (!(ns.any (· == k)))) σ) : WV2 X A (compareOp .NotIn) (.int k) (.list (ns.map .int)) σ Q := by
  rintro F s v u st hv hu; simp only [VH] at hv; obtain ⟨t, rfl⟩ := hv
  obtain ⟨a, items, n, rfl, hf, hl, hx⟩ := hu.listAt st
  exact notin_list_ints (vs := items.toList) (by simpa using hl) hx.ints (.now st (by simp only [VH]) h)
theorem V_inTup {k : Int} {ns : List Int} (h : Q (.bool (ns.any (· == k))) σ) : WV2 X A (compareOp .In) (.int k) (.tup (ns.map .int)) σ Q := by
  rintro F s v u st hv hu; simp only [VH] at hv; obtain ⟨t, rfl⟩ := hv
  obtain ⟨a, items, n, rfl, hf, hl, hx⟩ := hu.tupAt st
  exact in_tuple_ints hl hx.ints (.now st (by simp only [VH]) h)
theorem V_inStr {x y : Str} (h : Q (.bool (Txt.contains x y)) σ) : WV2 X A (compareOp .In) (.str y) (.str x) σ Q := by
  rintro F s v u st hv hu; simp only [VH] at hv hu; obtain ⟨t, rfl⟩ := hv; obtain ⟨t', rfl⟩ := hu
  exact P.in_str (.now st (by simp only [VH]; rfl) h)
theorem V_notInStr {x y : Str} (h : Q (.bool (!Txt.contains x y)) σ) : WV2 X A (compareOp .NotIn) (.str y) (.str x) σ Q := by
  rintro F s v u st hv hu; simp only [VH] at hv hu; obtain ⟨t, rfl⟩ := hv; obtain ⟨t', rfl⟩ := hu
  exact P.notIn_str (.now st (by simp only [VH]; rfl) h)
theorem B_ord {x : Str} (h1 : x.length = 1) (h : Q (.int (x.cps.getD 0 0 : Nat)) σ) : WCv X A (.builtin "ord") [.str x] σ Q := by
  rintro F s vs st hv
  simp only [VHs, VH] at hv
  obtain ⟨_, _, rfl, ⟨t, rfl⟩, rfl⟩ := hv
  exact ord_of_one h1 (.tk st (by simp only [VH]; exact ⟨_, rfl⟩) h)
theorem B_chr {i : Int} (h0 : 0 ≤ i) (h1 : i ≤ 1114111) (h : Q (.str ⟨#[i.toNat]⟩) σ) : WCv X A (.builtin "chr") [.int i] σ Q := by
  rintro F s vs st hv
  simp only [VHs, VH] at hv
  obtain ⟨_, _, rfl, ⟨t, rfl⟩, rfl⟩ := hv
  exact chr_of_range h0 h1 (.tk st (by simp only [VH]; exact ⟨_, rfl⟩) h)
end
end Mine
end
section
open PySem PySem.W PyProof.Rows PySem.Calls
set_option Elab.async false
set_option maxRecDepth 100000
set_option linter.unusedVariables false
namespace Mine

structure Itr (X : Cx) (A : Around) (F : Fz) (ok : MHeap → Prop) (I : Addr) (xs : List MV) (It : Nat → Heap → Prop) : Prop where
  frame : ∀ i h h', It i h → (∀ o, h.get? I = some o → h'.get? I = some o) → It i h'
  at_ : ∀ i h, It i h → ∃ o, h.get? I = some o
  nd : ∀ i h o, It i h → h.get? I = some o → ∀ es n, o.data ≠ .dict es n
  item : ∀ i F' σ s mv (Q : Option Value → Shared → Prop), xs[i]? = some mv → F.le F' → ok σ → St X F' σ s → It i s.heap →
     (∀ v h' tk, VH F' mv v → It (i + 1) h' → Heap.SameBut I s.heap h' → Q (some v) { s with heap := h', toks := tk }) → wpAny X.M A (pyNext (.ref I)) Q noE s
  done : ∀ F' σ s (Q : Option Value → Shared → Prop), F.le F' → ok σ → St X F' σ s → It xs.length s.heap → (∀ h' tk, Heap.ExtBut I s.heap h' → Q none { s with heap := h', toks := tk }) → wpAny X.M A (pyNext (.ref I)) Q noE s
  self : ∀ i s (Q : Value → Shared → Prop), It i s.heap → Q (.ref I) s → wpAny X.M A (pyIter (.ref I)) Q noE s

def IterOf (X : Cx) (A : Around) (it : MV) (σ : MHeap) (ok : MHeap → Prop) (xs : List MV) : Prop :=
  ∀ F s v, St X F σ s → VH F it v → wpAny X.M A (pyIter v) (fun r s' => ∃ I It h', r = .ref I ∧ s' = { s with heap := h' } ∧ (∀ b o, s.heap.get? b = some o → h'.get? b = some o) ∧ s.heap.get? I = none ∧ It 0 h' ∧ Itr X A F ok I xs It) noE s

section
variable {X : Cx} {A : Around} {env : Env} {φ : MEnv} {σ : MHeap} {Q : MV → MHeap → Prop} {F : Fz} {s : Shared}

theorem ListIter.keep {h h' : Heap} {I l : Addr} {i : Nat} (x : h.IsListIter I l i) (k : ∀ o, h.get? I = some o → h'.get? I = some o) : h'.IsListIter I l i := by
  obtain ⟨o, ho, r⟩ := x; exact ⟨o, k o ho, r⟩
theorem TupIter.keep {h h' : Heap} {I l : Addr} {i : Nat} (x : h.IsTupleIter I l i) (k : ∀ o, h.get? I = some o → h'.get? I = some o) : h'.IsTupleIter I l i := by
  obtain ⟨o, ho, r⟩ := x; exact ⟨o, k o ho, r⟩

theorem getElem?_toList {items : Array Value} {i : Nat} : items.toList[i]? = items[i]? := by simp

theorem iter_list {xs : List MV} (hA : A.handled = none) : IterOf X A (.list xs) σ (fun _ => True) xs := by
  intro F s v st hv
  obtain ⟨a, items, n, rfl, hf, hl, hx⟩ := hv.listAt st
  refine wpAny_pyIter_list hl ⟨s.heap.objs.size, fun i h => h.IsListIter s.heap.objs.size a i, _, rfl, rfl, fun b o e => Heap.get?_push_of_some _ e, get?_ge (Nat.le_refl _), ⟨_, Heap.get?_push_size _ rfl, rfl, rfl⟩, ?_⟩
  have lst : ∀ {F' : Fz} {σ' : MHeap} {s' : Shared}, F.le F' → St X F' σ' s' → s'.heap.IsList a items := fun hle st' => ⟨_, st'.fz _ _ (hle _ _ hf), rfl, n, rfl⟩
  refine ⟨fun i h h' x k => ListIter.keep x k, fun i h x => let ⟨o, ho, _⟩ := x; ⟨o, ho⟩, fun i h o x ho es n hd => (by obtain ⟨o', ho', _, hd'⟩ := x; rw [ho] at ho'; cases ho'; rw [hd] at hd'; cases hd'), ?_, ?_, fun i s' Q x q => wpAny_pyIter_listiter x q⟩
  · intro i F' σ' s' mv Q hi hle _ st' hit hq
    obtain ⟨v, hv, hvh⟩ := hx.get hi
    exact wpAny_pyNext_list_item hit (lst hle st') (getElem?_toList ▸ hv) fun h' h1 h2 => hq v h' s'.toks (hvh.mono hle) h1 h2
  · intro F' σ' s' Q hle _ st' hit hq
    refine wpAny_pyNext_list_end hA hit (lst hle st') ?_ fun h' h1 => hq h' s'.toks h1
    have := hx.length
    simp only [Array.length_toList] at this
    rw [← this]; simp
theorem iter_tup {xs : List MV} (hA : A.handled = none) : IterOf X A (.tup xs) σ (fun _ => True) xs := by
  intro F s v st hv
  obtain ⟨a, items, n, rfl, hf, hl, hx⟩ := hv.tupAt st
  refine wpAny_pyIter_tuple hl ⟨s.heap.objs.size, fun i h => h.IsTupleIter s.heap.objs.size a i, _, rfl, rfl, fun b o e => Heap.get?_push_of_some _ e, get?_ge (Nat.le_refl _), ⟨_, Heap.get?_push_size _ rfl, rfl, rfl⟩, ?_⟩
  have lst : ∀ {F' : Fz} {σ' : MHeap} {s' : Shared}, F.le F' → St X F' σ' s' → s'.heap.IsTuple a items := fun hle st' => ⟨_, st'.fz _ _ (hle _ _ hf), rfl, n, rfl⟩
  refine ⟨fun i h h' x k => TupIter.keep x k, fun i h x => let ⟨o, ho, _⟩ := x; ⟨o, ho⟩, fun i h o x ho es n hd => (by obtain ⟨o', ho', _, hd'⟩ := x; rw [ho] at ho'; cases ho'; rw [hd] at hd'; cases hd'), ?_, ?_, fun i s' Q x q => wpAny_pyIter_tupleiter x q⟩
  · intro i F' σ' s' mv Q hi hle _ st' hit hq
    obtain ⟨v, hv, hvh⟩ := hx.get hi
    exact wpAny_pyNext_tuple_item hit (lst hle st') (getElem?_toList ▸ hv) fun h' h1 h2 => hq v h' s'.toks (hvh.mono hle) h1 h2
  · intro F' σ' s' Q hle _ st' hit hq
    refine wpAny_pyNext_tuple_end hA hit (lst hle st') ?_ fun h' h1 => hq h' s'.toks h1
    have := hx.length
    simp only [Array.length_toList] at this
    rw [← this]; simp

def rngItems (n : Int) : List MV := (List.range n.toNat).map fun (i : Nat) => MV.int (i : Int)
theorem iter_rng {n : Int} (hA : A.handled = none) (hn : Builtin.Range.small 0 n 1 = true) : IterOf X A (.rng n) σ (fun _ => True) (rngItems n) := by
  intro F s v st hv
  simp only [VH] at hv
  obtain ⟨a, t, u, w, rfl, hf⟩ := hv
  have hr : IsRange s.heap a 0 n 1 t u w := st.fz _ _ hf
  refine wpAny_pyIter_range hr hn ⟨s.heap.objs.size, fun i h => i ≤ n.toNat ∧ IsRangeIter h s.heap.objs.size i ((n.toNat : Int) - i) 1, _, rfl, rfl, fun b o e => Heap.get?_push_of_some _ e, get?_ge (Nat.le_refl _), ⟨Nat.zero_le _, ?_⟩, ?_⟩
  · have e : Builtin.Range.rangeSize 0 n 1 = (n.toNat : Int) := by rw [rangeSize_nat]; simp
    have := Heap.get?_push_size (h := s.heap) (o := { cls := .type "range_iterator", data := .fields #[rawInt 0, rawInt (Builtin.Range.rangeSize 0 n 1), rawInt 1] }) rfl
    rw [e] at this
    simpa [e] using this
  · refine ⟨fun i h h' x k => ⟨x.1, k _ x.2⟩, fun i h x => ⟨_, x.2⟩, fun i h o x ho es n hd => (by have := x.2; unfold IsRangeIter at this; rw [ho] at this; cases this; cases hd), ?_, ?_, fun i s' Q x q => wpAny_pyIter_rangeiter x.2 q⟩
    · intro i F' σ' s' mv Q hi hle _ st' hit hq
      have hlt : i < n.toNat := by
        have := (List.getElem?_eq_some_iff.mp hi).1
        simpa [rngItems] using this
      have hmv : mv = .int (i : Int) := by
        simp [rngItems, hlt] at hi; exact hi.symm
      subst hmv
      refine wpAny_pyNext_range_item hit.2 (by omega) fun h' h1 h2 => hq _ h' _ (by simp only [VH]; exact ⟨_, rfl⟩) ⟨hlt, ?_⟩ h2
      have e1 : ((i : Int) + 1) = ((i + 1 : Nat) : Int) := by omega
      have e2 : ((n.toNat : Int) - i - 1) = ((n.toNat : Int) - ((i + 1 : Nat) : Int)) := by omega
      rw [← e1, ← e2] at *
      exact h1
    · intro F' σ' s' Q hle _ st' hit hq
      have : (rngItems n).length = n.toNat := by simp [rngItems]
      rw [this] at hit
      exact wpAny_pyNext_range_end hA hit.2 (by omega) fun h' h1 => hq h' s'.toks h1
end
end Mine
end
section
open PySem PySem.W PyProof.Rows PySem.Calls
set_option Elab.async false
set_option maxRecDepth 100000
set_option linter.unusedVariables false
namespace Mine

def closOk (scope : Scope) (env : Env) : Bool := scope.names.all fun p => !(p.2 == NameKind.free) || (env.cells.lookup p.1).isSome
def closOf (env : Env) : List (Str × NameKind) → List (Str × Addr) → List (Str × Addr)
  | [], acc => acc
  | (n, k) :: r, acc => if k == .free then closOf env r ((n, (env.cells.lookup n).getD 0) :: acc) else closOf env r acc
theorem closure_go {env : Env} (f : Str × NameKind → List (Str × Addr) → Sem (ForInStep (List (Str × Addr))))
    (hf : ∀ n k cs, f (n, k) cs = if k == .free then (do let c ← cellOf env n; pure (ForInStep.yield ((n, c) :: cs))) else pure (.yield cs)) :
    ∀ (names : List (Str × NameKind)) (acc : List (Str × Addr)), (names.all fun p => !(p.2 == NameKind.free) || (env.cells.lookup p.1).isSome) = true → forIn names acc f = pure (closOf env names acc)
  | [], acc, _ => by rw [List.forIn_nil]; rfl
  | (n, k) :: r, acc, h => by
    rw [List.all_cons, Bool.and_eq_true] at h
    rw [List.forIn_cons, hf]
    unfold closOf
    cases hk : k == NameKind.free with
    | false =>
      simp only [Bool.false_eq_true, if_false]
      exact closure_go f hf r acc h.2
    | true =>
      have h1 := h.1
      simp only [hk, Bool.not_true, Bool.false_or] at h1
      obtain ⟨c, hc⟩ := Option.isSome_iff_exists.mp h1
      simp only [if_true]
      have e : cellOf env n = pure c := by unfold cellOf; rw [hc]
      rw [e]
      have : (env.cells.lookup n).getD 0 = c := by rw [hc]; rfl
      rw [this]
      exact closure_go f hf r _ h.2
theorem closureFor_ok {scope : Scope} {env : Env} (h : closOk scope env = true) : closureFor scope env = pure (closOf env scope.names []) := by
  simp only [closureFor]
  rw [closure_go (env := env) _ (fun n k cs => by cases hk : k == NameKind.free <;> simp [hk]) scope.names [] h]
  rfl
theorem closOf_mem {env : Env} : ∀ (names : List (Str × NameKind)) (acc : List (Str × Addr)) (y : Str) (c : Addr), (∀ n, (n ∈ names) → n.2 = .free → (env.cells.lookup n.1).isSome = true) → (∀ y c, (y, c) ∈ acc → env.cells.lookup y = some c) → (y, c) ∈ closOf env names acc → env.cells.lookup y = some c
  | [], acc, y, c, _, ha, h => ha y c h
  | (n, k) :: r, acc, y, c, hn, ha, h => by
    unfold closOf at h
    split at h
    · rename_i hk
      refine closOf_mem r _ y c (fun p hp => hn p (List.mem_cons_of_mem _ hp)) ?_ h
      intro y' c' hm
      rcases List.mem_cons.mp hm with e | hm
      · cases e
        obtain ⟨c, hc⟩ := Option.isSome_iff_exists.mp (hn (n, k) List.mem_cons_self (by simpa using hk))
        rw [hc]; rfl
      · exact ha y' c' hm
    · exact closOf_mem r acc y c (fun p hp => hn p (List.mem_cons_of_mem _ hp)) ha h
theorem closOf_has {env : Env} : ∀ (names : List (Str × NameKind)) (acc : List (Str × Addr)) (y : Str), ((acc.lookup y).isSome = true ∨ names.lookup y = some .free) → ((closOf env names acc).lookup y).isSome = true
  | [], acc, y, h => by
    rcases h with h | h
    · exact h
    · simp at h
  | (n, k) :: r, acc, y, h => by
    unfold closOf
    cases e : y == n with
    | true =>
      have := beq_iff_eq.mp e; subst this
      split
      · exact closOf_has r _ y (.inl (by simp))
      · rename_i hk
        rcases h with h | h
        · exact closOf_has r _ y (.inl h)
        · simp at h; subst h; exact absurd rfl hk
    | false =>
      rw [List.lookup_cons, e] at h
      split
      · refine closOf_has r _ y ?_
        rcases h with h | h
        · exact .inl (by rw [List.lookup_cons, e]; exact h)
        · exact .inr h
      · exact closOf_has r _ y h
theorem cellsFrom_append : ∀ (names : List (Str × NameKind)) (n : Nat) (acc : List (Str × Addr)), cellsFrom n names acc = cellsFrom n names [] ++ acc
  | [], n, acc => rfl
  | (x, k) :: r, n, acc => by
    unfold cellsFrom
    split
    · rw [cellsFrom_append r (n + 1) ((x, n) :: acc), cellsFrom_append r (n + 1) [(x, n)]]; simp
    · exact cellsFrom_append r n acc

def cEnv (scope : Scope) (env : Env) (C : Addr) : Env :=
  { scope := relabel scope env, locals := C, globals := env.globals, cells := cellsFrom (C + 1) scope.names [] ++ closOf env scope.names [], qual := env.qual, func := none, code := env.code, frame := env.frame, builtins := env.builtins }
theorem newCompEnv {M : Model} {A : Around} {E : Value → Shared → Prop} {s : Shared} {scope : Scope} {env : Env} {cl : List (Str × Addr)} {Q : Env → Shared → Prop}
    (hQ : Q { scope := scope, locals := s.heap.objs.size, globals := env.globals, cells := cellsFrom (s.heap.objs.size + 1) scope.names [] ++ cl, qual := env.qual, func := none, code := env.code, frame := env.frame, builtins := env.builtins }
      { s with heap := pushCells (s.heap.push { cls := .type "dict", data := .dict #[] }) scope.names }) :
    wpAny M A (newFunctionEnv scope env.globals cl [] env.qual none .none (some env)) Q E s := by
  simp only [newFunctionEnv, Option.isSome_some, if_true]
  refine wpAny_bind (wpAny_alloc ?_)
  refine wpAny_bind (wpAny_layCells _ (fun name kind cells => by cases hkc : kind == NameKind.cell <;> simp [hkc]) _ _ _ _ ?_)
  rw [cellsFrom_append]
  show wpAny M A (forIn ([] : List (Str × Value)) PUnit.unit _ >>= _) _ _ _
  rw [List.forIn_nil]
  refine wpAny_bind (wpAny_pure (wpAny_pure ?_))
  have : (s.heap.push { cls := .type "dict", data := .dict #[] }).objs.size = s.heap.objs.size + 1 := Heap.size_push ..
  rw [← this] at hQ
  exact hQ
end Mine
end
section
open PySem PySem.W PyProof.Rows PySem.Calls
set_option Elab.async false
set_option maxRecDepth 100000
set_option linter.unusedVariables false
namespace Mine
section
variable {X : Cx} {A : Around} {env : Env} {φ ψ : MEnv} {σ : MHeap} {F F' : Fz} {s s₀ : Shared}

theorem St.fr_ne {a f : Addr} (st : St X F σ s) (hf : f ∈ X.fr) (h : s.heap.get? a = none) : f ≠ a := by
  rintro rfl
  obtain ⟨⟨o, _, _, ho, _⟩, _⟩ := st.frs f hf
  rw [h] at ho; cases ho
theorem St.ext {a : Addr} {h' : Heap} {t : Nat} (st : St X F σ s) (hs : Heap.ExtBut a s.heap h') (hf : F a = none) (ho : σ a = none) (hfr : ∀ f ∈ X.fr, f ≠ a) : St X F σ { s with heap := h', toks := t } where
  top := st.top
  fz := fun b o e => hs b o (by rintro rfl; rw [hf] at e; cases e) (st.fz b o e)
  own := fun b d e => by
    obtain ⟨o, h1, h2⟩ := st.own b d e
    exact ⟨o, hs b o (by rintro rfl; rw [ho] at e; cases e) h1, h2⟩
  apart := st.apart
  gens := st.gens
  os := st.os
  frs := fun f hf => by
    obtain ⟨⟨x, es, n, hx, hd⟩, h2⟩ := st.frs f hf
    exact ⟨⟨x, es, n, hs f x (hfr f hf) hx, hd⟩, h2⟩
theorem Since.ext {F₀ : Fz} {σ₀ : MHeap} {a : Addr} {h' : Heap} {t : Nat} (c : Since F₀ σ₀ s₀ F σ s) (hs : Heap.ExtBut a s.heap h') (hn : s₀.heap.get? a = none) : Since F₀ σ₀ s₀ F σ { s with heap := h', toks := t } where
  mono := c.mono
  kp := fun b o e n => by
    obtain ⟨o1, e1, k1⟩ := c.kp b o e n
    exact ⟨o1, hs b o1 (by rintro rfl; rw [hn] at e; cases e) e1, k1⟩
  dom := c.dom
  newS := c.newS
  newF := c.newF
theorem EnvOK.ext {h h' : Heap} {a : Addr} (e : EnvOK env φ F σ h) (hs : Heap.ExtBut a h h') (hl : a ≠ env.locals) (hc : ∀ y c, env.cells.lookup y = some c → c ≠ a) : EnvOK env φ F σ h' where
  kind := e.kind
  glob := e.glob
  bt := e.bt
  names := fun x mv hx => by
    rcases e.names x mv hx with ⟨hk, m, v, hn, hm, hv⟩ | ⟨hk, hd, c, v, hcl, hcell, hv⟩
    · exact .inl ⟨hk, m, v, Ns.keepAt hn fun o ho => hs _ o (Ne.symm hl) ho, hm, hv⟩
    · exact .inr ⟨hk, hd, c, v, hcl, IsCell.keepAt hcell fun o ho => hs _ o (hc x c hcl) ho, hv⟩
  ns := let ⟨m, hn⟩ := e.ns; ⟨m, Ns.keepAt hn fun o ho => hs _ o (Ne.symm hl) ho⟩
  cells := fun x c h => let ⟨v, hv⟩ := e.cells x c h; ⟨v, IsCell.keepAt hv fun o ho => hs _ o (hc x c h) ho⟩
  locFree := e.locFree
  cellFree := e.cellFree

/-- the names that a comprehension sees -/
def freeOk (scope : Scope) (env : Env) (y : Str) : Bool := !(env.kindOf y == some .local) && (scope.names.lookup y == some .free) && ((cellsFrom 0 scope.names []).lookup y).isNone && !(y == ("__classdict__" : Str))
def SubEnv (φ : MEnv) (scope : Scope) (env : Env) : MEnv → Prop
  | [] => True
  | (y, my) :: r => φ.lookup y = some my ∧ freeOk scope env y = true ∧ SubEnv φ scope env r
theorem SubEnv.get {scope : Scope} : ∀ {ψ : MEnv}, SubEnv φ scope env ψ → ∀ {y : Str} {my : MV}, ψ.lookup y = some my → φ.lookup y = some my ∧ freeOk scope env y = true
  | [], _, y, my, h => by simp at h
  | (z, mz) :: r, hs, y, my, h => by
    rw [List.lookup_cons] at h
    cases e : y == z with
    | true => rw [e] at h; cases h; have := beq_iff_eq.mp e; subst this; exact ⟨hs.1, hs.2.1⟩
    | false => rw [e] at h; exact SubEnv.get hs.2.2 h
def targetOk (scope : Scope) (x : Str) : Bool := match scope.names.lookup x with
  | some .local => true
  | some .cell => ((cellsFrom 0 scope.names []).lookup x).isSome && !(x == ("__classdict__" : Str))
  | _ => false

theorem relabel_lookup {scope : Scope} {env : Env} : ∀ (names : List (Str × NameKind)) (y : Str), (names.map fun (n, k) => if (k == NameKind.free && env.scope.kind == .function && env.kindOf n == some .cell) then (n, NameKind.cell) else (n, k)).lookup y =
    (names.lookup y).map fun k => if (k == NameKind.free && env.scope.kind == .function && env.kindOf y == some .cell) then NameKind.cell else k
  | [], y => by simp
  | (n, k) :: r, y => by
    have ih := relabel_lookup (scope := scope) (env := env) r y
    rw [List.map_cons]
    cases e : y == n with
    | true =>
      have := beq_iff_eq.mp e; subst this
      show List.lookup y ((if (k == NameKind.free && env.scope.kind == .function && env.kindOf y == some .cell) = true then (y, NameKind.cell) else (y, k)) :: _) = _
      by_cases hc : (k == NameKind.free && env.scope.kind == .function && env.kindOf y == some .cell) = true
      · rw [if_pos hc, List.lookup_cons, List.lookup_cons, e, Option.map_some, if_pos hc]
      · rw [if_neg hc, List.lookup_cons, List.lookup_cons, e, Option.map_some, if_neg hc]
    | false =>
      show List.lookup y ((if (k == NameKind.free && env.scope.kind == .function && env.kindOf n == some .cell) = true then (n, NameKind.cell) else (n, k)) :: _) = _
      by_cases hc : (k == NameKind.free && env.scope.kind == .function && env.kindOf n == some .cell) = true
      · rw [if_pos hc, List.lookup_cons, List.lookup_cons, e]; exact ih
      · rw [if_neg hc, List.lookup_cons, List.lookup_cons, e]; exact ih
theorem cEnv_kind {scope : Scope} {C : Addr} (y : Str) : (cEnv scope env C).kindOf y = (scope.names.lookup y).map fun k => if (k == NameKind.free && env.scope.kind == .function && env.kindOf y == some .cell) then NameKind.cell else k :=
  relabel_lookup (scope := scope) scope.names y

theorem cellsFrom_none (n : Nat) : ∀ (l : List (Str × NameKind)) (k : Nat) (x : Str), ((cellsFrom k l []).lookup x) = none → ((cellsFrom n l []).lookup x) = none := by
  intro l k x h
  cases q : (cellsFrom n l []).lookup x with
  | none => rfl
  | some c =>
    have := cellsFrom_some k n l [] [] x (fun z => z) (by rw [q]; rfl)
    rw [h] at this; cases this
theorem lookup_append {α : Type} : ∀ (l r : List (Str × α)) (x : Str), (l ++ r).lookup x = (l.lookup x).or (r.lookup x)
  | [], r, x => by simp
  | p :: l, r, x => by
    obtain ⟨n, v⟩ := p
    rw [List.cons_append, List.lookup_cons, List.lookup_cons]
    cases x == n with
    | true => rfl
    | false => exact lookup_append l r x

/-- the tests and the element at one item -/
def Elem (X : Cx) (A : Around) (cenv : Env) (ifs : List Expr) (elt : Expr) (ψ : MEnv) (σ : MHeap) (r : Option MV) : Prop := match ifs with
  | [] => ∃ y, r = some y ∧ WE X A cenv elt ψ σ (fun y' σ' => σ' = σ ∧ y' = y)
  | [c] => WB X A cenv c ψ σ (fun b σ' => σ' = σ ∧ match b with
      | true => ∃ y, r = some y ∧ WE X A cenv elt ψ σ (fun y' σ' => σ' = σ ∧ y' = y)
      | false => r = none)
  | _ => False

def Tests (M : Model) (A : Around) (cenv : Env) (ifs : List Expr) (Q : Bool → Shared → Prop) (E : Value → Shared → Prop) (s : Shared) : Prop :=
  wpAny M A (forIn ifs true fun c r => if r = true then do let ok ← isTrue c cenv (eval c cenv); pure (ForInStep.yield ok) else pure (ForInStep.yield r)) Q E s

theorem Elem.run {cenv : Env} {ifs : List Expr} {elt : Expr} {r : Option MV} (h : Elem X A cenv ifs elt ψ σ r) (st : St X F σ s) (ev : EnvOK cenv ψ F σ s.heap) :
    Tests X.M A cenv ifs (fun ok s₁ => ∃ F₁, Trans X F σ s F₁ σ s₁ ∧ match ok with
      | true => ∃ y, r = some y ∧ WE X A cenv elt ψ σ (fun y' σ' => σ' = σ ∧ y' = y)
      | false => r = none) noE s := by
  match ifs, h with
  | [], h => exact wpAny_tests_nil ⟨F, .refl st, h⟩
  | [c], h =>
    refine wpAny_tests_one (wpAny_mono (h F s st ev) ?_ fun _ _ x => x)
    rintro b s₁ ⟨F₁, σ₁, t₁, rfl, hb⟩
    cases b <;> exact ⟨F₁, t₁, hb⟩

theorem take_filterMap {f : MV → Option MV} {xs : List MV} {i : Nat} {mv : MV} (h : xs[i]? = some mv) : (xs.take (i + 1)).filterMap f = (xs.take i).filterMap f ++ (f mv).toList := by
  rw [List.take_add_one, h, List.filterMap_append]
  cases hf : f mv <;> simp [hf]

theorem n1 {I D c : Nat} (h : I < D) (hc : D + 1 + 1 ≤ c) : c ≠ I ∧ c ≠ D ∧ c ≠ D + 1 := by omega
theorem n2 {I D : Nat} (h : I < D) : D + 1 ≠ I ∧ D ≠ I ∧ D + 1 ≠ D ∧ I ≠ D + 1 ∧ D ≠ D + 1 ∧ I ≠ D := by omega
theorem n3 {D c : Nat} (hc : D + 1 + 1 ≤ c) : D ≤ c := by omega
theorem comp_core {elt iter : Expr} {x : Str} {px : Pos} {ifs : List Expr} {scope : Scope} {pos : Pos} {xs : List MV} {it : MV} {ok : MHeap → Prop} {f : MV → Option MV} {F₀ : Fz} {v : Value}
    (st : St X F₀ σ s₀) (ev : EnvOK env φ F₀ σ s₀.heap) (hit : IterOf X A it σ ok xs) (hok : ok σ) (hv : VH F₀ it v) (hlen : xs.length ≤ sizeLine)
    (hk : scope.kind = .function) (hclos : closOk scope env = true) (ht : targetOk scope x = true) (hψ : SubEnv φ scope env ψ)
    (hel : ∀ C, ∀ mv ∈ xs, Elem X A (cEnv scope env C) ifs elt ((x, mv) :: ψ) σ (f mv))
    {RR : Value → Addr → Result → Shared → Prop}
    (hRR : ∀ D C F' s' items n m, s'.heap.get? D = some (lobj items n) → VHs F' (xs.filterMap f) items.toList → F' D = none → σ D = none → s₀.heap.get? D = none → s₀.heap.get? C = none → D ≠ C → F' C = none → σ C = none →
      s'.heap.Ns C m → Trans X F₀ σ s₀ F' σ s' → (∀ f ∈ X.fr, f ≠ C) → RR (.ref D) C (.ok .next) s') :
    wpAny X.M A (pyIter v) (fun it s₂ => wpAny X.M A (newList []) (fun acc s₃ => wpAny X.M A (newFunctionEnv scope env.globals (closOf env scope.names []) [] env.qual none .none (some env)) (fun cenv s₄ =>
      codeAny X.M A (.compStart (.ListComp elt [⟨.Name x px, iter, ifs, 0⟩] scope pos) 0 it acc { cenv with scope := relabel scope env }) (RR acc cenv.locals) s₄) noE s₃) noE s₂) noE s₀ := by
  refine wpAny_mono (hit F₀ s₀ v st hv) ?_ fun _ _ x => x
  rintro r s₂ ⟨I, It, h₂, rfl, rfl, keep₂, hI, hIt, ITR⟩
  refine wpAny_newList ?_ (Nat.zero_le _)
  refine newCompEnv ?_
  dsimp only
  -- names of the new addresses
  obtain ⟨oI, hoI⟩ := ITR.at_ 0 h₂ hIt
  generalize hD : h₂.objs.size = D
  generalize hh3 : h₂.push { cls := .type "list", data := .seq ([] : List Value).toArray } = h₃
  have sz3 : h₃.objs.size = D + 1 := by rw [← hh3, Heap.size_push, hD]
  rw [sz3]
  generalize hh4 : h₃.push { cls := .type "dict", data := .dict #[] } = h₄
  have sz4 : h₄.objs.size = D + 1 + 1 := by rw [← hh4, Heap.size_push, sz3]
  generalize hh5 : pushCells h₄ scope.names = h₅
  have k45 : ∀ b o, h₄.get? b = some o → h₅.get? b = some o := fun b o e => hh5 ▸ pushCells_keeps scope.names h₄ b o e
  have k25 : ∀ b o, h₂.get? b = some o → h₅.get? b = some o := fun b o e => k45 b o (hh4 ▸ Heap.get?_push_of_some _ (hh3 ▸ Heap.get?_push_of_some _ e))
  have k05 : ∀ b o, s₀.heap.get? b = some o → h₅.get? b = some o := fun b o e => k25 b o (keep₂ b o e)
  have h2none : ∀ b, D ≤ b → h₂.get? b = none := fun b hb => get?_ge (hD ▸ hb)
  have h0none : ∀ b, D ≤ b → s₀.heap.get? b = none := fun b hb => by
    cases q : s₀.heap.get? b with
    | none => rfl
    | some o => have := keep₂ b o q; rw [h2none b hb] at this; cases this
  have ID : I < D := hD ▸ get?_lt hoI
  have hDobj : h₅.PlainList D #[] := ⟨0, k45 D _ (hh4 ▸ Heap.get?_push_of_some _ (by rw [← hh3, ← hD]; exact Heap.get?_push_size _ rfl))⟩
  have hCns : h₅.Ns (D + 1) (fun _ => none) := by
    have := Heap.Ns.new h₃ (.type "dict")
    rw [sz3, hh4] at this
    exact this.keeps k45
  have cok := cellsFrom_ok scope.names h₄ (D + 1 + 1) [] ⟨fun _ _ hm => (nomatch hm), List.Pairwise.nil⟩ (Nat.le_of_eq sz4.symm)
  rw [sz4, hh5] at cok
  have clMem : ∀ y c, (y, c) ∈ closOf env scope.names [] → env.cells.lookup y = some c := fun y c hm => by
    refine closOf_mem scope.names [] y c (fun n hn hfr => ?_) (fun _ _ h => nomatch h) hm
    have := List.all_eq_true.mp hclos n hn
    rw [hfr] at this
    simpa using this
  -- what a cell's address may be
  have cellAt : ∀ y c, (cEnv scope env (D + 1)).cells.lookup y = some c → (h₅.IsCell c none ∧ D + 1 + 1 ≤ c) ∨ env.cells.lookup y = some c := fun y c hc => by
    have hc' : (cellsFrom (D + 1 + 1) scope.names [] ++ closOf env scope.names []).lookup y = some c := hc
    rw [lookup_append] at hc'
    cases q : (cellsFrom (D + 1 + 1) scope.names []).lookup y with
    | some c' => rw [q] at hc'; cases hc'; exact .inl (cok.empty y c (lookup_mem q))
    | none => rw [q] at hc'; exact .inr (clMem y c (lookup_mem hc'))
  have oldCell : ∀ y c, env.cells.lookup y = some c → ∃ o, s₀.heap.get? c = some o := fun y c hc => let ⟨v, hv⟩ := ev.cells y c hc; IsCell.at hv
  have cellNe : ∀ y c, (cEnv scope env (D + 1)).cells.lookup y = some c → c ≠ I ∧ c ≠ D ∧ c ≠ D + 1 := fun y c hc => by
    rcases cellAt y c hc with ⟨_, hge⟩ | hold
    · exact n1 ID hge
    · obtain ⟨o, ho⟩ := oldCell y c hold
      refine ⟨?_, ?_, ?_⟩
      · rintro rfl; rw [hI] at ho; cases ho
      · rintro rfl; rw [h0none _ (Nat.le_refl _)] at ho; cases ho
      · rintro rfl; rw [h0none _ (Nat.le_succ _)] at ho; cases ho
  have frNe : ∀ b, s₀.heap.get? b = none → ∀ f ∈ X.fr, f ≠ b := fun b hb f hf => st.fr_ne hf hb
  have stFresh : ∀ b, s₀.heap.get? b = none → F₀ b = none ∧ σ b = none := fun b hb => st.fresh hb
  -- the start
  have st5 : St X F₀ σ { s₀ with heap := h₅ } := ⟨st.top, fun b o e => k05 b o (st.fz b o e), fun b d e => let ⟨o, h1, h2⟩ := st.own b d e; ⟨o, k05 b o h1, h2⟩, st.apart, st.gens, st.os, fun f hf => by obtain ⟨⟨o, es, n, ho, hd⟩, h2⟩ := st.frs f hf; exact ⟨⟨o, es, n, k05 f o ho, hd⟩, h2⟩⟩
  have since5 : Since F₀ σ s₀ F₀ σ { s₀ with heap := h₅ } := ⟨Fz.le_refl _, fun b o e _ => ⟨o, k05 b o e, .refl o⟩, fun _ q => .inl q, fun _ q q' => absurd q q', fun _ q _ q' => absurd q q'⟩
  have ev5 : EnvOK (cEnv scope env (D + 1)) ψ F₀ σ h₅ := by
    refine ⟨hk, ev.glob, ev.bt, ?_, ⟨_, hCns⟩, ?_, ?_, ?_⟩
    · intro y my hy
      obtain ⟨h1, h2⟩ := hψ.get hy
      unfold freeOk at h2
      rw [Bool.and_eq_true, Bool.and_eq_true, Bool.and_eq_true, Bool.not_eq_true', Bool.not_eq_true', beq_iff_eq] at h2
      obtain ⟨⟨⟨hloc, hfree⟩, hnone⟩, hcd⟩ := h2
      have hkd : (cEnv scope env (D + 1)).kindOf y = some .cell ∨ (cEnv scope env (D + 1)).kindOf y = some .free := by
        rw [cEnv_kind, hfree]
        simp only [Option.map_some]
        split
        · exact .inl rfl
        · exact .inr rfl
      have hn0 : (cellsFrom (D + 1 + 1) scope.names []).lookup y = none := cellsFrom_none _ _ 0 y (Option.isNone_iff_eq_none.mp hnone)
      obtain ⟨c, hc⟩ := Option.isSome_iff_exists.mp (closOf_has (env := env) scope.names [] y (.inr hfree))
      have hlook : (cEnv scope env (D + 1)).cells.lookup y = some c := by
        show (cellsFrom (D + 1 + 1) scope.names [] ++ closOf env scope.names []).lookup y = some c
        rw [lookup_append, hn0]; exact hc
      have hold := clMem y c (lookup_mem hc)
      rcases ev.names y my h1 with ⟨hk', m', v', hn₂, hm', hv'⟩ | ⟨hk', hcd', c₂, v', hl, hcl₂, hv'⟩
      · -- a local of the outer frame is no cell
        rw [hk'] at hloc; cases hloc
      · rw [hl] at hold; cases hold
        exact .inr ⟨hkd, hcd, c, v', hlook, IsCell.keepAt hcl₂ fun o ho => k05 _ o ho, hv'⟩
    · intro y c hc
      rcases cellAt y c hc with ⟨h1, _⟩ | hold
      · exact ⟨_, h1⟩
      · obtain ⟨u, hu⟩ := ev.cells y c hold
        exact ⟨u, IsCell.keepAt hu fun o ho => k05 _ o ho⟩
    · have := stFresh (D + 1) (h0none _ (Nat.le_succ _)); exact ⟨this.2, this.1⟩
    · intro y c hc
      rcases cellAt y c hc with ⟨_, hge⟩ | hold
      · have := stFresh c (h0none _ (n3 hge)); exact ⟨this.2, this.1⟩
      · exact ev.cellFree y c hold
  -- the target
  have hψx : ∀ mv y my, ψ.lookup y = some my → ((x, mv) :: ψ).lookup y = some my := fun mv y my hy => by
    rw [List.lookup_cons]
    cases e : y == x with
    | false => exact hy
    | true =>
      exfalso
      have := beq_iff_eq.mp e; subst this
      have h2 := (hψ.get hy).2
      unfold freeOk at h2
      rw [Bool.and_eq_true, Bool.and_eq_true, Bool.and_eq_true, beq_iff_eq] at h2
      unfold targetOk at ht
      rw [h2.1.1.2] at ht
      cases ht
  have hxs : storable (cEnv scope env (D + 1)) x = true := by
    unfold storable
    rw [cEnv_kind]
    unfold targetOk at ht
    split at ht
    · rename_i e; rw [e]; rfl
    · rename_i e
      rw [e]
      rw [Bool.and_eq_true] at ht
      have h1 : ((cellsFrom (D + 1 + 1) scope.names []).lookup x).isSome = true := cellsFrom_some _ 0 _ [] [] x (fun z => z) ht.1
      have h2 : ((cEnv scope env (D + 1)).cells.lookup x).isSome = true := by
        show ((cellsFrom (D + 1 + 1) scope.names [] ++ closOf env scope.names []).lookup x).isSome = true
        rw [lookup_append]
        obtain ⟨c, hc⟩ := Option.isSome_iff_exists.mp h1
        rw [hc]; rfl
      show (((cEnv scope env (D + 1)).cells.lookup x).isSome && !(x == ("__classdict__" : Str))) = true
      rw [h2, ht.2]; rfl
    · cases ht
  have xCell : ∀ c, (cEnv scope env (D + 1)).kindOf x = some .cell → (cEnv scope env (D + 1)).cells.lookup x = some c → D + 1 + 1 ≤ c := fun c hkc hc => by
    unfold targetOk at ht
    split at ht
    · rename_i e; rw [cEnv_kind, e] at hkc; cases hkc
    · rename_i e
      rw [Bool.and_eq_true] at ht
      obtain ⟨c', hc'⟩ := Option.isSome_iff_exists.mp (cellsFrom_some (D + 1 + 1) 0 scope.names [] [] x (fun z => z) ht.1)
      have hc2 : (cellsFrom (D + 1 + 1) scope.names [] ++ closOf env scope.names []).lookup x = some c := hc
      rw [lookup_append, hc'] at hc2
      cases hc2
      exact (cok.empty x c (lookup_mem hc')).2
    · cases ht
  have apx : ∀ c y c₂, (cEnv scope env (D + 1)).kindOf x = some .cell → (cEnv scope env (D + 1)).cells.lookup x = some c → y ≠ x → (cEnv scope env (D + 1)).cells.lookup y = some c₂ → c₂ ≠ c := fun c y c₂ hkc hc hyx hy => by
    have hge := xCell c hkc hc
    rcases cellAt y c₂ hy with ⟨_, _⟩ | hold
    · -- both are new
      have hc2 : (cellsFrom (D + 1 + 1) scope.names [] ++ closOf env scope.names []).lookup x = some c := hc
      have hy2 : (cellsFrom (D + 1 + 1) scope.names [] ++ closOf env scope.names []).lookup y = some c₂ := hy
      rw [lookup_append] at hc2 hy2
      have inNew : ∀ z d, ((cellsFrom (D + 1 + 1) scope.names []).lookup z).or ((closOf env scope.names []).lookup z) = some d → D + 1 + 1 ≤ d → (z, d) ∈ cellsFrom (D + 1 + 1) scope.names [] := fun z d hz hd => by
        cases q : (cellsFrom (D + 1 + 1) scope.names []).lookup z with
        | some d' => rw [q] at hz; cases hz; exact lookup_mem q
        | none =>
          rw [q] at hz
          obtain ⟨o, ho⟩ := oldCell z d (clMem z d (lookup_mem hz))
          rw [h0none d (n3 hd)] at ho; cases ho
      rintro rfl
      exact hyx (name_of_addr cok.apart (inNew y c₂ hy2 hge) (inNew x c₂ hc2 hge))
    · obtain ⟨o, ho⟩ := oldCell y c₂ hold
      rintro rfl
      rw [h0none c₂ (n3 hge)] at ho; cases ho
  -- the loop
  have loop : ∀ s₅ : Shared, s₅ = { s₀ with heap := h₅ } → codeAny X.M A (.compLoop (.ListComp elt [⟨.Name x px, iter, ifs, 0⟩] scope pos) 0 (.ref I) (.ref D) (cEnv scope env (D + 1))) (RR (.ref D) (D + 1)) s₅ := by
    rintro s₅ rfl
    refine codeAny_compLoop_tests (fun n s => ∃ i F' items, n = xs.length - i ∧ i ≤ xs.length ∧ It i s.heap ∧ St X F' σ s ∧ Since F₀ σ s₀ F' σ s ∧ EnvOK (cEnv scope env (D + 1)) ψ F' σ s.heap ∧ s.heap.PlainList D items ∧
      VHs F' ((xs.take i).filterMap f) items.toList ∧ F' D = none ∧ F' I = none) ?_ xs.length ?_
    · rintro n s ⟨i, F', items, rfl, hi, hIti, sti, sci, evi, hPl, hVs, hFD, hFI⟩
      have hσI := (stFresh I hI).2
      have hσD := (stFresh D (h0none _ (Nat.le_refl _))).2
      cases hx : xs[i]? with
      | none =>
        have hil : i = xs.length := Nat.le_antisymm hi (by simpa using hx)
        subst hil
        refine noE_any (ITR.done F' σ s _ (Fz.le_trans (Fz.le_refl _) sci.mono) hok sti hIti ?_)
        intro h' tk hext
        dsimp only
        obtain ⟨k, hk'⟩ := hPl
        obtain ⟨m, hm⟩ := evi.ns
        have hCI : D + 1 ≠ I := (n2 ID).1
        refine hRR D (D + 1) F' _ items k m (hext D _ (n2 ID).2.1 hk') (by simpa using hVs) hFD hσD (h0none _ (Nat.le_refl _)) (h0none _ (Nat.le_succ _)) (n2 ID).2.2.2.2.1 evi.locFree.2 evi.locFree.1 (Ns.keepAt hm fun o ho => hext _ o hCI ho) ?_ (frNe _ (h0none _ (Nat.le_succ _)))
        exact ⟨sci.ext hext hI, sti.ext hext hFI hσI (frNe I hI)⟩
      | some mv =>
        have hilt : i < xs.length := (List.getElem?_eq_some_iff.mp hx).1
        have hmem : mv ∈ xs := List.mem_of_getElem? hx
        refine noE_any (ITR.item i F' σ s mv _ hx sci.mono hok sti hIti ?_)
        intro v₁ h₁ tk₁ hv₁ hIt₁ hs₁
        dsimp only
        have ext₁ := hs₁.extBut
        have st₁ := sti.ext (t := tk₁) ext₁ hFI hσI (frNe I hI)
        have sc₁ := sci.ext (t := tk₁) ext₁ hI
        have ev₁ : EnvOK (cEnv scope env (D + 1)) ψ F' σ h₁ := evi.ext ext₁ (n2 ID).2.2.2.1 fun y c hc => (cellNe y c hc).1
        have pl₁ : h₁.PlainList D items := by obtain ⟨k, hk'⟩ := hPl; exact ⟨k, ext₁ D _ (n2 ID).2.1 hk'⟩
        refine wpAny_assign_Name (noE_any (wpAny_mono (EnvOK.store st₁ ev₁ apx (fun y c hc => (cellNe y c hc).2.2) hv₁ hxs) ?_ fun _ _ x => x))
        rintro _ s₂' ⟨a, h₂', tk₂, rfl, ha, hs₂, hFa, hσa, _, ev₂⟩
        dsimp only at hs₂ ev₂ ⊢
        have ext₂ := hs₂.extBut
        have ha0 : s₀.heap.get? a = none ∧ a ≠ I ∧ a ≠ D := by
          rcases ha with rfl | ⟨hkc, hc⟩
          · exact ⟨h0none _ (Nat.le_succ _), (n2 ID).1, (n2 ID).2.2.1⟩
          · have := xCell a hkc hc
            exact ⟨h0none _ (n3 this), (n1 ID this).1, (n1 ID this).2.1⟩
        have st₂ := st₁.ext (t := tk₂) ext₂ hFa hσa (frNe a ha0.1)
        have sc₂ := sc₁.ext (t := tk₂) ext₂ ha0.1
        have pl₂ : h₂'.PlainList D items := by obtain ⟨k, hk'⟩ := pl₁; exact ⟨k, ext₂ D _ (Ne.symm ha0.2.2) hk'⟩
        have it₂ : It (i + 1) h₂' := ITR.frame _ _ _ hIt₁ fun o ho => ext₂ I o (Ne.symm ha0.2.1) ho
        have cont : ∀ s₃ F₃ items₃, St X F₃ σ s₃ → Since F₀ σ s₀ F₃ σ s₃ → EnvOK (cEnv scope env (D + 1)) ((x, mv) :: ψ) F₃ σ s₃.heap → s₃.heap.PlainList D items₃ → It (i + 1) s₃.heap → VHs F₃ ((xs.take (i + 1)).filterMap f) items₃.toList → F₃ D = none → F₃ I = none →
            ∃ m, m < xs.length - i ∧ ∃ i F' items, m = xs.length - i ∧ i ≤ xs.length ∧ It i s₃.heap ∧ St X F' σ s₃ ∧ Since F₀ σ s₀ F' σ s₃ ∧ EnvOK (cEnv scope env (D + 1)) ψ F' σ s₃.heap ∧ s₃.heap.PlainList D items ∧ VHs F' ((xs.take i).filterMap f) items.toList ∧ F' D = none ∧ F' I = none :=
          fun s₃ F₃ items₃ a1 a2 a3 a4 a5 a6 a7 a8 => ⟨xs.length - (i + 1), by omega, i + 1, F₃, items₃, rfl, hilt, a5, a1, a2, a3.less (hψx mv), a4, a6, a7, a8⟩
        refine noE_any (wpAny_mono ((hel (D + 1) mv hmem).run st₂ ev₂) ?_ fun _ _ x => x)
        rintro b s₃ ⟨F₃, t₃, hb⟩
        have own2 : ∀ y d, σ y = some d → ∃ o, h₂'.get? y = some o := fun y d e => let ⟨o, ho, _⟩ := st₂.own y d e; ⟨o, ho⟩
        have sc₃ : Since F₀ σ s₀ F₃ σ s₃ := sc₂.trans t₃.toSince
        have aliveD : ∃ o, h₂'.get? D = some o := let ⟨k, hk'⟩ := pl₂; ⟨_, hk'⟩
        have aliveI : ∃ o, h₂'.get? I = some o := ITR.at_ _ _ it₂
        have hFD₃ : F₃ D = none := let ⟨o, ho⟩ := aliveD; t₃.toSince.noneF ho hσD hFD
        have hFI₃ : F₃ I = none := let ⟨o, ho⟩ := aliveI; t₃.toSince.noneF ho hσI hFI
        have pl₃ : s₃.heap.PlainList D items := let ⟨k, hk'⟩ := pl₂; ⟨k, t₃.toSince.keepX hk' hσD (by intro _ _ h; cases h)⟩
        have it₃ : It (i + 1) s₃.heap := ITR.frame _ _ _ it₂ fun o ho => t₃.toSince.keepX ho hσI (ITR.nd _ _ o it₂ ho)
        cases b with
        | false =>
          have hb' : f mv = none := hb
          simp only [Bool.false_eq_true, if_false]
          refine cont s₃ F₃ items t₃.st sc₃ (ev₂.step t₃.toSince) pl₃ it₃ ?_ hFD₃ hFI₃
          rw [take_filterMap hx, hb']
          simpa using hVs.mono t₃.mono
        | true =>
          obtain ⟨y, hy, hwe⟩ := hb
          simp only [if_true]
          refine noE_any (wpAny_mono (hwe F₃ s₃ t₃.st (ev₂.step t₃.toSince)) ?_ fun _ _ x => x)
          rintro u s₄ ⟨F₄, σ₄, y', t₄, hu, rfl, rfl⟩
          have own3 : ∀ y d, σ₄ y = some d → ∃ o, s₃.heap.get? y = some o := fun y d e => let ⟨o, ho, _⟩ := t₃.st.own y d e; ⟨o, ho⟩
          have sc₄ := sc₃.trans t₄.toSince
          have pl₄ : s₄.heap.PlainList D items := let ⟨k, hk'⟩ := pl₃; ⟨k, t₄.toSince.keepX hk' hσD (by intro _ _ h; cases h)⟩
          have it₄ : It (i + 1) s₄.heap := ITR.frame _ _ _ it₃ fun o ho => t₄.toSince.keepX ho hσI (ITR.nd _ _ o it₃ ho)
          have hFD₄ : F₄ D = none := let ⟨k, hk'⟩ := pl₃; t₄.toSince.noneF hk' hσD hFD₃
          have hFI₄ : F₄ I = none := let ⟨o, ho⟩ := ITR.at_ _ _ it₃; t₄.toSince.noneF ho hσI hFI₃
          have ev₄ := (ev₂.step t₃.toSince).step t₄.toSince
          have hsz : items.size ≤ sizeLine := by
            have h1 := hVs.length
            have h2 : ((xs.take i).filterMap f).length ≤ xs.length := Nat.le_trans (List.length_filterMap_le _ _) (by simp; omega)
            simp only [Array.length_toList] at h1
            omega
          refine wpAny_list_append_plain pl₄ (fun h₅' hpl₅ hs₅ => ?_) hsz
          have ext₅ := hs₅.extBut
          refine cont _ F₄ (items.push u) (t₄.st.ext (t := s₄.toks) ext₅ hFD₄ hσD (frNe D (h0none _ (Nat.le_refl _)))) (sc₄.ext (t := s₄.toks) ext₅ (h0none _ (Nat.le_refl _))) (ev₄.ext ext₅ (n2 ID).2.2.2.2.1 fun y c hc => (cellNe y c hc).2.1) hpl₅ (ITR.frame _ _ _ it₄ fun o ho => ext₅ I o (n2 ID).2.2.2.2.2 ho) ?_ hFD₄ hFI₄
          rw [take_filterMap hx, hy, Array.toList_push]
          refine VHs.append (hVs.mono (Fz.le_trans t₃.mono t₄.mono)) ?_
          simp only [Option.toList, VHs]
          exact ⟨u, [], rfl, hu, rfl⟩
    · refine ⟨0, F₀, #[], by simp, Nat.zero_le _, ITR.frame _ _ _ hIt fun o ho => k25 I o ho, st5, since5, ev5, hDobj, by simp [VHs], (stFresh D (h0none _ (Nat.le_refl _))).1, (stFresh I hI).1⟩
  have hItI : It 0 h₅ := ITR.frame _ _ _ hIt fun o ho => k25 I o ho
  exact codeAny_compStart_list (loop _ rfl) (noE_any (ITR.self 0 { s₀ with heap := h₅ } _ hItI (loop _ rfl)))
end
end Mine
end
section
open PySem PySem.W PyProof.Rows PySem.Calls
set_option Elab.async false
set_option maxRecDepth 100000
set_option linter.unusedVariables false
namespace Mine
section
variable {X : Cx} {A : Around} {B : Base} {env : Env} {φ : MEnv} {σ : MHeap} {Q : MV → MHeap → Prop} {F F' : Fz} {s s₀ : Shared}

theorem Trans.freeze {F₀ : Fz} {σ₀ : MHeap} {s' : Shared} {D : Addr} {o : Obj} (t : Trans X F₀ σ₀ s₀ F σ s') (ho : s'.heap.get? D = some o) (hF : F D = none) (hσ : σ D = none) (h0 : s₀.heap.get? D = none) (nd : ∀ es n, o.data ≠ .dict es n := by intro _ _ h; cases h) : Trans X F₀ σ₀ s₀ (F.put D o) σ s' where
  mono := Fz.le_trans t.mono (Fz.le_put hF)
  kp := t.kp
  dom := fun b h => (t.dom b h).imp_right fun h => Fz.le_ne (Fz.le_put hF) h
  newS := t.newS
  newF := fun b q ns q' => by
    unfold Fz.put at q'
    by_cases e : b = D
    · subst e; exact h0
    · rw [if_neg e] at q'; exact t.newF b q ns q'
  st := {
    top := fun b x e => Fz.le_put hF b x (t.st.top b x e)
    fz := fun b x e => by
      unfold Fz.put at e
      by_cases q : b = D
      · subst q; rw [if_pos rfl] at e; cases e; exact ho
      · rw [if_neg q] at e; exact t.st.fz b x e
    own := fun b d e => let ⟨x, h1, h2⟩ := t.st.own b d e; ⟨x, h1, d.mono _ _ _ (Fz.le_put hF) h2⟩
    apart := fun b q => by
      unfold Fz.put
      by_cases e : b = D
      · subst e; exact absurd hσ q
      · rw [if_neg e]; exact t.st.apart b q
    gens := t.st.gens
    os := t.st.os
    frs := fun f hf => by
      obtain ⟨⟨x, es, n, hx, hd⟩, h1, h2⟩ := t.st.frs f hf
      refine ⟨⟨x, es, n, hx, hd⟩, ?_, h2⟩
      unfold Fz.put
      rw [if_neg (by rintro rfl; rw [ho] at hx; cases hx; exact nd es n hd)]; exact h1 }

def namesOk (scope : Scope) : Bool := scope.names.all fun y => !(y.2 == NameKind.local) || (scope.names.lookup y.1 == some .local)
theorem namesOk_of {scope : Scope} (h : namesOk scope = true) : ∀ y ∈ scope.names, y.2 = .local → scope.names.lookup y.1 = some .local := fun y hy hl => by
  have := List.all_eq_true.mp h y hy
  rw [hl] at this
  simpa using this

def CompW (X : Cx) (A : Around) (env : Env) (elt iter : Expr) (x : Str) (ifs : List Expr) (scope : Scope) (ψ : MEnv) (f : MV → Option MV) (φ : MEnv) (σ : MHeap) (Q : MV → MHeap → Prop) : Prop :=
  WE X A env iter φ σ (fun it σ₁ => ∃ xs ok, IterOf X A it σ₁ ok xs ∧ ok σ₁ ∧ xs.length ≤ sizeLine ∧ (∀ C, ∀ mv ∈ xs, Elem X A (cEnv scope env C) ifs elt ((x, mv) :: ψ) σ₁ (f mv)) ∧ Q (.list (xs.filterMap f)) σ₁)
structure CompOk (env : Env) (scope : Scope) (x : Str) : Prop where
  kind : scope.kind = .function
  clos : closOk scope env = true
  tgt : targetOk scope x = true
  names : namesOk scope = true

theorem WE_comp {elt iter : Expr} {x : Str} {px : Pos} {ifs : List Expr} {scope : Scope} {pos : Pos} (ψ : MEnv) (f : MV → Option MV) (h : CompW X A env elt iter x ifs scope ψ f φ σ Q) (hψ : SubEnv φ scope env ψ)
    (hc : CompOk env scope x := by exact ⟨by rfl, by rfl, by rfl, by rfl⟩) (hs : ∀ x, foldedSetIterable iter env x = pure x := by intro _; rfl) : WE X A env (.ListComp elt [⟨.Name x px, iter, ifs, 0⟩] scope pos) φ σ Q := by
  intro F s st ev
  rw [eval_ListComp]
  refine wpAny_comprehension_free (use := none) rfl hs (closureFor_ok hc.clos) hc.kind (namesOk_of hc.names) (wpAny_mono (h F s st ev) ?_ fun _ _ x => x)
  rintro v s₁ ⟨F₁, σ₁, it, t₁, hv, xs, ok, hit, hok, hlen, hel, hq⟩
  refine comp_core (RR := fun acc C => compPost X.M A noE none (PostE X F σ s Q) acc C) t₁.st (ev.step t₁.toSince) hit hok hv hlen hc.kind hc.clos hc.tgt hψ hel ?_
  intro D C F' s' items n m hD hV hFD hσD h0D h0C hDC hFC hσC hns tr hfrC
  refine ⟨m, hns, fun h' hs' => ?_⟩
  have ext := hs'.extBut
  have tr2 : Trans X F₁ σ₁ s₁ F' σ₁ { s' with heap := h' } := ⟨tr.toSince.ext (t := s'.toks) ext h0C, tr.st.ext (t := s'.toks) ext hFC hσC hfrC⟩
  have tr3 := tr2.freeze (ext D _ hDC hD) hFD hσD h0D
  refine ⟨_, σ₁, .list (xs.filterMap f), t₁.trans tr3, ?_, hq⟩
  simp only [VH]
  exact ⟨D, items, n, rfl, Fz.put_self _ _ _, hV.mono (Fz.le_put hFD)⟩

/-- name = [..] where the store comes before the comprehension's names go -/
theorem WS1_assignComp {Q : MF → MEnv → MHeap → Prop} {elt iter : Expr} {x y : Str} {px py : Pos} {ifs : List Expr} {scope : Scope} {pos spos : Pos} (ψ : MEnv) (f : MV → Option MV)
    (h : CompW X A env elt iter x ifs scope ψ f φ σ (fun mv σ₁ => Q .next ((y, mv) :: φ) σ₁)) (hψ : SubEnv φ scope env ψ)
    (hsw : swapsWith (.ListComp elt [⟨.Name x px, iter, ifs, 0⟩] scope pos) (some (.Name y py)) spos.line env = pure true := by rfl)
    (hy : storable env y = true := by rfl)
    (hc : CompOk env scope x := by exact ⟨by rfl, by rfl, by rfl, by rfl⟩) (hs : ∀ x, foldedSetIterable iter env x = pure x := by intro _; rfl) :
    WS1 X A env (.Assign [.Name y py] (.ListComp elt [⟨.Name x px, iter, ifs, 0⟩] scope pos) spos) φ σ Q := by
  intro B F s fm
  rw [exec_Assign_Name_used _ _ _ _ hsw]
  refine wpAny_bind (wpAny_standAt (wpAny_bind ?_))
  show wpAny _ A (do let _ ← comprehension (.ListComp elt [⟨.Name x px, iter, ifs, 0⟩] scope pos) scope env _ (newList []) false (eval iter env) (some (assign (.Name y py) env))) _ _ s
  refine wpAny_bind (wpAny_mono (wpAny_comprehension_free (use := some (assign (.Name y py) env)) (Q := fun _ s' => PostS X B env Q .next s') rfl hs (closureFor_ok hc.clos) hc.kind (namesOk_of hc.names)
    (wpAny_mono (h F s fm.st fm.ev) ?_ fun _ _ x => x)) (fun _ s' hq => wpAny_pure (wpAny_pure hq)) fun _ _ e => e)
  rintro v s₁ ⟨F₁, σ₁, it, t₁, hv, xs, ok, hit, hok, hlen, hel, hq⟩
  have fm₁ := fm.step t₁
  refine comp_core (RR := fun acc C => compPost X.M A noE (some (assign (.Name y py) env)) (fun _ s' => PostS X B env Q .next s') acc C) t₁.st fm₁.ev hit hok hv hlen hc.kind hc.clos hc.tgt hψ hel ?_
  intro D C F' s' items n m hD hV hFD hσD h0D h0C hDC hFC hσC hns tr hfrC
  show wpAny _ A (assign (.Name y py) env (.ref D)) _ _ _
  have tr3 := tr.freeze hD hFD hσD h0D
  have fm₃ := fm₁.step tr3
  have hvD : VH (F'.put D (lobj items n)) (.list (xs.filterMap f)) (.ref D) := by
    simp only [VH]
    exact ⟨D, items, n, rfl, Fz.put_self _ _ _, hV.mono (Fz.le_put hFD)⟩
  have hFC' : (F'.put D (lobj items n)) C = none := by unfold Fz.put; rw [if_neg (Ne.symm hDC)]; exact hFC
  have hLC : C ≠ env.locals := by
    rintro rfl
    obtain ⟨m', hn'⟩ := fm₁.ev.ns
    obtain ⟨o, ho⟩ := Ns.at hn'
    rw [h0C] at ho; cases ho
  have hcC : ∀ y c, env.cells.lookup y = some c → c ≠ C := fun y c hc => by
    rintro rfl
    obtain ⟨v, hv⟩ := fm₁.ev.cells y c hc
    obtain ⟨o, ho⟩ := IsCell.at hv
    rw [h0C] at ho; cases ho
  refine wpAny_assign_Name (wpAny_mono (EnvOK.store fm₃.st fm₃.ev (fun c z c₂ _ hc hz hl => by rintro rfl; exact hz (name_of_addr fm₃.apart (lookup_mem hl) (lookup_mem hc))) (fun x c hc => fm₃.above x c (lookup_mem hc)) hvD hy) ?_ fun _ _ x => x)
  rintro _ s₄ ⟨a, h₄, tk, rfl, ha, hs₄, hFa, hσa, hdd, ev₄⟩
  dsimp only
  have ext₄ := hs₄.extBut
  have haC : C ≠ a := by
    rcases ha with rfl | ⟨_, hc⟩
    · exact hLC
    · exact Ne.symm (hcC y a hc)
  have haB : own env a := by
    rcases ha with rfl | ⟨hk, hc⟩
    · exact .inl rfl
    · exact .inr ⟨y, hc⟩
  refine ⟨m, Ns.keepAt hns fun o ho => ext₄ C o haC ho, fun h₅ hs₅ => ?_⟩
  have ext₅ := hs₅.extBut
  refine ⟨F'.put D (lobj items n), σ₁, (y, .list (xs.filterMap f)) :: φ, .next, ?_, rfl, hq⟩
  have st4 := fm₃.st.sameBut (t := tk) hs₄ hFa hσa hdd
  have sc1 : SinceX (own env) F₁ σ₁ s₁ (F'.put D (lobj items n)) σ₁ { s' with heap := h₄, toks := tk } := (tr3.toSince.x (ex := own env)).sameBut ext₄ (.inl haB)
  have sc2 : SinceX (own env) F₁ σ₁ s₁ (F'.put D (lobj items n)) σ₁ { s' with heap := h₅, toks := tk } := sc1.sameBut (s := { s' with heap := h₄, toks := tk }) ext₅ (.inr h0C)
  exact ⟨st4.ext (t := tk) ext₅ hFC' hσC hfrC, fm₁.since.trans sc2, ev₄.ext ext₅ hLC hcC, fm₃.apart, fm₃.above⟩
end
end Mine
end
section
open PySem PySem.W PyProof.Rows PySem.Calls
set_option Elab.async false
set_option maxRecDepth 100000
set_option linter.unusedVariables false
namespace Mine
section
variable {X : Cx} {A : Around} {B : Base} {env : Env} {φ : MEnv} {σ : MHeap} {F F' : Fz} {s s₀ : Shared} {Q : MF → MEnv → MHeap → Prop}

theorem Fm.freshB {a : Addr} (f : Fm X B env φ F σ s) (h : s.heap.get? a = none) : B.s.heap.get? a = none ∧ ¬ own env a := by
  have h1 : ¬ own env a := by
    rintro (rfl | ⟨x, hx⟩)
    · obtain ⟨m, hm⟩ := f.ev.ns; obtain ⟨o, ho⟩ := Ns.at hm; rw [h] at ho; cases ho
    · obtain ⟨m, hm⟩ := f.ev.cells x a hx; obtain ⟨o, ho⟩ := IsCell.at hm; rw [h] at ho; cases ho
  refine ⟨?_, h1⟩
  cases q : B.s.heap.get? a with
  | none => rfl
  | some o =>
    cases z : B.σ a with
    | none => obtain ⟨o', this, _⟩ := f.since.kp a o h1 q z; rw [h] at this; cases this
    | some d =>
      rcases f.since.dom a (by rw [z]; exact Option.some_ne_none _) with h2 | h2
      · cases z' : σ a with
        | none => exact absurd z' h2
        | some d' => obtain ⟨o', ho'⟩ := f.st.live a d' z'; rw [h] at ho'; cases ho'
      · cases z' : F a with
        | none => exact absurd z' h2
        | some o' => rw [f.st.fz a o' z'] at h; cases h
/-- a change at a place that is none of ours -/
theorem Fm.ext {a : Addr} {h' : Heap} {t : Nat} (f : Fm X B env φ F σ s) (hs : Heap.ExtBut a s.heap h') (hF : F a = none) (hσ : σ a = none) (hB : B.s.heap.get? a = none) (ho : ¬ own env a) (hfr : ∀ f ∈ X.fr, f ≠ a) : Fm X B env φ F σ { s with heap := h', toks := t } :=
  ⟨f.st.ext hs hF hσ hfr, f.since.sameBut hs (.inr hB), f.ev.ext hs (fun e => ho (.inl e)) (fun y c hc e => ho (.inr ⟨y, e ▸ hc⟩)), f.apart, f.above⟩

def LoopQ (X : Cx) (A : Around) (env : Env) (x : Str) (body : List Stmt) (ok : MHeap → Prop) (Q : MF → MEnv → MHeap → Prop) : List MV → MEnv → MHeap → Prop
  | [], φ, σ => Q .next φ σ
  | mv :: rest, φ, σ => WS X A env body ((x, mv) :: φ) σ (fun mf φ' σ' => match mf with
      | .next => ok σ' ∧ LoopQ X A env x body ok Q rest φ' σ'
      | .cont => ok σ' ∧ LoopQ X A env x body ok Q rest φ' σ'
      | .brk => Q .next φ' σ'
      | .ret v => Q (.ret v) φ' σ')

theorem WS1_for {x : Str} {px : Pos} {iter : Expr} {body : List Stmt} {pos : Pos}
    (h : WE X A env iter φ σ (fun it σ₁ => ∃ xs ok, IterOf X A it σ₁ ok xs ∧ ok σ₁ ∧ LoopQ X A env x body ok Q xs φ σ₁)) (hx : storable env x = true := by rfl)
    (hs : ∀ x, foldedSetIterable iter env x = pure x := by intro _; rfl) : WS1 X A env (.For (.Name x px) iter body [] pos) φ σ Q := by
  intro B F s f
  refine wpAny_For (wpAny_mono (h F s f.st f.ev) ?_ fun _ _ x => x) hs
  rintro v s₁ ⟨F₁, σ₁, it, t₁, hv, xs, ok, hit, hok, hq⟩
  have f₁ := f.step t₁
  refine wpAny_mono (hit F₁ s₁ v t₁.st hv) ?_ fun _ _ x => x
  rintro r s₂ ⟨I, It, h₂, rfl, rfl, keep₂, hI, hIt, ITR⟩
  obtain ⟨hBI, hoI⟩ := f₁.freshB hI
  have hfr := t₁.st.fresh hI
  have hfrI : ∀ f ∈ X.fr, f ≠ I := fun f hf => t₁.st.fr_ne hf hI
  have f₂ : Fm X B env φ F₁ σ₁ { s₁ with heap := h₂ } := by
    have tr : Trans X F₁ σ₁ s₁ F₁ σ₁ { s₁ with heap := h₂ } := ⟨⟨Fz.le_refl _, fun b o e _ => ⟨o, keep₂ b o e, .refl o⟩, fun _ q => .inl q, fun _ q q' => absurd q q', fun _ q _ q' => absurd q q'⟩,
      ⟨t₁.st.top, fun b o e => keep₂ b o (t₁.st.fz b o e), fun b d e => let ⟨o, h1, h2⟩ := t₁.st.own b d e; ⟨o, keep₂ b o h1, h2⟩, t₁.st.apart, t₁.st.gens, t₁.st.os, fun f hf => by obtain ⟨⟨o, es, n, ho, hd⟩, h2⟩ := t₁.st.frs f hf; exact ⟨⟨o, es, n, keep₂ f o ho, hd⟩, h2⟩⟩⟩
    exact f₁.step tr
  refine codeAny_forLoop (fun n s => ∃ i F' φ' σ', n = xs.length - i ∧ i ≤ xs.length ∧ It i s.heap ∧ Fm X B env φ' F' σ' s ∧ ok σ' ∧ F₁.le F' ∧ F' I = none ∧ σ' I = none ∧ LoopQ X A env x body ok Q (xs.drop i) φ' σ') ?_ xs.length ?_
  · rintro n s ⟨i, F', φ', σ', rfl, hi, hIti, fi, oki, hle, hFI, hσI, hqi⟩
    cases hxi : xs[i]? with
    | none =>
      have hil : i = xs.length := Nat.le_antisymm hi (by simpa using hxi)
      subst hil
      refine noE_any (ITR.done F' σ' s _ hle oki fi.st hIti ?_)
      intro h' tk hext
      dsimp only
      rw [List.drop_length] at hqi
      exact wpAny_execs_nil ⟨F', σ', φ', .next, fi.ext hext hFI hσI hBI hoI hfrI, rfl, hqi⟩
    | some mv =>
      have hilt : i < xs.length := (List.getElem?_eq_some_iff.mp hxi).1
      refine noE_any (ITR.item i F' σ' s mv _ hxi hle oki fi.st hIti ?_)
      intro v₁ h₁ tk₁ hv₁ hIt₁ hs₁
      dsimp only
      have g₁ : Fm X B env φ' F' σ' { s with heap := h₁, toks := tk₁ } := fi.ext hs₁.extBut hFI hσI hBI hoI hfrI
      have hIlive : ∃ o, h₁.get? I = some o := ITR.at_ _ _ hIt₁
      -- the target is stored
      refine wpAny_assign_Name (noE_any (wpAny_mono (Fm.store g₁.now hv₁ hx) ?_ fun _ _ x => x))
      intro _ s₃ g₃
      have hdrop : xs.drop i = mv :: xs.drop (i + 1) := by
        rw [List.drop_eq_getElem_cons hilt]
        have : xs[i] = mv := Option.some.inj ((List.getElem?_eq_getElem hilt).symm.trans hxi)
        rw [this]
      rw [hdrop] at hqi
      obtain ⟨oI, hoIl⟩ := hIlive
      have hndI : ∀ es n, oI.data ≠ .dict es n := ITR.nd _ _ oI hIt₁ hoIl
      have hI₃ : s₃.heap.get? I = some oI := g₃.since.keepX hoI hoIl hσI hndI
      have It₃ : It (i + 1) s₃.heap := ITR.frame _ _ _ hIt₁ fun o ho => by rw [hoIl] at ho; cases ho; exact hI₃
      have b₃ := g₁.back g₃
      refine noE_any (wpAny_mono (hqi _ F' s₃ b₃.now) ?_ fun _ _ x => x)
      rintro fl s₄ ⟨F₄, σ₄, φ₄, mf, g₄, hfl, hq₄⟩
      have b₄ := b₃.back g₄
      have hI₄ : s₄.heap.get? I = some oI := g₄.since.keepX hoI hI₃ hσI hndI
      have It₄ : It (i + 1) s₄.heap := ITR.frame _ _ _ It₃ fun o ho => by rw [hI₃] at ho; cases ho; exact hI₄
      have hF₄ : F₄ I = none := by
        cases q : F₄ I with
        | none => rfl
        | some o => have := g₄.since.newF I hoI hFI hσI (by rw [q]; exact Option.some_ne_none _); rw [hI₃] at this; cases this
      have hσ₄ : σ₄ I = none := by
        cases q : σ₄ I with
        | none => rfl
        | some o => have := g₄.since.newS I hoI hσI (by rw [q]; exact Option.some_ne_none _); rw [hI₃] at this; cases this
      cases mf with
      | next => cases hfl; exact ⟨xs.length - (i + 1), by omega, i + 1, F₄, φ₄, σ₄, rfl, hilt, It₄, b₄, hq₄.1, Fz.le_trans hle g₄.since.mono, hF₄, hσ₄, hq₄.2⟩
      | cont => cases hfl; exact ⟨xs.length - (i + 1), by omega, i + 1, F₄, φ₄, σ₄, rfl, hilt, It₄, b₄, hq₄.1, Fz.le_trans hle g₄.since.mono, hF₄, hσ₄, hq₄.2⟩
      | brk => cases hfl; exact ⟨F₄, σ₄, φ₄, .next, b₄, rfl, hq₄⟩
      | ret mv => obtain ⟨u, rfl, hu⟩ := hfl; exact ⟨F₄, σ₄, φ₄, .ret mv, b₄, ⟨u, rfl, hu⟩, hq₄⟩
  · exact ⟨0, F₁, φ, σ₁, by simp, Nat.zero_le _, hIt, f₂, hok, Fz.le_refl _, hfr.1, hfr.2, by simpa using hq⟩
end
end Mine
end
section
open PySem PySem.W PyProof.Rows PySem.Calls
set_option Elab.async false
set_option maxRecDepth 100000
set_option linter.unusedVariables false
namespace Mine
section
variable {X : Cx} {A : Around} {env : Env} {φ : MEnv} {σ : MHeap} {Q : MV → MHeap → Prop} {F : Fz} {s : Shared}

theorem Trans.grown {h' : Heap} {t : Nat} (st : St X F σ s) (k : ∀ b o, s.heap.get? b = some o → h'.get? b = some o) : Trans X F σ s F σ { s with heap := h', toks := t } :=
  ⟨⟨Fz.le_refl _, fun b o e _ => ⟨o, k b o e, .refl o⟩, fun _ q => .inl q, fun _ q q' => absurd q q', fun _ q _ q' => absurd q q'⟩,
    ⟨st.top, fun b o e => k b o (st.fz b o e), fun b d e => let ⟨o, h1, h2⟩ := st.own b d e; ⟨o, k b o h1, h2⟩, st.apart, st.gens, st.os, fun f hf => by obtain ⟨⟨o, es, n, ho, hd⟩, h2⟩ := st.frs f hf; exact ⟨⟨o, es, n, k f o ho, hd⟩, h2⟩⟩⟩
/-- the heap has grown; one of the new objects is frozen -/
theorem Trans.grownPut {h' : Heap} {t : Nat} {D : Addr} {o : Obj} (st : St X F σ s) (k : ∀ b o, s.heap.get? b = some o → h'.get? b = some o) (hD : h'.get? D = some o) (h0 : s.heap.get? D = none) (nd : ∀ es n, o.data ≠ .dict es n := by intro _ _ h; cases h) : Trans X F σ s (F.put D o) σ { s with heap := h', toks := t } :=
  (Trans.grown (t := t) st k).freeze hD (st.fresh h0).1 (st.fresh h0).2 h0 nd

theorem WE_item {value slice : Expr} {pos : Pos} (h : WE X A env value φ σ (fun o σ₁ => WE X A env slice φ σ₁ (fun i σ₂ => WV2 X A (subscriptTail value slice) o i σ₂ Q))) : WE X A env (.Subscript value slice pos) φ σ Q := by
  intro F s st ev
  refine Subscript_ (wpAny_mono (h F s st ev) ?_ fun _ _ x => x)
  rintro v s₁ ⟨F₁, σ₁, a, t₁, ha, h₁⟩
  refine wpAny_mono (h₁ F₁ s₁ t₁.st (ev.step t₁.toSince)) ?_ fun _ _ x => x
  rintro u s₂ ⟨F₂, σ₂, b, t₂, hb, h₂⟩
  exact wpAny_mono (h₂ F₂ s₂ v u t₂.st (ha.mono t₂.mono) hb) (fun _ _ p => p.trans (t₁.trans t₂)) fun _ _ x => x
def plainSub (slice : Expr) : Prop := ∀ o i, subscripted slice false o i = operate [o, i] (getItem o i)
theorem V_item {value slice : Expr} {xs : List MV} {k : Int} {mv : MV} (h0 : 0 ≤ k) (hx : xs[k.toNat]? = some mv) (h : Q mv σ) (hfit : k < 2 ^ 63) (hs : plainSub slice := by intro _ _; with_unfolding_all rfl) :
    WV2 X A (subscriptTail value slice) (.list xs) (.int k) σ Q := by
  rintro F s v u st hv hu
  simp only [VH] at hu; obtain ⟨t, rfl⟩ := hu
  obtain ⟨a, items, n, rfl, hf, hl, hxs⟩ := hv.listAt st
  obtain ⟨w, hw, hvh⟩ := hxs.get hx
  exact tail_any hl.typeIs slot_list_getitem.lookup (wpAny_getItem_list hl h0 hfit (getElem?_toList ▸ hw) (.now st hvh h)) (hs _ _)

def isName : Expr → Bool
  | .Name _ _ => true
  | _ => false
theorem letGo_name {value : Expr} (h : isName value = true) : ∀ o r, letTemporaryGo value o r = pure () := by
  match value, h with
  | .Name _ _, _ => intro _ _; rfl

/-- xs[:y], xs[x:], xs[k::c] of a list of ints under a name -/
theorem WE_slice {value : Expr} {lo hi : Option Expr} {p pos : Pos} {ns : List Int} {l u : Option Int} (hn : isName value = true)
    (h : WE X A env value φ σ (fun o σ₁ => σ₁ = σ ∧ o = .list (ns.map .int)))
    (hlo : match lo with | none => l = none | some e => ∃ k, l = some k ∧ WE X A env e φ σ (fun i σ₁ => σ₁ = σ ∧ i = .int k))
    (hhi : match hi with | none => u = none | some e => ∃ k, u = some k ∧ WE X A env e φ σ (fun i σ₁ => σ₁ = σ ∧ i = .int k))
    (hlen : ns.length ≤ sizeLine) (hq : Q (.list ((pickNums ns l u none).map .int)) σ) : WE X A env (.Subscript value (.Slice lo hi none p) pos) φ σ Q := by
  intro F s st ev
  have part : ∀ (e : Option Expr) (l : Option Int) (F : Fz) (s : Shared), St X F σ s → EnvOK env φ F σ s.heap → (match e with | none => l = none | some e => ∃ k, l = some k ∧ WE X A env e φ σ (fun i σ₁ => σ₁ = σ ∧ i = .int k)) →
      wpAny X.M A (evalPart e env) (fun v s' => ∃ F', Trans X F σ s F' σ s' ∧ IsPart v l) noE s := by
    intro e l F s st ev h
    cases e with
    | none => subst h; exact wpAny_pure ⟨F, .refl st, .none⟩
    | some e =>
      obtain ⟨k, rfl, hw⟩ := h
      refine wpAny_evalPart_some (wpAny_mono (hw F s st ev) ?_ fun _ _ x => x)
      rintro v s₁ ⟨F₁, σ₁, i, t₁, hi, rfl, rfl⟩
      simp only [VH] at hi; obtain ⟨t, rfl⟩ := hi
      exact ⟨F₁, t₁, .int k t⟩
  refine wpAny_Subscript_list_slice (wpAny_mono (h F s st ev) ?_ fun _ _ x => x) (letGo_name hn)
  rintro v s₁ ⟨F₁, σ₁, o, t₁, ho, rfl, rfl⟩
  refine wpAny_mono (part lo l F₁ s₁ t₁.st (ev.step t₁.toSince) hlo) ?_ fun _ _ x => x
  rintro vl s₂ ⟨F₂, t₂, hl⟩
  have T2 := t₁.trans t₂
  refine wpAny_mono (part hi u F₂ s₂ t₂.st (ev.step T2.toSince) hhi) ?_ fun _ _ x => x
  rintro vu s₃ ⟨F₃, t₃, hu⟩
  have T3 := T2.trans t₃
  obtain ⟨a, items, n, rfl, hf, hls, hx⟩ := (ho.mono (Fz.le_trans t₂.mono t₃.mono)).listAt t₃.st
  refine ⟨a, items, l, u, rfl, hls, ?_, hl, hu, ?_⟩
  · have := hx.length; simp at this; omega
  · have tr := Trans.grownPut (t := s₃.toks) (D := s₃.heap.objs.size + 1) (h' := (s₃.heap.push { cls := .type "slice", data := .fields #[vl, vu, .none] }).push { cls := .type "list", data := .seq (slicePick items l u none) })
      (o := lobj (slicePick items l u none) 0) t₃.st (fun b o e => Heap.get?_push_of_some _ (Heap.get?_push_of_some _ e))
      (by
        have := Heap.get?_push_size (h := s₃.heap.push { cls := .type "slice", data := .fields #[vl, vu, .none] }) (o := lobj (slicePick items l u none) 0) rfl
        rw [Heap.size_push] at this
        exact this) (get?_ge (Nat.le_succ _))
    refine ⟨_, σ₁, _, T3.trans tr, ?_, hq⟩
    simp only [VH]
    refine ⟨_, _, 0, rfl, Fz.put_self _ _ _, VHs.ofInts ?_⟩
    have := hx.ints.pick l u none
    simpa using this

theorem WE_sliceStep {value lo st' : Expr} {p pos : Pos} {ns : List Int} {l c : Int} (hn : isName value = true) (hc : c ≠ 0)
    (h : WE X A env value φ σ (fun o σ₁ => σ₁ = σ ∧ o = .list (ns.map .int))) (hlo : WE X A env lo φ σ (fun i σ₁ => σ₁ = σ ∧ i = .int l)) (hst : WE X A env st' φ σ (fun i σ₁ => σ₁ = σ ∧ i = .int c))
    (hlen : ns.length ≤ sizeLine) (hq : Q (.list ((pickNums ns (some l) none (some c)).map .int)) σ) : WE X A env (.Subscript value (.Slice (some lo) none (some st') p) pos) φ σ Q := by
  intro F s st ev
  refine wpAny_Subscript_Slice_step slot_list_getitem.lookup (wpAny_mono (h F s st ev) ?_ fun _ _ x => x) (letGo_name hn)
  rintro v s₁ ⟨F₁, σ₁, o, t₁, ho, rfl, rfl⟩
  refine wpAny_Slice (wpAny_evalPart_some (wpAny_mono (hlo F₁ s₁ t₁.st (ev.step t₁.toSince)) ?_ fun _ _ x => x))
  rintro vl s₂ ⟨F₂, σ₂, i, t₂, hi, rfl, rfl⟩
  simp only [VH] at hi; obtain ⟨tl, rfl⟩ := hi
  refine wpAny_pure (wpAny_evalPart_some (wpAny_mono (hst F₂ s₂ t₂.st (ev.step (t₁.trans t₂).toSince)) ?_ fun _ _ x => x))
  rintro vc s₃ ⟨F₃, σ₃, i, t₃, hi, rfl, rfl⟩
  simp only [VH] at hi; obtain ⟨tc, rfl⟩ := hi
  have T3 := (t₁.trans t₂).trans t₃
  have trS := Trans.grown (t := s₃.toks) (h' := s₃.heap.push { cls := .type "slice", data := .fields #[.int l tl, .none, .int c tc] }) t₃.st (fun b o e => Heap.get?_push_of_some _ e)
  obtain ⟨a, items, n, rfl, hf, hls, hx⟩ := (ho.mono (Fz.le_trans t₂.mono t₃.mono)).listAt trS.st
  refine ⟨hls.typeIs, wpAny_getItem_list_slice hls ⟨_, Heap.get?_push_size _ rfl, rfl, rfl⟩ (.int l tl) .none (.int c tc) (by simpa using hc) ?_ ?_⟩
  · have tr := Trans.alloc trS.st (lobj (slicePick items (some l) none (some c)) 0) rfl s₃.toks
    refine ⟨_, σ₃, _, T3.trans (trS.trans tr), ?_, hq⟩
    simp only [VH]
    refine ⟨_, _, 0, rfl, Fz.put_self _ _ _, VHs.ofInts ?_⟩
    have := hx.ints.pick (some l) none (some c)
    simpa using this
  · have := hx.length; simp at this; omega

theorem B_len {xs : List MV} (hlen : xs.length ≤ sizeLine) (h : Q (.int xs.length) σ) : WCv X A (.builtin "len") [.list xs] σ Q := by
  rintro F s vs st hv
  simp only [VHs] at hv
  obtain ⟨v, _, rfl, hv, rfl⟩ := hv
  obtain ⟨a, items, n, rfl, hf, hl, hx⟩ := hv.listAt st
  have e : items.size = xs.length := by have := hx.length; simpa using this
  refine call_len_list hl ?_ (.tk st ?_ h)
  · rw [e]; have : sizeLine < 2 ^ 63 := by decide
    omega
  · simp only [VH]; exact ⟨_, by rw [e]⟩
theorem B_sum {ns : List Int} (hA : A.handled = none) (h : Q (.int ns.sum) σ) : WCv X A (.builtin "sum") [.list (ns.map .int)] σ Q := by
  rintro F s vs st hv
  simp only [VHs] at hv
  obtain ⟨v, _, rfl, hv, rfl⟩ := hv
  obtain ⟨a, items, n, rfl, hf, hl, hx⟩ := hv.listAt st
  have hi := hx.ints
  obtain ⟨xs, e⟩ := hi.allInts.items
  have hns : ns = xs.toList.map (·.1) := by rw [← hi.numsOf, ← nums_intItems, ← e]
  have e' : items = intItems xs := by rw [← e]
  rw [e'] at hl
  refine sum_intListG hA hl fun h' tk t' hk => ?_
  refine ⟨F, σ, .int ns.sum, Trans.grown st hk, ?_, h⟩
  simp only [VH]
  refine ⟨t', ?_⟩
  congr 1
  rw [preSum_eq, List.take_of_length_le (by simp), hns]
theorem T_tuple {xs : List MV} (hlen : xs.length ≤ sizeLine) (h : Q (.tup xs) σ) : WCv X A (.type "tuple") [.list xs] σ Q := by
  rintro F s vs st hv
  simp only [VHs] at hv
  obtain ⟨v, _, rfl, hv, rfl⟩ := hv
  obtain ⟨a, items, n, rfl, hf, hl, hx⟩ := hv.listAt st
  refine call_tuple_list hl (fun h' hk => ?_) (by have := hx.length; simp at this; omega)
  have g := Trans.grown (t := s.toks) st hk
  have tr := Trans.alloc g.st (tobj items 0) rfl s.toks
  refine ⟨_, σ, .tup xs, g.trans tr, ?_, h⟩
  simp only [VH]
  exact ⟨_, items, 0, rfl, Fz.put_self _ _ _, hx.mono (Fz.le_put g.st.freshSize.1)⟩
theorem T_list {xs : List MV} (hlen : xs.length ≤ sizeLine) (h : Q (.list xs) σ) : WCv X A (.type "list") [.list xs] σ Q := by
  rintro F s vs st hv
  simp only [VHs] at hv
  obtain ⟨v, _, rfl, hv, rfl⟩ := hv
  obtain ⟨a, items, n, rfl, hf, hl, hx⟩ := hv.listAt st
  refine call_list_seq a (.inl rfl) (st.fz _ _ hf) rfl rfl (fun h' c' hk hD => ?_) (by have := hx.length; simp at this; omega)
  have tr := Trans.grownPut (t := s.toks) (o := lobj items c') st hk hD (get?_ge (Nat.le_refl _))
  refine ⟨_, σ, .list xs, tr, ?_, h⟩
  simp only [VH]
  exact ⟨_, items, c', rfl, Fz.put_self _ _ _, hx.mono (Fz.le_put st.freshSize.1)⟩
theorem VHs.of_get {F : Fz} : ∀ {ms : List MV} {vs : List Value}, vs.length = ms.length → (∀ (i : Nat) (mv : MV) (v : Value), ms[i]? = some mv → vs[i]? = some v → VH F mv v) → VHs F ms vs
  | [], vs, hl, _ => by simp only [VHs]; exact List.length_eq_zero_iff.mp hl
  | m :: ms, [], hl, _ => by simp at hl
  | m :: ms, v :: vs, hl, h => by
    simp only [VHs]
    exact ⟨v, vs, rfl, h 0 m v rfl rfl, VHs.of_get (by simpa using hl) fun i mv u h1 h2 => h (i + 1) mv u (by simpa using h1) (by simpa using h2)⟩
theorem T_listRng {n : Int} (hA : A.handled = none) (hn : Builtin.Range.small 0 n 1 = true) (hlen : n.toNat ≤ 2 ^ 24) (h : Q (.list (rngItems n)) σ) : WCv X A (.type "list") [.rng n] σ Q := by
  rintro F s vs st hv
  simp only [VHs, VH] at hv
  obtain ⟨v, _, rfl, ⟨a, t, u, w, rfl, hf⟩, rfl⟩ := hv
  have hr : IsRange s.heap a 0 n 1 t u w := st.fz _ _ hf
  refine call_list_range hA hr hn (n := n.toNat) (by rw [rangeSize_nat]; simp) hlen fun h' tk acc' c' hk hD hI => ?_
  have tr := Trans.grownPut (t := tk) (o := lobj acc' c') st hk hD (get?_ge (Nat.le_refl _))
  refine ⟨_, σ, .list (rngItems n), tr, ?_, h⟩
  simp only [VH]
  refine ⟨_, acc', c', rfl, Fz.put_self _ _ _, VHs.of_get (by simp [rngItems, hI.1]) fun i mv u h1 h2 => ?_⟩
  have h2' : acc'[i]? = some u := by simpa using h2
  obtain ⟨t, rfl⟩ := hI.2 i u h2'
  have hi : i < n.toNat := by
    have := (List.getElem?_eq_some_iff.mp h1).1
    simpa [rngItems] using this
  have : mv = .int (i : Int) := by
    simp [rngItems, hi] at h1; exact h1.symm
  subst this
  simp only [VH]
  exact ⟨t, by simp⟩
theorem V_cat {xs ys : List MV} (hlen : xs.length + ys.length ≤ sizeLine) (h : Q (.list (xs ++ ys)) σ) : WV2 X A (binaryOp .Add) (.list xs) (.list ys) σ Q := by
  rintro F s v u st hv hu
  obtain ⟨a, items, n, rfl, hf, hl, hx⟩ := hv.listAt st
  obtain ⟨b, items2, n2, rfl, hf2, hl2, hx2⟩ := hu.listAt st
  have e1 := hx.length
  have e2 := hx2.length
  simp only [Array.length_toList] at e1 e2
  refine concat_meets ⟨_, st.fz _ _ hf, rfl⟩ ⟨_, st.fz _ _ hf2, rfl⟩ noFill_list_add seq_list_add PySem.F.slot_list_add PySem.F.entry_list_add (PySem.F.args_list_add_2 _ _) (list_addW a b items items2 n n2 none none #[] #[] (by omega)) ⟨st.fz _ _ hf, st.fz _ _ hf2, ?_⟩
  have tr := Trans.alloc st (lobj (items ++ items2) 0) rfl s.toks
  refine ⟨_, σ, .list (xs ++ ys), tr, ?_, h⟩
  simp only [VH]
  refine ⟨_, _, 0, rfl, Fz.put_self _ _ _, VHs.mono (Fz.le_put st.freshSize.1) ?_⟩
  rw [Array.toList_append]
  exact hx.append hx2
theorem T_range {n : Int} (h : Q (.rng n) σ) : WCv X A (.type "range") [.int n] σ Q := by
  rintro F s vs st hv
  simp only [VHs, VH] at hv
  obtain ⟨v, _, rfl, ⟨t, rfl⟩, rfl⟩ := hv
  refine call_range_1 ?_
  have tr := Trans.alloc st (robj n s.toks t (s.toks + 1)) rfl (s.toks + 1 + 1)
  refine ⟨_, σ, .rng n, tr, ?_, h⟩
  simp only [VH]
  exact ⟨_, _, _, _, rfl, Fz.put_self _ _ _⟩
theorem B_isStr {a : MV} {b : Bool} (ha : match a with | .str _ => b = true | .int _ => b = false | _ => False) (h : Q (.bool b) σ) : WCv X A (.builtin "isinstance") [a, .raw (.type "str")] σ Q := by
  rintro F s vs st hv
  simp only [VHs, VH] at hv
  obtain ⟨v, _, rfl, hv, u, _, rfl, rfl, rfl⟩ := hv
  cases a <;> simp only at ha
  · simp only [VH] at hv; obtain ⟨t, rfl⟩ := hv; subst ha
    exact IsiPair.int_str (.tk st (by simp only [VH]) h)
  · simp only [VH] at hv; obtain ⟨t, rfl⟩ := hv; subst ha
    exact IsiPair.str_str (.now st (by simp only [VH]) h)
end
end Mine
end
section
open PySem PySem.W PyProof.Rows PySem.Calls
set_option Elab.async false
set_option maxRecDepth 100000
set_option linter.unusedVariables false
namespace Mine

structure FnRest where
  doc : Value
  pm : Value
  an : Option Addr
  code : Value
  ct : Value
def fdZ (st : Stmt) (q : Str) (d : Value) (z : FnRest) : FuncData := fdOf st q d z.doc z.pm z.an z.code z.ct
def fEnv (st : Stmt) (q : Str) (d : Value) (a : Addr) (z : FnRest) (L : Addr) : Env := callEnvC (fdZ st q d z) L a

def retQ (Q : MV → MHeap → Prop) : MF → MEnv → MHeap → Prop
  | .ret mv, _, σ' => Q mv σ'
  | .next, _, σ' => Q .none σ'
  | _, _, _ => False

/-- room for calls, C frames, no exception in hand -/
structure AOk (n : Nat) (A : Around) : Prop where
  depth : A.depth + n < recursionLimit
  units : A.units + 64 + 8 * n < cLine
  handled : A.handled = none
theorem AOk.deeper {n : Nat} {A : Around} {env : Env} (h : AOk (n + 1) A) : AOk n (A.deeper env) := by
  refine ⟨?_, ?_, h.handled⟩
  · have := h.depth; show A.depth + 1 + n < _; omega
  · have := h.units; show A.units + 3 + 64 + 8 * n < _; omega
theorem AOk.less {n m : Nat} {A : Around} (h : AOk n A) (hm : m ≤ n) : AOk m A :=
  ⟨by have := h.depth; omega, by have := h.units; omega, h.handled⟩

section
variable {X : Cx} {A : Around} {σ : MHeap} {Q : MV → MHeap → Prop}

theorem WBind_pure {fd : FuncData} {args : List MV} {ps : List Str} (h : ∀ vs : List Value, vs.length = args.length → bindArgs fd ⟨vs, []⟩ = pure (ps.zip vs)) : WBind X A fd args ps args σ := by
  intro F s vs st hv
  rw [h vs hv.length]
  exact wpAny_pure ⟨F, vs, .refl st, rfl, hv⟩

theorem WCall_fn {n : Nat} (hX : X.Ok) (hA : AOk n A) {a : Addr} {st : Stmt} {q : Str} {d : Value} {args args' : List MV} {ps : List Str} (hf : FnAt X a st q d)
    (hb : ∀ z, WBind X A (fdZ st q d z) args ps args' σ) (hnd : ps.Nodup) (hp : ∀ z, ps.all (paramOk (fdZ st q d z)) = true)
    (h : ∀ z L, WS X (A.deeper (fEnv st q d a z L)) (fEnv st q d a z L) (fBody st) (ps.zip args') σ (retQ Q))
    (hco : (fScope st).isCoroutine = false := by rfl) (hgen : (fScope st).isGenerator = false := by rfl) (hk : (fScope st).kind = .function := by rfl) : WCall X A a args σ Q := by
  obtain ⟨o, doc, pm, an, code, ct, ho, hd, hcd⟩ := hf
  refine WCall_def (fd := fdZ st q d ⟨doc, pm, an, code, ct⟩) (by have := hA.depth; omega) ho hd hX.lim hcd rfl rfl rfl rfl (hb ⟨doc, pm, an, code, ct⟩) hnd (hp _) (fun L => ?_) hco hgen hk
  refine (h ⟨doc, pm, an, code, ct⟩ L).mono ?_
  intro mf φ' σ' hq
  cases mf <;> exact hq
theorem len1 {vs : List Value} (h : vs.length = 1) : ∃ v, vs = [v] := by
  match vs, h with
  | [v], _ => exact ⟨v, rfl⟩
theorem WCall1 {n : Nat} (hX : X.Ok) (hA : AOk n A) {a : Addr} {st : Stmt} {q : Str} {t : MV} (x : Str) (hf : FnAt X a st q .none)
    (hb : ∀ z v, bindArgs (fdZ st q .none z) ⟨[v], []⟩ = pure [(x, v)]) (hp : ∀ z, [x].all (paramOk (fdZ st q .none z)) = true)
    (h : ∀ z L, WS X (A.deeper (fEnv st q .none a z L)) (fEnv st q .none a z L) (fBody st) [(x, t)] σ (retQ Q))
    (hco : (fScope st).isCoroutine = false := by rfl) (hgen : (fScope st).isGenerator = false := by rfl) (hk : (fScope st).kind = .function := by rfl) : WCall X A a [t] σ Q :=
  WCall_fn hX hA hf (ps := [x]) (fun z => WBind_pure fun vs hl => by obtain ⟨v, rfl⟩ := len1 hl; exact hb z v) (by simp) hp h hco hgen hk
end

section
variable {X : Cx} (hX : X.Ok)
include hX
theorem gl_isinstance : GlobIs X "isinstance" (.builtin "isinstance") := globB hX (by kernel_rfl) (by kernel_rfl) (by decide)
theorem gl_str : GlobIs X "str" (.type "str") := globB hX (by kernel_rfl) (by kernel_rfl) (by decide)
theorem gl_ord : GlobIs X "ord" (.builtin "ord") := globB hX (by kernel_rfl) (by kernel_rfl) (by decide)
theorem gl_chr : GlobIs X "chr" (.builtin "chr") := globB hX (by kernel_rfl) (by kernel_rfl) (by decide)
theorem gl_range : GlobIs X "range" (.type "range") := globB hX (by kernel_rfl) (by kernel_rfl) (by decide)
theorem gl_ctoi : GlobIs X "_ctoi" (.ref 148) := globK hX (by kernel_rfl)
theorem gl_isupper : GlobIs X "isupper" (.ref 232) := globK hX (by kernel_rfl)
end

def isThing : MV → Prop
  | .int _ => True
  | .str s => s.length = 1
  | _ => False
def code : MV → Int
  | .int i => i
  | .str s => (s.cps.getD 0 0 : Nat)
  | _ => 0

section
variable {X : Cx} {A : Around} {σ : MHeap} {Q : MV → MHeap → Prop}
theorem ctoi_spec (hX : X.Ok) (hA : AOk 1 A) {t : MV} (ht : isThing t) (h : Q (.int (code t)) σ) : WCall X A 148 [t] σ Q := by
  refine WCall1 hX hA "c" (fn_ctoi hX) (fun z v => by kernel_rfl) (fun z => by kernel_rfl) (fun z L => ?_)
  refine WS_cons (WS1_if ?_)
  refine WB_value (WE_callB (gl_isinstance hX) ?_)
  refine WL_cons (WE_name rfl (WL_cons (WE_glob (gl_str hX) (WL_nil ?_))))
  match t, ht with
  | .int i, _ =>
    refine B_isStr (b := false) rfl (Tr_bool ?_)
    refine WS_cons (WS1_return (WE_name rfl ?_))
    exact h
  | .str s, ht =>
    refine B_isStr (b := true) rfl (Tr_bool ?_)
    refine WS_cons (WS1_return (WE_callB (gl_ord hX) (WL_cons (WE_name rfl (WL_nil (B_ord ht ?_))))))
    exact h
theorem isupper_spec (hX : X.Ok) (hA : AOk 2 A) {t : MV} (ht : isThing t) (h : Q (.bool (decide (65 ≤ code t) && decide (code t ≤ 90))) σ) : WCall X A 232 [t] σ Q := by
  refine WCall1 hX hA "c" (fn_isupper hX) (fun z v => by kernel_rfl) (fun z => by kernel_rfl) (fun z L => ?_)
  refine WS_cons (WS1_return ?_)
  refine WE_chain (WE_int (WE_callF (gl_ctoi hX) (fn_ctoi hX) (WL_cons (WE_name rfl (WL_nil (ctoi_spec hX hA.deeper ht ?_))))))
  refine V_le (Tr_bool ⟨rfl, ?_⟩)
  cases hd : decide (65 ≤ code t) with
  | false => rw [hd] at h; exact h
  | true => rw [hd] at h; exact WE_int (V_le h)
end
end Mine
end
section
open PySem PySem.W PyProof.Rows PySem.Calls
set_option Elab.async false
set_option maxRecDepth 100000
set_option linter.unusedVariables false
namespace Mine
section
variable {X : Cx} (hX : X.Ok)
include hX
theorem gl_isalnum : GlobIs X "isalnum" (.ref 155) := globK hX (by kernel_rfl)
theorem gl_isalpha : GlobIs X "isalpha" (.ref 162) := globK hX (by kernel_rfl)
theorem gl_isascii : GlobIs X "isascii" (.ref 169) := globK hX (by kernel_rfl)
theorem gl_isblank : GlobIs X "isblank" (.ref 176) := globK hX (by kernel_rfl)
theorem gl_iscntrl : GlobIs X "iscntrl" (.ref 183) := globK hX (by kernel_rfl)
theorem gl_isdigit : GlobIs X "isdigit" (.ref 190) := globK hX (by kernel_rfl)
theorem gl_isgraph : GlobIs X "isgraph" (.ref 197) := globK hX (by kernel_rfl)
theorem gl_islower : GlobIs X "islower" (.ref 204) := globK hX (by kernel_rfl)
theorem gl_isprint : GlobIs X "isprint" (.ref 211) := globK hX (by kernel_rfl)
theorem gl_ispunct : GlobIs X "ispunct" (.ref 218) := globK hX (by kernel_rfl)
theorem gl_isspace : GlobIs X "isspace" (.ref 225) := globK hX (by kernel_rfl)
theorem gl_isxdigit : GlobIs X "isxdigit" (.ref 239) := globK hX (by kernel_rfl)
theorem gl_isctrl : GlobIs X "isctrl" (.ref 246) := globK hX (by kernel_rfl)
theorem gl_ismeta : GlobIs X "ismeta" (.ref 253) := globK hX (by kernel_rfl)
end
def between (lo hi c : Int) : Bool := decide (lo ≤ c) && decide (c ≤ hi)
def jUpper (c : Int) : Bool := between 65 90 c
def jLower (c : Int) : Bool := between 97 122 c
def jDigit (c : Int) : Bool := between 48 57 c
def jGraph (c : Int) : Bool := between 33 126 c
def jPrint (c : Int) : Bool := between 32 126 c
def jAscii (c : Int) : Bool := between 0 127 c
def jAlpha (c : Int) : Bool := jUpper c || jLower c
def jAlnum (c : Int) : Bool := jAlpha c || jDigit c
def jBlank (c : Int) : Bool := [9, 32].any (· == c)
def jSpace (c : Int) : Bool := [9, 10, 11, 12, 13, 32].any (· == c)
def jCntrl (c : Int) : Bool := between 0 31 c || (c == 127)
def jCtrl (c : Int) : Bool := decide (0 ≤ c) && decide (c < 32)
def jMeta (c : Int) : Bool := decide (127 < c)
def jPunct (c : Int) : Bool := jGraph c && !jAlnum c
def jXdigit (c : Int) : Bool := jDigit c || (between 65 70 c || between 97 102 c)
section
variable {X : Cx} {A : Around} {env : Env} {φ : MEnv} {σ : MHeap} {Q : MV → MHeap → Prop}
theorem WE_ctoi (hX : X.Ok) (hA : AOk 1 A) {t : MV} {p pos pc : Pos} (ht : isThing t) (hc : φ.lookup ("c" : Str) = some t) (h : Q (.int (code t)) σ) (hk : env.kindOf ("_ctoi" : Str) = some .globalImplicit := by rfl) : WE X A env (.Call (.Name "_ctoi" p) [.Name "c" pc] [] pos) φ σ Q :=
  WE_callF (gl_ctoi hX) (fn_ctoi hX) (WL_cons (WE_name hc (WL_nil (ctoi_spec hX hA ht h)))) rfl hk
theorem WE_between (hX : X.Ok) (hA : AOk 1 A) {t : MV} {lo hi : Int} {k k' : Nat} {q1 q2 p pos pc cp : Pos} (ht : isThing t) (hc : φ.lookup ("c" : Str) = some t) (h : Q (.bool (between lo hi (code t))) σ) (hk : env.kindOf ("_ctoi" : Str) = some .globalImplicit := by rfl) :
    WE X A env (.Compare (.Constant (.int lo) k q1) [.LtE, .LtE] [.Call (.Name "_ctoi" p) [.Name "c" pc] [] pos, .Constant (.int hi) k' q2] cp) φ σ Q := by
  refine WE_chain (WE_int (WE_ctoi hX hA ht hc (V_le (Tr_bool ⟨rfl, ?_⟩)) hk))
  unfold between at h
  cases hd : decide (lo ≤ code t) with
  | false => rw [hd] at h; exact h
  | true => rw [hd] at h; exact WE_int (V_le h)
theorem isascii_spec (hX : X.Ok) (hA : AOk 2 A) {t : MV} (ht : isThing t) (h : Q (.bool (jAscii (code t))) σ) : WCall X A 169 [t] σ Q := by
  refine WCall1 hX hA "c" (fn_isascii hX) (fun z v => by kernel_rfl) (fun z => by kernel_rfl) (fun z L => ?_)
  exact WS_cons (WS1_return (WE_between hX hA.deeper ht rfl h))
theorem isdigit_spec (hX : X.Ok) (hA : AOk 2 A) {t : MV} (ht : isThing t) (h : Q (.bool (jDigit (code t))) σ) : WCall X A 190 [t] σ Q := by
  refine WCall1 hX hA "c" (fn_isdigit hX) (fun z v => by kernel_rfl) (fun z => by kernel_rfl) (fun z L => ?_)
  exact WS_cons (WS1_return (WE_between hX hA.deeper ht rfl h))
theorem isgraph_spec (hX : X.Ok) (hA : AOk 2 A) {t : MV} (ht : isThing t) (h : Q (.bool (jGraph (code t))) σ) : WCall X A 197 [t] σ Q := by
  refine WCall1 hX hA "c" (fn_isgraph hX) (fun z v => by kernel_rfl) (fun z => by kernel_rfl) (fun z L => ?_)
  exact WS_cons (WS1_return (WE_between hX hA.deeper ht rfl h))
theorem islower_spec (hX : X.Ok) (hA : AOk 2 A) {t : MV} (ht : isThing t) (h : Q (.bool (jLower (code t))) σ) : WCall X A 204 [t] σ Q := by
  refine WCall1 hX hA "c" (fn_islower hX) (fun z v => by kernel_rfl) (fun z => by kernel_rfl) (fun z L => ?_)
  exact WS_cons (WS1_return (WE_between hX hA.deeper ht rfl h))
theorem isprint_spec (hX : X.Ok) (hA : AOk 2 A) {t : MV} (ht : isThing t) (h : Q (.bool (jPrint (code t))) σ) : WCall X A 211 [t] σ Q := by
  refine WCall1 hX hA "c" (fn_isprint hX) (fun z v => by kernel_rfl) (fun z => by kernel_rfl) (fun z L => ?_)
  exact WS_cons (WS1_return (WE_between hX hA.deeper ht rfl h))
theorem isblank_spec (hX : X.Ok) (hA : AOk 2 A) {t : MV} (ht : isThing t) (h : Q (.bool (jBlank (code t))) σ) : WCall X A 176 [t] σ Q := by
  refine WCall1 hX hA "c" (fn_isblank hX) (fun z v => by kernel_rfl) (fun z => by kernel_rfl) (fun z L => ?_)
  refine WS_cons (WS1_return (WE_compare (WE_ctoi hX hA.deeper ht rfl (WE_tuple (WL_cons (WE_int (WL_cons (WE_int (WL_nil ?_)))))))))
  exact ⟨by decide, V_inTup (ns := [9, 32]) h⟩
theorem isspace_spec (hX : X.Ok) (hA : AOk 2 A) {t : MV} (ht : isThing t) (h : Q (.bool (jSpace (code t))) σ) : WCall X A 225 [t] σ Q := by
  refine WCall1 hX hA "c" (fn_isspace hX) (fun z v => by kernel_rfl) (fun z => by kernel_rfl) (fun z L => ?_)
  refine WS_cons (WS1_return (WE_compare (WE_ctoi hX hA.deeper ht rfl (WE_tuple (WL_cons (WE_int (WL_cons (WE_int (WL_cons (WE_int (WL_cons (WE_int (WL_cons (WE_int (WL_cons (WE_int (WL_nil ?_)))))))))))))))))
  exact ⟨by decide, V_inTup (ns := [9, 10, 11, 12, 13, 32]) h⟩
theorem isalpha_spec (hX : X.Ok) (hA : AOk 3 A) {t : MV} (ht : isThing t) (h : Q (.bool (jAlpha (code t))) σ) : WCall X A 162 [t] σ Q := by
  refine WCall1 hX hA "c" (fn_isalpha hX) (fun z v => by kernel_rfl) (fun z => by kernel_rfl) (fun z L => ?_)
  refine WS_cons (WS1_return (WE_boolop (WBo_or (WE_callF (gl_isupper hX) (fn_isupper hX) (WL_cons (WE_name rfl (WL_nil (isupper_spec hX hA.deeper ht (Tr_bool ?_)))))))))
  have h' : Q (.bool (jUpper (code t) || jLower (code t))) σ := h
  cases hd : jUpper (code t) with
  | true => rw [hd] at h'; unfold jUpper between at hd; rw [hd]; exact ⟨rfl, h'⟩
  | false =>
    rw [hd] at h'; unfold jUpper between at hd; rw [hd]
    exact ⟨rfl, WBo_last (WE_callF (gl_islower hX) (fn_islower hX) (WL_cons (WE_name rfl (WL_nil (islower_spec hX hA.deeper ht h')))))⟩
theorem isalnum_spec (hX : X.Ok) (hA : AOk 4 A) {t : MV} (ht : isThing t) (h : Q (.bool (jAlnum (code t))) σ) : WCall X A 155 [t] σ Q := by
  refine WCall1 hX hA "c" (fn_isalnum hX) (fun z v => by kernel_rfl) (fun z => by kernel_rfl) (fun z L => ?_)
  refine WS_cons (WS1_return (WE_boolop (WBo_or (WE_callF (gl_isalpha hX) (fn_isalpha hX) (WL_cons (WE_name rfl (WL_nil (isalpha_spec hX hA.deeper ht (Tr_bool ?_)))))))))
  have h' : Q (.bool (jAlpha (code t) || jDigit (code t))) σ := h
  cases hd : jAlpha (code t) with
  | true => rw [hd] at h'; exact ⟨rfl, h'⟩
  | false =>
    rw [hd] at h'
    exact ⟨rfl, WBo_last (WE_callF (gl_isdigit hX) (fn_isdigit hX) (WL_cons (WE_name rfl (WL_nil (isdigit_spec hX (hA.deeper.less (by omega)) ht h')))))⟩
theorem ispunct_spec (hX : X.Ok) (hA : AOk 5 A) {t : MV} (ht : isThing t) (h : Q (.bool (jPunct (code t))) σ) : WCall X A 218 [t] σ Q := by
  refine WCall1 hX hA "c" (fn_ispunct hX) (fun z v => by kernel_rfl) (fun z => by kernel_rfl) (fun z L => ?_)
  refine WS_cons (WS1_return (WE_boolop (WBo_and (WE_callF (gl_isgraph hX) (fn_isgraph hX) (WL_cons (WE_name rfl (WL_nil (isgraph_spec hX (hA.deeper.less (by omega)) ht (Tr_bool ?_)))))))))
  have h' : Q (.bool (jGraph (code t) && !jAlnum (code t))) σ := h
  cases hd : jGraph (code t) with
  | false => rw [hd] at h'; exact ⟨rfl, h'⟩
  | true =>
    rw [hd] at h'
    exact ⟨rfl, WBo_last (WE_not (WE_callF (gl_isalnum hX) (fn_isalnum hX) (WL_cons (WE_name rfl (WL_nil (isalnum_spec hX hA.deeper ht (Tr_bool h')))))))⟩
theorem iscntrl_spec (hX : X.Ok) (hA : AOk 2 A) {t : MV} (ht : isThing t) (h : Q (.bool (jCntrl (code t))) σ) : WCall X A 183 [t] σ Q := by
  refine WCall1 hX hA "c" (fn_iscntrl hX) (fun z v => by kernel_rfl) (fun z => by kernel_rfl) (fun z L => ?_)
  refine WS_cons (WS1_return (WE_boolop (WBo_or (WE_between hX hA.deeper ht rfl (Tr_bool ?_)))))
  have h' : Q (.bool (between 0 31 (code t) || (code t == 127))) σ := h
  cases hd : between 0 31 (code t) with
  | true => rw [hd] at h'; exact ⟨rfl, h'⟩
  | false => rw [hd] at h'; exact ⟨rfl, WBo_last (WE_compare (WE_ctoi hX hA.deeper ht rfl (WE_int (V_eq h'))))⟩
theorem isxdigit_spec (hX : X.Ok) (hA : AOk 3 A) {t : MV} (ht : isThing t) (h : Q (.bool (jXdigit (code t))) σ) : WCall X A 239 [t] σ Q := by
  refine WCall1 hX hA "c" (fn_isxdigit hX) (fun z v => by kernel_rfl) (fun z => by kernel_rfl) (fun z L => ?_)
  refine WS_cons (WS1_return (WE_boolop (WBo_or (WE_callF (gl_isdigit hX) (fn_isdigit hX) (WL_cons (WE_name rfl (WL_nil (isdigit_spec hX hA.deeper ht (Tr_bool ?_)))))))))
  have h' : Q (.bool (jDigit (code t) || (between 65 70 (code t) || between 97 102 (code t)))) σ := h
  cases hd : jDigit (code t) with
  | true => rw [hd] at h'; exact ⟨rfl, h'⟩
  | false =>
    rw [hd] at h'
    refine ⟨rfl, WBo_or (WE_between hX (hA.deeper.less (by omega)) ht rfl (Tr_bool ?_))⟩
    cases hd2 : between 65 70 (code t) with
    | true => rw [hd2] at h'; exact ⟨rfl, h'⟩
    | false => rw [hd2] at h'; exact ⟨rfl, WBo_last (WE_between hX (hA.deeper.less (by omega)) ht rfl h')⟩
theorem isctrl_spec (hX : X.Ok) (hA : AOk 2 A) {t : MV} (ht : isThing t) (h : Q (.bool (jCtrl (code t))) σ) : WCall X A 246 [t] σ Q := by
  refine WCall1 hX hA "c" (fn_isctrl hX) (fun z v => by kernel_rfl) (fun z => by kernel_rfl) (fun z L => ?_)
  refine WS_cons (WS1_return (WE_chain (WE_int (WE_ctoi hX hA.deeper ht rfl (V_le (Tr_bool ⟨rfl, ?_⟩))))))
  have h' : Q (.bool (decide (0 ≤ code t) && decide (code t < 32))) σ := h
  cases hd : decide (0 ≤ code t) with
  | false => rw [hd] at h'; exact h'
  | true => rw [hd] at h'; exact WE_int (V_lt h')
theorem ismeta_spec (hX : X.Ok) (hA : AOk 2 A) {t : MV} (ht : isThing t) (h : Q (.bool (jMeta (code t))) σ) : WCall X A 253 [t] σ Q := by
  refine WCall1 hX hA "c" (fn_ismeta hX) (fun z v => by kernel_rfl) (fun z => by kernel_rfl) (fun z L => ?_)
  exact WS_cons (WS1_return (WE_compare (WE_ctoi hX hA.deeper ht rfl (WE_int (V_gt h)))))

def jAddr : List Addr := [155, 162, 169, 176, 183, 246, 190, 197, 204, 253, 211, 218, 225, 232, 239]
def jF (j : Nat) (c : Int) : Bool := match j with
  | 0 => jAlnum c | 1 => jAlpha c | 2 => jAscii c | 3 => jBlank c | 4 => jCntrl c | 5 => jCtrl c | 6 => jDigit c | 7 => jGraph c
  | 8 => jLower c | 9 => jMeta c | 10 => jPrint c | 11 => jPunct c | 12 => jSpace c | 13 => jUpper c | _ => jXdigit c
theorem judge_spec (hX : X.Ok) (hA : AOk 5 A) {t : MV} (ht : isThing t) {j : Nat} {a : Addr} (hj : jAddr[j]? = some a) (h : Q (.bool (jF j (code t))) σ) : WCall X A a [t] σ Q := by
  have h2 : AOk 2 A := hA.less (by omega)
  have h3 : AOk 3 A := hA.less (by omega)
  have h4 : AOk 4 A := hA.less (by omega)
  match j, hj with
  | 0, hj => cases hj; exact isalnum_spec hX h4 ht h
  | 1, hj => cases hj; exact isalpha_spec hX h3 ht h
  | 2, hj => cases hj; exact isascii_spec hX h2 ht h
  | 3, hj => cases hj; exact isblank_spec hX h2 ht h
  | 4, hj => cases hj; exact iscntrl_spec hX h2 ht h
  | 5, hj => cases hj; exact isctrl_spec hX h2 ht h
  | 6, hj => cases hj; exact isdigit_spec hX h2 ht h
  | 7, hj => cases hj; exact isgraph_spec hX h2 ht h
  | 8, hj => cases hj; exact islower_spec hX h2 ht h
  | 9, hj => cases hj; exact ismeta_spec hX h2 ht h
  | 10, hj => cases hj; exact isprint_spec hX h2 ht h
  | 11, hj => cases hj; exact ispunct_spec hX hA ht h
  | 12, hj => cases hj; exact isspace_spec hX h2 ht h
  | 13, hj => cases hj; exact isupper_spec hX h2 ht h
  | 14, hj => cases hj; exact isxdigit_spec hX h3 ht h
  | n + 15, hj => simp [jAddr] at hj
end
end Mine
end
section
open PySem PySem.W PyProof.Rows PySem.Calls
set_option Elab.async false
set_option maxRecDepth 100000
set_option linter.unusedVariables false
namespace Mine
section
variable {X : Cx} {A : Around} {env : Env} {φ : MEnv} {σ : MHeap}
/-- an expression that is evaluated to one value, and changes nothing -/
def EV (X : Cx) (A : Around) (env : Env) (e : Expr) (φ : MEnv) (σ : MHeap) (mv : MV) : Prop := ∀ Q : MV → MHeap → Prop, Q mv σ → WE X A env e φ σ Q
theorem EV.go {e : Expr} {mv : MV} {Q : MV → MHeap → Prop} (h : EV X A env e φ σ mv) (hq : Q mv σ) : WE X A env e φ σ Q := h Q hq
def EVo (X : Cx) (A : Around) (env : Env) (op : BoolOp) (es : List Expr) (φ : MEnv) (σ : MHeap) (b : Bool) : Prop := ∀ (pos : Pos) (Q : MV → MHeap → Prop), Q (.bool b) σ → WBo X A env pos op es φ σ Q
theorem EV_name {x : Str} {p : Pos} {mv : MV} (h : φ.lookup x = some mv) (hd : (x == ("__debug__" : Str)) = false := by decide) : EV X A env (.Name x p) φ σ mv := fun Q hq => WE_name h hq hd
theorem EV_bool {b : Bool} {k : Nat} {p : Pos} : EV X A env (.Constant (.bool b) k p) φ σ (.bool b) := fun Q hq => WE_bool hq
theorem EV_int {i : Int} {k : Nat} {p : Pos} : EV X A env (.Constant (.int i) k p) φ σ (.int i) := fun Q hq => WE_int hq
theorem EV_str {i : Str} {k : Nat} {p : Pos} : EV X A env (.Constant (.str i) k p) φ σ (.str i) := fun Q hq => WE_str hq
theorem EVo_last {op : BoolOp} {e : Expr} {b : Bool} (h : EV X A env e φ σ (.bool b)) : EVo X A env op [e] φ σ b := fun pos Q hq => WBo_last (h Q hq)
theorem EVo_or {e e' : Expr} {es : List Expr} {b b' : Bool} (h : EV X A env e φ σ (.bool b)) (h' : EVo X A env .Or (e' :: es) φ σ b') : EVo X A env .Or (e :: e' :: es) φ σ (b || b') := fun pos Q hq => by
  refine WBo_or (h _ (Tr_bool ?_))
  cases b with
  | true => exact ⟨rfl, hq⟩
  | false => exact ⟨rfl, h' pos Q hq⟩
theorem EVo_and {e e' : Expr} {es : List Expr} {b b' : Bool} (h : EV X A env e φ σ (.bool b)) (h' : EVo X A env .And (e' :: es) φ σ b') : EVo X A env .And (e :: e' :: es) φ σ (b && b') := fun pos Q hq => by
  refine WBo_and (h _ (Tr_bool ?_))
  cases b with
  | false => exact ⟨rfl, hq⟩
  | true => exact ⟨rfl, h' pos Q hq⟩
theorem EV_boolop {op : BoolOp} {es : List Expr} {pos : Pos} {b : Bool} (h : EVo X A env op es φ σ b) : EV X A env (.BoolOp op es pos) φ σ (.bool b) := fun Q hq => WE_boolop (h pos Q hq)
theorem EV_not {e : Expr} {pos : Pos} {b : Bool} (h : EV X A env e φ σ (.bool b)) : EV X A env (.UnaryOp .Not e pos) φ σ (.bool !b) := fun Q hq => WE_not (h _ (Tr_bool hq))
theorem EV_cmp {l r : Expr} {op : CmpOp} {pos : Pos} {a b c : MV} (hl : EV X A env l φ σ a) (hr : EV X A env r φ σ b) (h : ∀ Q : MV → MHeap → Prop, Q c σ → WV2 X A (compareOp op) a b σ Q) (hm : behindInMarks op r = false := by with_unfolding_all rfl) :
    EV X A env (.Compare l [op] [r] pos) φ σ c := fun Q hq => WE_compare (hl _ (hr _ (h Q hq))) hm
theorem EV_bin {l r : Expr} {op : Operator} {pos : Pos} {a b c : MV} (hl : EV X A env l φ σ a) (hr : EV X A env r φ σ b) (h : ∀ Q : MV → MHeap → Prop, Q c σ → WV2 X A (binaryOp op) a b σ Q) :
    EV X A env (.BinOp l op r pos) φ σ c := fun Q hq => WE_binop (hl _ (hr _ (h Q hq)))
def starred : Expr → Bool
  | .Starred _ _ => true
  | _ => false
theorem starEach_cons {e : Expr} {es : List Expr} (h : starred e = false) : starEach (e :: es) env = (false, eval e env) :: starEach es env := by
  cases e <;> first | rfl | cases h
inductive EVs (X : Cx) (A : Around) (env : Env) (φ : MEnv) (σ : MHeap) : List Expr → List MV → Prop
  | nil : EVs X A env φ σ [] []
  | cons {e : Expr} {es : List Expr} {m : MV} {ms : List MV} : EV X A env e φ σ m → EVs X A env φ σ es ms → (hs : starred e = false := by rfl) → EVs X A env φ σ (e :: es) (m :: ms)
theorem EVs.wl {pos : Pos} : ∀ {es : List Expr} {ms : List MV}, EVs X A env φ σ es ms → ∀ {Q : List MV → MHeap → Prop}, Q ms σ → WL X A env pos es φ σ Q
  | _, _, .nil, Q, hq => WL_nil hq
  | _, _, .cons h r hs, Q, hq => WL_cons (h _ (r.wl hq)) (starEach_cons hs)
theorem szl {n : Nat} (h : Nat.ble n 1000 = true) : n ≤ sizeLine := Nat.le_trans (Nat.le_of_ble_eq_true h) (by decide)
theorem EV_list {es : List Expr} {ms : List MV} {pos : Pos} (h : EVs X A env φ σ es ms) (hl : ms.length ≤ sizeLine := by exact szl rfl) : EV X A env (.List es pos) φ σ (.list ms) := fun Q hq => WE_list (h.wl ⟨hl, hq⟩)
theorem EV_item {value slice : Expr} {pos : Pos} {xs : List MV} {k : Int} {mv : MV} (hv : EV X A env value φ σ (.list xs)) (hi : EV X A env slice φ σ (.int k)) (h0 : 0 ≤ k) (hx : xs[k.toNat]? = some mv) (hfit : k < 2 ^ 63) (hs : plainSub slice := by intro _ _; with_unfolding_all rfl) :
    EV X A env (.Subscript value slice pos) φ σ mv := fun Q hq => WE_item (hv _ (hi _ (V_item h0 hx hq hfit hs)))
theorem WB_ev {e : Expr} {b : Bool} {Q : Bool → MHeap → Prop} (h : EV X A env e φ σ (.bool b)) (hq : Q b σ) (he : isTrue e env (eval e env) = (do let v ← eval e env; standAt e.pos; holding [v] (truthy v)) := by rfl) : WB X A env e φ σ Q := WB_value (h _ (Tr_bool hq)) he
theorem WB_evCmp {l r : Expr} {op : CmpOp} {pos : Pos} {a b : MV} {c : Bool} {Q : Bool → MHeap → Prop} (hl : EV X A env l φ σ a) (hr : EV X A env r φ σ b) (h : ∀ Q : MV → MHeap → Prop, Q (.bool c) σ → WV2 X A (compareOp op) a b σ Q) (hq : Q c σ) (hm : behindInMarks op r = false := by with_unfolding_all rfl) :
    WB X A env (.Compare l [op] [r] pos) φ σ Q := WB_compare (hl _ (hr _ (h _ (Tr_bool hq)))) hm
end
end Mine
end
section
open PySem PySem.W PyProof.Rows PySem.Calls
set_option Elab.async false
set_option maxRecDepth 100000
set_option linter.unusedVariables false
namespace Mine
theorem fmod_bounds (c b : Int) (hb : 0 < b) : 0 ≤ c.fmod b ∧ c.fmod b < b := by
  rw [Int.fmod_eq_emod_of_nonneg c (by omega)]
  exact ⟨Int.emod_nonneg c (by omega), Int.emod_lt_of_pos c hb⟩
def thTab : List Int := [170, 178, 181, 192, 215, 223, 304, 321, 1632, 8195, 65313, 65601]
def thCode (c : Int) : Int := if 127 < c.fmod 140 then thTab.getD (c.fmod 140 - 128).toNat 0 else c.fmod 140
def lawThing (c : Int) : MV := if (c.fdiv 140).fmod 2 == 0 then .str ⟨#[(thCode c).toNat]⟩ else .int (thCode c)
theorem lawThing_ok (c : Int) : isThing (lawThing c) := by
  unfold lawThing
  split
  · rfl
  · trivial
theorem thTab_at {k : Int} (h0 : 0 ≤ k) (h1 : k < 12) : (thTab.map MV.int)[k.toNat]? = some (.int (thTab.getD k.toNat 0)) ∧ 0 ≤ thTab.getD k.toNat 0 ∧ thTab.getD k.toNat 0 ≤ 1114111 := by
  have : k = 0 ∨ k = 1 ∨ k = 2 ∨ k = 3 ∨ k = 4 ∨ k = 5 ∨ k = 6 ∨ k = 7 ∨ k = 8 ∨ k = 9 ∨ k = 10 ∨ k = 11 := by omega
  rcases this with rfl | rfl | rfl | rfl | rfl | rfl | rfl | rfl | rfl | rfl | rfl | rfl <;> exact ⟨rfl, by decide, by decide⟩
section
variable {X : Cx} {A : Around} {env : Env} {φ : MEnv} {σ : MHeap} {Q : MV → MHeap → Prop}
theorem thing_spec (hX : X.Ok) (hA : AOk 2 A) {c : Int} (h : Q (lawThing c) σ) : WCall X A 265 [.int c] σ Q := by
  refine WCall1 hX hA "cell" (fn_law_thing hX) (fun z v => by kernel_rfl) (fun z => by kernel_rfl) (fun z L => ?_)
  have hb := fmod_bounds c 140 (by decide)
  refine WS_cons (WS1_assign (EV_bin (EV_name rfl) EV_int (fun Q hq => V_mod (by decide) hq) _ ?_))
  -- the end, from either road
  have fin : ∀ φ' : MEnv, 0 ≤ thCode c → thCode c ≤ 1114111 → φ'.lookup ("cell" : Str) = some (.int c) → φ'.lookup ("code" : Str) = some (.int (thCode c)) →
      WS X (A.deeper (fEnv (top 26) "_law_thing" .none 265 z L)) (fEnv (top 26) "_law_thing" .none 265 z L) ((fBody (top 26)).drop 2) φ' σ (retQ Q) := by
    intro φ' h0 h1 hc hcode
    refine WS_cons (WS1_if (WB_evCmp (c := (c.fdiv 140).fmod 2 == 0) (EV_bin (EV_bin (EV_name hc) EV_int (fun Q hq => V_div (by decide) (PyProof.noPylong_small (by decide)) hq)) EV_int (fun Q hq => V_mod (by decide) hq)) EV_int (fun Q hq => V_eq hq) ?_))
    unfold lawThing at h
    cases hd : (c.fdiv 140).fmod 2 == 0 with
    | true =>
      rw [hd] at h
      exact WS_cons (WS1_return (WE_callB (gl_chr hX) (WL_cons (WE_name hcode (WL_nil (B_chr h0 h1 h))))))
    | false =>
      rw [hd] at h
      exact WS_nil (WS_cons (WS1_return (WE_name hcode h)))
  refine WS_cons (WS1_if (WB_evCmp (c := decide (127 < c.fmod 140)) (EV_name rfl) EV_int (fun Q hq => V_gt hq) ?_))
  cases hd : decide (127 < c.fmod 140) with
  | true =>
    have hlt : 127 < c.fmod 140 := of_decide_eq_true hd
    obtain ⟨t1, t2, t3⟩ := thTab_at (k := c.fmod 140 - 128) (by omega) (by omega)
    have hcode : thCode c = thTab.getD (c.fmod 140 - 128).toNat 0 := by unfold thCode; rw [if_pos hlt]
    refine WS_cons ?_
    refine WS1_assign ?_ ?h1 ?h2
    case h1 => rfl
    case h2 => rfl
    refine WE_item ?_
    refine (?x : EV _ _ _ _ _ _ (.list (thTab.map .int))) _ ?_
    case x =>
      refine EV_list ?e ?hl
      case hl => exact szl rfl
      case e =>
        refine .cons EV_int ?_
        repeat (first | exact .nil | refine .cons EV_int ?_)
    refine EV_bin (EV_name rfl) EV_int (fun Q hq => V_sub hq) _ ?_
    refine V_item (k := c.fmod 140 - 128) ?a t1 ?_ ?b ?c
    case a => omega
    case b => omega
    case c => intro _ _; rfl
    refine WS_nil (fin _ (hcode ▸ t2) (hcode ▸ t3) rfl ?_)
    rw [hcode]; rfl
  | false =>
    have hnl : ¬ 127 < c.fmod 140 := of_decide_eq_false hd
    have hcode : thCode c = c.fmod 140 := by unfold thCode; rw [if_neg hnl]
    refine WS_nil (fin _ (by omega) (by omega) rfl ?_)
    rw [hcode]; rfl
end
end Mine
end
section
open PySem PySem.W PyProof.Rows PySem.Calls
set_option Elab.async false
set_option maxRecDepth 100000
set_option linter.unusedVariables false
namespace Mine
section
variable {X : Cx} {A : Around} {env : Env} {φ : MEnv} {σ : MHeap} {Q : MV → MHeap → Prop}
theorem V_eqStr {x y : Str} (h : Q (.bool (x == y)) σ) : WV2 X A (compareOp .Eq) (.str x) (.str y) σ Q := by
  rintro F s v u st hv hu; simp only [VH] at hv hu; obtain ⟨t, rfl⟩ := hv; obtain ⟨t', rfl⟩ := hu
  exact PyProof.Rows.eq_str (.now st (by simp only [VH]) h)
theorem V_neStr {x y : Str} (h : Q (.bool (x.cps.toList != y.cps.toList)) σ) : WV2 X A (compareOp .NotEq) (.str x) (.str y) σ Q := by
  rintro F s v u st hv hu; simp only [VH] at hv hu; obtain ⟨t, rfl⟩ := hv; obtain ⟨t', rfl⟩ := hu
  exact P.ne_str (.now st (by simp only [VH]) h)

def sgn (n : Nat) : Str := ⟨#[n]⟩
def inT (x : Str) (n : Nat) : Bool := decide (n ∈ x.cps.toList)
theorem inT_eq (x : Str) (n : Nat) : Txt.contains x (sgn n) = inT x n := StrLaws.found_one x n
def kFig (n : Nat) : Bool := inT "0123456789" n
def kSmall (n : Nat) : Bool := inT "abcdefghijklmnopqrstuvwxyz" n
def kGreat (n : Nat) : Bool := inT "ABCDEFGHIJKLMNOPQRSTUVWXYZ" n
def kMark (n : Nat) : Bool := inT "!\"#$%&'()*+,-./:;<=>?\x40[\\]^_`{|}~" n
def kSeen (n : Nat) : Bool := kFig n || (kSmall n || (kGreat n || kMark n))
def kBools (n : Nat) : List Bool :=
  [kFig n || (kSmall n || kGreat n), kSmall n || kGreat n, true, inT "\t " n] ++
  [!kSeen n && ((sgn n).cps.toList != (" " : Str).cps.toList), !kSeen n && !inT " \x7f" n, kFig n, kSeen n, kSmall n, false] ++
  [kSeen n || (sgn n == (" " : Str)), kMark n, inT "\t\n\x0b\x0c\r " n, kGreat n, inT "0123456789abcdefABCDEF" n]
theorem kBools_ok : ∀ n, n < 128 → kBools n = (List.range 15).map fun j => jF j n := by
  have : (List.range 128).all (fun n => kBools n == (List.range 15).map fun j => jF j n) = true := by decide +kernel
  intro n hn
  have h := List.all_eq_true.mp this n (List.mem_range.mpr hn)
  exact eq_of_beq h
theorem V_inSgn {x : Str} {n : Nat} (h : Q (.bool (inT x n)) σ) : WV2 X A (compareOp .In) (.str (sgn n)) (.str x) σ Q := V_inStr (by rw [inT_eq]; exact h)
theorem V_notInSgn {x : Str} {n : Nat} (h : Q (.bool (!inT x n)) σ) : WV2 X A (compareOp .NotIn) (.str (sgn n)) (.str x) σ Q := V_notInStr (by rw [inT_eq]; exact h)

def kindsOf (t : MV) : MV := .list ((List.range 15).map fun j => .bool (jF j (code t)))

theorem jF_out {c : Int} (h : c < 0 ∨ 127 < c) : ∀ j, j < 15 → jF j c = (decide ((j : Int) = 9) && decide (127 < c)) := by
  intro j hj
  have : j = 0 ∨ j = 1 ∨ j = 2 ∨ j = 3 ∨ j = 4 ∨ j = 5 ∨ j = 6 ∨ j = 7 ∨ j = 8 ∨ j = 9 ∨ j = 10 ∨ j = 11 ∨ j = 12 ∨ j = 13 ∨ j = 14 := by omega
  rcases this with rfl | rfl | rfl | rfl | rfl | rfl | rfl | rfl | rfl | rfl | rfl | rfl | rfl | rfl | rfl <;>
    simp [jF, jAlnum, jAlpha, jUpper, jLower, jDigit, jAscii, jBlank, jCntrl, jCtrl, jGraph, jMeta, jPrint, jPunct, jSpace, jXdigit, between] <;> omega

theorem kinds_spec (hX : X.Ok) (hA : AOk 2 A) {t : MV} (ht : isThing t) (h : Q (kindsOf t) σ) : WCall X A 258 [t] σ Q := by
  refine WCall1 hX hA "thing" (fn_law_kinds hX) (fun z v => by kernel_rfl) (fun z => by kernel_rfl) (fun z L => ?_)
  -- behind the first two statements
  have rest : ∀ φ' : MEnv, φ'.lookup ("code" : Str) = some (.int (code t)) →
      WS X (A.deeper (fEnv (top 25) "_law_kinds" .none 258 z L)) (fEnv (top 25) "_law_kinds" .none 258 z L) ((fBody (top 25)).drop 2) φ' σ (retQ Q) := by
    intro φ' hcode
    have tail : (0 ≤ code t ∧ code t ≤ 127) → WS X (A.deeper (fEnv (top 25) "_law_kinds" .none 258 z L)) (fEnv (top 25) "_law_kinds" .none 258 z L) ((fBody (top 25)).drop 3) φ' σ (retQ Q) := by
      rintro ⟨h0, h1⟩
      obtain ⟨n, hn⟩ := Int.eq_ofNat_of_zero_le h0
      have hn' : n < 128 := by omega
      have hs : (⟨#[(code t).toNat]⟩ : Str) = sgn n := by rw [hn]; rfl
      refine WS_cons (WS1_assign (WE_callB (gl_chr hX) (WL_cons (WE_name hcode (WL_nil (B_chr h0 (by omega) ?_))))))
      rw [hs]
      refine WS_cons (WS1_assign (EV.go (EV_cmp (c := .bool (kFig n)) (EV_name rfl) EV_str (fun Q hq => V_inSgn hq)) ?_))
      refine WS_cons (WS1_assign (EV.go (EV_cmp (c := .bool (kSmall n)) (EV_name rfl) EV_str (fun Q hq => V_inSgn hq)) ?_))
      refine WS_cons (WS1_assign (EV.go (EV_cmp (c := .bool (kGreat n)) (EV_name rfl) EV_str (fun Q hq => V_inSgn hq)) ?_))
      refine WS_cons (WS1_assign (EV.go (EV_cmp (c := .bool (kMark n)) (EV_name rfl) EV_str (fun Q hq => V_inSgn hq)) ?_))
      refine WS_cons (WS1_assign (EV_boolop (b := kSeen n) (EVo_or (EV_name rfl) (EVo_or (EV_name rfl) (EVo_or (EV_name rfl) (EVo_last (EV_name rfl))))) _ ?_))
      refine WS_cons (WS1_assign (EV.go (EV_list (ms := [.bool (kFig n || (kSmall n || kGreat n)), .bool (kSmall n || kGreat n), .bool true, .bool (inT "\t " n)]) ?l1 ?k1) ?_))
      case l1 =>
        refine .cons (EV_boolop (EVo_or (EV_name rfl) (EVo_or (EV_name rfl) (EVo_last (EV_name rfl))))) ?_
        refine .cons (EV_boolop (EVo_or (EV_name rfl) (EVo_last (EV_name rfl)))) ?_
        refine .cons EV_bool ?_
        refine .cons (EV_cmp (EV_name rfl) EV_str (fun Q hq => V_inSgn hq)) ?_
        exact .nil
      case k1 => exact szl rfl
      refine WS_cons (WS1_assign (EV.go (EV_list (ms := [.bool (!kSeen n && ((sgn n).cps.toList != (" " : Str).cps.toList)), .bool (!kSeen n && !inT " \x7f" n), .bool (kFig n), .bool (kSeen n), .bool (kSmall n), .bool false]) ?l2 ?k2) ?_))
      case l2 =>
        refine .cons (EV_boolop (EVo_and (EV_not (EV_name rfl)) (EVo_last (EV_cmp (EV_name rfl) EV_str (fun Q hq => V_neStr hq))))) ?_
        refine .cons (EV_boolop (EVo_and (EV_not (EV_name rfl)) (EVo_last (EV_cmp (EV_name rfl) EV_str (fun Q hq => V_notInSgn hq))))) ?_
        refine .cons (EV_name rfl) ?_
        refine .cons (EV_name rfl) ?_
        refine .cons (EV_name rfl) ?_
        refine .cons EV_bool ?_
        exact .nil
      case k2 => exact szl rfl
      refine WS_cons (WS1_assign (EV.go (EV_list (ms := [.bool (kSeen n || (sgn n == (" " : Str))), .bool (kMark n), .bool (inT "\t\n\x0b\x0c\r " n), .bool (kGreat n), .bool (inT "0123456789abcdefABCDEF" n)]) ?l3 ?k3) ?_))
      case l3 =>
        refine .cons (EV_boolop (EVo_or (EV_name rfl) (EVo_last (EV_cmp (EV_name rfl) EV_str (fun Q hq => V_eqStr hq))))) ?_
        refine .cons (EV_name rfl) ?_
        refine .cons (EV_cmp (EV_name rfl) EV_str (fun Q hq => V_inSgn hq)) ?_
        refine .cons (EV_name rfl) ?_
        refine .cons (EV_cmp (EV_name rfl) EV_str (fun Q hq => V_inSgn hq)) ?_
        exact .nil
      case k3 => exact szl rfl
      refine WS_cons (WS1_return (WE_binop (WE_binop (WE_name rfl (WE_name rfl (V_cat (szl rfl) (WE_name rfl (V_cat (szl rfl) ?_))))))))
      have hk := kBools_ok n hn'
      have e : kindsOf t = .list ((kBools n).map .bool) := by
        unfold kindsOf
        rw [hk, List.map_map, hn]; rfl
      rw [e] at h
      exact h
    have out : (code t < 0 ∨ 127 < code t) → ∀ P : MF → MEnv → MHeap → Prop, P (.ret (kindsOf t)) φ' σ → WS X (A.deeper (fEnv (top 25) "_law_kinds" .none 258 z L)) (fEnv (top 25) "_law_kinds" .none 258 z L) ((match (fBody (top 25)).drop 2 with | .If _ b _ _ :: _ => b | _ => [])) φ' σ P := by
      intro ho P hP
      refine WS_cons (WS1_return ?_)
      refine WE_comp [("code", .int (code t))] (fun mv => match mv with | .int k => some (.bool ((k == 9) && decide (127 < code t))) | _ => none) ?_ ⟨hcode, by rfl, trivial⟩
      refine WE_callT (gl_range hX) (WL_cons (WE_int (WL_nil (T_range ?_))))
      refine ⟨_, _, iter_rng hA.handled (by decide), trivial, by decide, ?_, ?_⟩
      · intro C mv hmv
        obtain ⟨i, hi, rfl⟩ := List.mem_map.mp hmv
        refine ⟨_, rfl, ?_⟩
        refine EV_boolop (EVo_and (EV_cmp (EV_name rfl) EV_int (fun Q hq => V_eq hq)) (EVo_last (EV_cmp (EV_name rfl) EV_int (fun Q hq => V_gt hq)))) _ ⟨rfl, rfl⟩
      · have e : (rngItems 15).filterMap (fun mv => match mv with | .int k => some (MV.bool ((k == 9) && decide (127 < code t))) | _ => none) = (List.range 15).map fun j => MV.bool (jF j (code t)) := by
          unfold rngItems
          rw [List.filterMap_map]
          show (List.range 15).filterMap (fun i : Nat => some (MV.bool (((i : Int) == 9) && decide (127 < code t)))) = _
          have e1 : (fun i : Nat => some (MV.bool (((i : Int) == 9) && decide (127 < code t)))) = some ∘ (fun i : Nat => MV.bool (((i : Int) == 9) && decide (127 < code t))) := rfl
          rw [e1, List.filterMap_eq_map]
          refine List.map_congr_left fun j hj => ?_
          rw [jF_out ho j (List.mem_range.mp hj)]; rfl
        show P (.ret (.list _)) φ' σ
        rw [e]; exact hP
    refine WS_cons (WS1_if (WB_boolop (WAll_or (WB_evCmp (c := decide (code t < 0)) (EV_name hcode) EV_int (fun Q hq => V_lt hq) ?_))))
    cases h0 : decide (code t < 0) with
    | true => exact out (.inl (of_decide_eq_true h0)) _ h
    | false =>
      refine WAll_or (WB_evCmp (c := decide (127 < code t)) (EV_name hcode) EV_int (fun Q hq => V_gt hq) ?_)
      cases h1 : decide (127 < code t) with
      | true => exact out (.inr (of_decide_eq_true h1)) _ h
      | false =>
        have a0 := of_decide_eq_false h0
        have a1 := of_decide_eq_false h1
        exact WAll_or_nil (WS_nil (tail ⟨by omega, by omega⟩))
  refine WS_cons (WS1_assign (WE_name rfl ?_))
  refine WS_cons (WS1_if (WB_value (WE_callB (gl_isinstance hX) (WL_cons (WE_name rfl (WL_cons (WE_glob (gl_str hX) (WL_nil ?_))))))))
  match t, ht with
  | .int i, _ => exact B_isStr (b := false) rfl (Tr_bool (WS_nil (rest _ rfl)))
  | .str x, ht => exact B_isStr (b := true) rfl (Tr_bool (WS_cons (WS1_assign (WE_callB (gl_ord hX) (WL_cons (WE_name rfl (WL_nil (B_ord ht (WS_nil (rest _ rfl))))))))))
end
end Mine
end
section
open PySem PySem.W PyProof.Rows PySem.Calls
set_option Elab.async false
set_option maxRecDepth 100000
set_option linter.unusedVariables false
set_option linter.unusedSimpArgs false
namespace Mine
/-- a list that may change -/
def mlist (xs : List MV) : Desc := ⟨fun F o => ∃ items n, o = lobj items n ∧ VHs F xs items.toList, fun _ _ _ h ⟨items, n, e, hv⟩ => ⟨items, n, e, hv.mono h⟩⟩
def MHeap.put (σ : MHeap) (a : Addr) (d : Desc) : MHeap := fun b => if b = a then some d else σ b
def MHeap.del (σ : MHeap) (a : Addr) : MHeap := fun b => if b = a then none else σ b
theorem MHeap.put_self (σ : MHeap) (a : Addr) (d : Desc) : σ.put a d a = some d := by simp [MHeap.put]
theorem MHeap.put_ne {σ : MHeap} {a b : Addr} {d : Desc} (h : b ≠ a) : σ.put a d b = σ b := by simp [MHeap.put, h]
section
variable {X : Cx} {A : Around} {B : Base} {env : Env} {φ : MEnv} {σ : MHeap} {Q : MV → MHeap → Prop} {F : Fz} {s : Shared}
theorem Trans.mut {a : Addr} {d d' : Desc} {h' : Heap} {o' : Obj} {t : Nat} (st : St X F σ s) (ha : σ a = some d) (hs : Heap.ExtBut a s.heap h') (ho : h'.get? a = some o') (hd : d'.p F o') : Trans X F σ s F (σ.put a d') { s with heap := h', toks := t } where
  mono := Fz.le_refl _
  kp := fun b o e n => ⟨o, hs b o (by rintro rfl; rw [ha] at n; cases n) e, .refl o⟩
  dom := fun b n => .inl (by
    by_cases e : b = a
    · subst e; rw [MHeap.put_self]; exact Option.some_ne_none _
    · rw [MHeap.put_ne e]; exact n)
  newS := fun b n n' => by
    by_cases e : b = a
    · subst e; rw [ha] at n; cases n
    · rw [MHeap.put_ne e] at n'; exact absurd n n'
  newF := fun b n _ n' => absurd n n'
  st := {
    top := st.top
    fz := fun b o e => hs b o (by rintro rfl; rw [st.apart b (by rw [ha]; exact Option.some_ne_none _)] at e; cases e) (st.fz b o e)
    own := fun b x e => by
      by_cases q : b = a
      · subst q; rw [MHeap.put_self] at e; cases e; exact ⟨o', ho, hd⟩
      · rw [MHeap.put_ne q] at e
        obtain ⟨o, h1, h2⟩ := st.own b x e
        exact ⟨o, hs b o q h1, h2⟩
    apart := fun b n => by
      by_cases q : b = a
      · subst q; exact st.apart b (by rw [ha]; exact Option.some_ne_none _)
      · rw [MHeap.put_ne q] at n; exact st.apart b n
    gens := st.gens
    os := st.os
    frs := fun f hf => by
      obtain ⟨⟨x, es, n, hx, hd⟩, h1, h2⟩ := st.frs f hf
      have hne : f ≠ a := by rintro rfl; rw [ha] at h2; cases h2
      exact ⟨⟨x, es, n, hs f x hne hx, hd⟩, h1, by rw [MHeap.put_ne hne]; exact h2⟩ }
theorem Trans.allocM {o : Obj} {d : Desc} {t : Nat} (st : St X F σ s) (hf : o.isFreed = false) (hd : d.p F o) : Trans X F σ s F (σ.put s.heap.objs.size d) { s with heap := s.heap.push o, toks := t } where
  mono := Fz.le_refl _
  kp := fun b o e n => ⟨o, Heap.get?_push_of_some _ e, .refl o⟩
  dom := fun b n => .inl (by
    by_cases e : b = s.heap.objs.size
    · subst e; rw [MHeap.put_self]; exact Option.some_ne_none _
    · rw [MHeap.put_ne e]; exact n)
  newS := fun b n n' => by
    by_cases e : b = s.heap.objs.size
    · subst e; exact get?_ge (Nat.le_refl _)
    · rw [MHeap.put_ne e] at n'; exact absurd n n'
  newF := fun b n _ n' => absurd n n'
  st := {
    top := st.top
    fz := fun b o e => Heap.get?_push_of_some _ (st.fz b o e)
    own := fun b x e => by
      by_cases q : b = s.heap.objs.size
      · subst q; rw [MHeap.put_self] at e; cases e; exact ⟨o, Heap.get?_push_size _ hf, hd⟩
      · rw [MHeap.put_ne q] at e
        obtain ⟨o, h1, h2⟩ := st.own b x e
        exact ⟨o, Heap.get?_push_of_some _ h1, h2⟩
    apart := fun b n => by
      by_cases q : b = s.heap.objs.size
      · subst q; exact st.freshSize.1
      · rw [MHeap.put_ne q] at n; exact st.apart b n
    gens := st.gens
    os := st.os
    frs := fun f hf => by
      obtain ⟨⟨x, es, n, hx, hd⟩, h1, h2⟩ := st.frs f hf
      exact ⟨⟨x, es, n, Heap.get?_push_of_some _ hx, hd⟩, h1, by rw [MHeap.put_ne (Nat.ne_of_lt (get?_lt hx))]; exact h2⟩ }
/-- a list that may change any more is frozen -/
theorem Fm.freeze {a : Addr} {xs : List MV} (f : Fm X B env φ F σ s) (ha : σ a = some (mlist xs)) : ∃ F', Fm X B env φ F' (σ.del a) s ∧ F.le F' ∧ VH F' (.list xs) (.ref a) := by
  obtain ⟨o, ho, items, n, rfl, hv⟩ := f.st.own a _ ha
  have hna : σ a ≠ none := by rw [ha]; exact Option.some_ne_none _
  have hFa := f.st.apart a hna
  have hle : F.le (F.put a (lobj items n)) := Fz.le_put hFa
  have hown : ¬ own env a := by
    rintro (rfl | ⟨x, hx⟩)
    · exact hna f.ev.locFree.1
    · exact hna (f.ev.cellFree x a hx).1
  have delE : ∀ b, b ≠ a → σ.del a b = σ b := fun b hb => by simp [MHeap.del, hb]
  have delA : σ.del a a = none := by simp [MHeap.del]
  have putE : ∀ b, b ≠ a → F.put a (lobj items n) b = F b := fun b hb => by simp [Fz.put, hb]
  refine ⟨F.put a (lobj items n), ⟨?_, ?_, ?_, f.apart, f.above⟩, hle, ?_⟩
  · refine ⟨fun b x e => hle b x (f.st.top b x e), fun b x e => ?_, fun b d e => ?_, fun b h => ?_, f.st.gens, f.st.os, fun g hg => ?_⟩
    · by_cases q : b = a
      · subst q; rw [Fz.put_self] at e; cases e; exact ho
      · rw [putE b q] at e; exact f.st.fz b x e
    · by_cases q : b = a
      · subst q; rw [delA] at e; cases e
      · rw [delE b q] at e
        obtain ⟨o, h1, h2⟩ := f.st.own b d e
        exact ⟨o, h1, d.mono _ _ _ hle h2⟩
    · by_cases q : b = a
      · subst q; exact absurd delA h
      · rw [putE b q]; rw [delE b q] at h; exact f.st.apart b h
    · obtain ⟨h1, h2, h3⟩ := f.st.frs g hg
      have hne : g ≠ a := by rintro rfl; exact hna h3
      exact ⟨h1, by rw [putE g hne]; exact h2, by rw [delE g hne]; exact h3⟩
  · refine ⟨Fz.le_trans f.since.mono hle, f.since.kp, fun b h => ?_, fun b hb h h' => ?_, fun b hb h hs h' => ?_⟩
    · by_cases q : b = a
      · subst q; exact .inr (by rw [Fz.put_self]; exact Option.some_ne_none _)
      · rw [delE b q, putE b q]; exact f.since.dom b h
    · by_cases q : b = a
      · subst q; exact absurd delA h'
      · rw [delE b q] at h'; exact f.since.newS b hb h h'
    · by_cases q : b = a
      · subst q; exact f.since.newS b hb hs hna
      · rw [putE b q] at h'; exact f.since.newF b hb h hs h'
  · have hl : a ≠ env.locals := fun e => hown (.inl e)
    have hc : ∀ y c, env.cells.lookup y = some c → c ≠ a := fun y c h e => hown (.inr ⟨y, e ▸ h⟩)
    refine ⟨f.ev.kind, f.ev.glob, f.ev.bt, fun x mv hx => ?_, f.ev.ns, f.ev.cells, ?_, fun x c h => ?_⟩
    · rcases f.ev.names x mv hx with ⟨hk, m, v, hn, hm, hv⟩ | ⟨hk, hd, c, v, hcl, hcell, hv⟩
      · exact .inl ⟨hk, m, v, hn, hm, hv.mono hle⟩
      · exact .inr ⟨hk, hd, c, v, hcl, hcell, hv.mono hle⟩
    · rw [delE _ (Ne.symm hl), putE _ (Ne.symm hl)]; exact f.ev.locFree
    · rw [delE _ (hc x c h), putE _ (hc x c h)]; exact f.ev.cellFree x c h
  · simp only [VH]; exact ⟨a, items, n, rfl, Fz.put_self _ _ _, hv.mono hle⟩
/-- the name of a frozen list now holds it as a value -/
theorem WS.freeze {ss : List Stmt} {Q : MF → MEnv → MHeap → Prop} {x : Str} {a : Addr} {xs : List MV} (ha : σ a = some (mlist xs)) (hx : φ.lookup x = some (.ref a)) (h : WS X A env ss ((x, .list xs) :: φ) (σ.del a) Q) : WS X A env ss φ σ Q := by
  intro B F s f
  obtain ⟨F', f', hle, hv⟩ := f.freeze ha
  refine h B F' s { f' with ev := { f'.ev with names := fun y my hy => ?_ } }
  by_cases e : y = x
  · subst e
    rw [lookup_cons_self] at hy; cases hy
    rcases f'.ev.names y _ hx with ⟨hk, m, v, hn, hm, hv'⟩ | ⟨hk, hd, c, v, hcl, hcell, hv'⟩
    · simp only [MV.ref, VH] at hv'; subst hv'; exact .inl ⟨hk, m, _, hn, hm, hv⟩
    · simp only [MV.ref, VH] at hv'; subst hv'; exact .inr ⟨hk, hd, c, _, hcl, hcell, hv⟩
  · have : (y == x) = false := by simpa using e
    rw [List.lookup_cons, this] at hy
    exact f'.ev.names y my hy

theorem WE_listM {es : List Expr} {pos : Pos} (h : WL X A env pos es φ σ (fun ms σ₁ => ms.length ≤ sizeLine ∧ ∀ a, σ₁ a = none → Q (.ref a) (σ₁.put a (mlist ms)))) : WE X A env (.List es pos) φ σ Q := by
  intro F s st ev
  refine wpAny_List (wpAny_mono (h F s st ev) ?_ fun _ _ x => x)
  rintro vs s₁ ⟨F₁, σ₁, ms, t₁, hm, hl, h₁⟩
  refine ⟨by rw [hm.length]; exact hl, ?_⟩
  have tr := Trans.allocM (d := mlist ms) (o := lobj vs.toArray 0) (t := s₁.toks) t₁.st rfl ⟨vs.toArray, 0, rfl, by simpa using hm⟩
  exact ⟨F₁, _, .ref s₁.heap.objs.size, t₁.trans tr, by simp only [MV.ref, VH], h₁ _ t₁.st.freshSize.2⟩

theorem St.mlistAt {a : Addr} {xs : List MV} (st : St X F σ s) (ha : σ a = some (mlist xs)) : ∃ items n, s.heap.get? a = some (lobj items n) ∧ VHs F xs items.toList := by
  obtain ⟨o, ho, items, n, rfl, hv⟩ := st.own a _ ha
  exact ⟨items, n, ho, hv⟩
theorem WE_append {o elt : Expr} {apos pos : Pos}
    (h : WE X A env o φ σ (fun l σ₁ => ∃ a xs, l = .ref a ∧ σ₁ a = some (mlist xs) ∧ WE X A env elt φ σ₁ (fun y σ₂ => ∃ ys, σ₂ a = some (mlist ys) ∧ ys.length ≤ sizeLine ∧ Q .none (σ₂.put a (mlist (ys ++ [y]))))))
    (hbase : attributeBase o "append" env (eval o env) = eval o env := by rfl)
    (hfew : ((backTo pos (starEach [elt] env)).all (fun x => !x.1) && (backToKw pos (keywordEach [] env)).all (fun x => x.1.isSome)
      && decide (([elt] : List Expr).length + ([] : List Keyword).length + (if ([] : List Keyword).isEmpty then 0 else 1) < 30)) = true := by rfl)
    (hline : (apos.endLine == pos.line) = true := by rfl)
    (htrees : backTo pos (starEach [elt] env) = [(false, eval elt env)] := by rfl) : WE X A env (.Call (.Attribute o "append" apos) [elt] [] pos) φ σ Q := by
  intro F s st ev
  refine wpAny_Call_append hbase hfew hline htrees (wpAny_mono (h F s st ev) ?_ fun _ _ x => x)
  rintro v s₁ ⟨F₁, σ₁, l, t₁, hl, a, xs, rfl, ha, h₁⟩
  simp only [MV.ref, VH] at hl; subst hl
  obtain ⟨items, n, ho, hx⟩ := t₁.st.mlistAt ha
  refine ⟨a, items, rfl, ⟨_, n, ho, rfl, rfl, rfl⟩, ?_⟩
  refine wpAny_mono (h₁ F₁ s₁ t₁.st (ev.step t₁.toSince)) ?_ fun _ _ x => x
  rintro u s₂ ⟨F₂, σ₂, y, t₂, hy, ys, hys, hlen, hq⟩
  obtain ⟨items₂, n₂, ho₂, hx₂⟩ := t₂.st.mlistAt hys
  refine wpAny_list_append_plain ⟨n₂, ho₂⟩ (fun h' hp hs => ?_) (by have := hx₂.length; simp at this; omega)
  obtain ⟨n₃, ho₃⟩ := hp
  have tr := Trans.mut (d' := mlist (ys ++ [y])) (t := s₂.toks) t₂.st hys hs.extBut ho₃ ⟨_, n₃, rfl, by rw [Array.toList_push]; exact hx₂.append (by simp only [VHs]; exact ⟨u, [], rfl, hy, rfl⟩)⟩
  exact ⟨F₂, _, .none, (t₁.trans t₂).trans tr, by simp only [VH], hq⟩

theorem V_notInM {k : Int} {ns : List Int} {a : Addr} (ha : σ a = some (mlist (ns.map .int))) (h : Q (.bool (!(ns.any (· == k)))) σ) : WV2 X A (compareOp .NotIn) (.int k) (.ref a) σ Q := by
  rintro F s v u st hv hu; simp only [MV.ref, VH] at hv hu; obtain ⟨t, rfl⟩ := hv; subst hu
  obtain ⟨items, n, ho, hx⟩ := st.mlistAt ha
  have hl : s.heap.IsList a items := ⟨_, ho, rfl, n, rfl⟩
  exact notin_list_ints (vs := items.toList) (by simpa using hl) hx.ints (.now st (by simp only [VH]) h)

theorem fillsI_list : fillsInplaceSlot (.type "list") "add" (Operator.Add == .Add) = pure false := by
  unfold fillsInplaceSlot
  show (typeLookup (.type "list") (dunderI "add") >>= fun fi => pure (fi.isSome && !isSeqSlot fi)) = pure false
  rw [PySem.F.slot_list_iadd.lookup]
  have e : isSeqSlot (some (.builtin "list.__iadd__")) = true := by decide +kernel
  show (pure (true && !isSeqSlot (some (.builtin "list.__iadd__"))) : Sem Bool) = pure false
  rw [e]; rfl
theorem seqI_list : seqSlot? (.type "list") (dunderI "add") = pure (some (.builtin "list.__iadd__")) := _root_.PySem.seqSlot_of PySem.F.slot_list_iadd.lookup (by decide +kernel)
theorem iadd_lists {E : Value → Shared → Prop} {a b : Addr} {items items2 : Array Value} {n n2 : Nat} {Q : Value → Shared → Prop} (ha : s.heap.get? a = some (lobj items n)) (hb : s.heap.get? b = some (lobj items2 n2)) (hsz : items.size + items2.size ≤ sizeLine)
    (h : Q (.ref a) { s with heap := s.heap.update a (Obj.mapSeq fun x => x ++ items2) }) : wpAny X.M A (inplaceOp .Add (.ref a) (.ref b)) Q E s := by
  unfold inplaceOp
  refine wpAny_holding ?_
  have ta : s.TypeIs (.ref a) "list" := ⟨_, ha, rfl⟩
  have tb : s.TypeIs (.ref b) "list" := ⟨_, hb, rfl⟩
  refine wpAny_bind (wpAny_typeOf ta (wpAny_bind (wpAny_of_eq fillsI_list ?_)))
  show wpAny X.M A (if false = true then _ else _) Q E s
  rw [if_neg Bool.false_ne_true]
  refine wpAny_bind (wpAny_binaryOp1_none (nm := "add") ta tb noFill_list_add ?_)
  refine wpAny_bind (wpAny_of_eq seqI_list ?_)
  refine wpAny_bind (wpAny_rule ?_)
  refine call_meets PySem.F.slot_list_iadd ta PySem.F.entry_list_iadd (PySem.F.args_list_iadd_2 _ _) (AutoSeq1.list___iadd___list_list_0 a items n b items2 n2 ?_ (by omega) (by omega)) ⟨ha, hb, ?_⟩
  · intro q
    rw [Bool.and_eq_true] at q
    have : items.size + items2.size > sizeLine := of_decide_eq_true q.2
    omega
  · exact h
theorem mapSeq_lobj {items items2 : Array Value} {n : Nat} : ∃ k, Obj.mapSeq (fun x => x ++ items2) (lobj items n) = lobj (items ++ items2) k := ⟨_, rfl⟩
/-- xs += ys, xs a list that may change under a name -/
theorem WS1_iadd {Q : MF → MEnv → MHeap → Prop} {x : Str} {p pos : Pos} {value : Expr} {a : Addr} (hx : φ.lookup x = some (.ref a))
    (h : WE X A env value φ σ (fun v σ₁ => ∃ xs ys, v = .list ys ∧ σ₁ a = some (mlist xs) ∧ xs.length + ys.length ≤ sizeLine ∧ Q .next ((x, .ref a) :: φ) (σ₁.put a (mlist (xs ++ ys))))) (hs : storable env x = true := by rfl) :
    WS1 X A env (.AugAssign (.Name x p) .Add value pos) φ σ Q := by
  intro B F s f
  refine wpAny_AugAssign_Name ?_
  have load : wpAny X.M A (loadName env x) (fun v s' => v = .ref a ∧ s' = s) noE s := by
    rcases f.ev.names x _ hx with ⟨hk, m, v, hn, hm, hv⟩ | ⟨hk, hc, c, v, hl, hcl, hv⟩
    · simp only [MV.ref, VH] at hv; subst hv; exact wpAny_loadName_local f.ev.kind hk hn hm ⟨rfl, rfl⟩
    · simp only [MV.ref, VH] at hv; subst hv
      rcases hk with hk | hk
      · exact wpAny_loadName_cell f.ev.kind hk hl hcl ⟨rfl, rfl⟩
      · exact wpAny_loadName_free f.ev.kind hk hl hcl ⟨rfl, rfl⟩ hc
  refine wpAny_mono load ?_ fun _ _ x => x
  rintro v _ ⟨rfl, rfl⟩
  refine wpAny_mono (h F _ f.st f.ev) ?_ fun _ _ x => x
  rintro u s₁ ⟨F₁, σ₁, mu, t₁, hu, xs, ys, rfl, ha, hlen, hq⟩
  obtain ⟨items, n, ho, hxs⟩ := t₁.st.mlistAt ha
  obtain ⟨b, items2, n2, rfl, hf2, hl2, hys⟩ := hu.listAt t₁.st
  have e1 := hxs.length
  have e2 := hys.length
  simp only [Array.length_toList] at e1 e2
  refine iadd_lists ho (t₁.st.fz _ _ hf2) (by omega) ?_
  obtain ⟨k, hk⟩ := mapSeq_lobj (items := items) (items2 := items2) (n := n)
  have hup : (s₁.heap.update a (Obj.mapSeq fun x => x ++ items2)).get? a = some (lobj (items ++ items2) k) := by
    have := Heap.get?_update_self (h := s₁.heap) (Obj.mapSeq fun x => x ++ items2) ho (by rw [hk]; rfl)
    rw [this, hk]
  have tr := Trans.mut (d' := mlist (xs ++ ys)) (t := s₁.toks) t₁.st ha (Heap.SameBut.update (a := a) (h := s₁.heap) (f := Obj.mapSeq fun x => x ++ items2)).extBut hup ⟨_, k, rfl, by rw [Array.toList_append]; exact hxs.append hys⟩
  have f₂ := (f.step t₁).step tr
  exact wpAny_mono (Fm.store f₂ (mv := .ref a) (by simp only [MV.ref, VH]) hs) (fun _ s' f' => ⟨F₁, _, _, .next, f', rfl, hq⟩) fun _ _ x => x
end
end Mine
end
section
open PySem PySem.W PyProof.Rows PySem.Calls
set_option Elab.async false
set_option maxRecDepth 100000
set_option linter.unusedVariables false
set_option linter.unusedSimpArgs false
namespace Mine
def intsMV (ns : List Int) : MV := .list (ns.map .int)
def rowsMV (rs : List (List Int)) : MV := .list (rs.map intsMV)
def tieMV (t : Int × List Int) : MV := .tup [.int t.1, intsMV t.2]

def covAt (cov : List (List Int)) (p : Int) : List Int := cov.getD p.toNat []
def aheadOf (cov : List (List Int)) (tops : List Int) (p : Int) : List Int := (covAt cov p).filterMap fun k => if 0 ≤ tops.getD k.toNat 0 then some (tops.getD k.toNat 0) else none
def nextTops (cov : List (List Int)) (tops : List Int) (p : Int) : List Int := (List.range 4).map fun (k : Nat) => if (covAt cov p).any (· == (k : Int)) then p else tops.getD k 0
def tiesGo (cov : List (List Int)) : List Int → List Int → List (Int × List Int)
  | _, [] => []
  | tops, p :: rest => (p, aheadOf cov tops p) :: tiesGo cov (nextTops cov tops p) rest
def ties (cov : List (List Int)) (row : List Int) : List (Int × List Int) := tiesGo cov [-1, -1, -1, -1] row

structure CovOk (cov : List (List Int)) : Prop where
  len : cov.length = 8
  small : ∀ c ∈ cov, c.length ≤ 4
  ks : ∀ c ∈ cov, ∀ k ∈ c, 0 ≤ k ∧ k < 4
theorem CovOk.at {cov : List (List Int)} (h : CovOk cov) {p : Int} (h0 : 0 ≤ p) (h1 : p < 8) : cov[p.toNat]? = some (covAt cov p) ∧ covAt cov p ∈ cov := by
  have hlt : p.toNat < cov.length := by rw [h.len]; omega
  have e : cov[p.toNat]? = some (covAt cov p) := by
    unfold covAt; rw [List.getD_eq_getElem?_getD, List.getElem?_eq_getElem hlt]; rfl
  exact ⟨e, List.mem_of_getElem? e⟩

section
variable {X : Cx} {A : Around} {env : Env} {φ : MEnv} {σ : MHeap} {Q : MV → MHeap → Prop}
theorem EV_neg {e : Expr} {pos : Pos} {i : Int} (h : EV X A env e φ σ (.int i)) : EV X A env (.UnaryOp .USub e pos) φ σ (.int (-i)) := fun Q hq => by
  intro F s st ev
  refine wpAny_UnaryOp (wpAny_mono (h (fun mv σ' => mv = .int i ∧ σ' = σ) ⟨rfl, rfl⟩ F s st ev) ?_ fun _ _ x => x)
  rintro v s₁ ⟨F₁, σ₁, a, t₁, ha, rfl, rfl⟩
  simp only [VH] at ha; obtain ⟨t, rfl⟩ := ha
  exact neg_int ⟨F₁, σ₁, .int (-i), t₁.trans (.tok t₁.st _), by simp only [VH]; exact ⟨_, rfl⟩, hq⟩
theorem EV_rows {value slice : Expr} {pos : Pos} {cov : List (List Int)} {p : Int} (hc : CovOk cov) (hv : EV X A env value φ σ (rowsMV cov)) (hi : EV X A env slice φ σ (.int p)) (h0 : 0 ≤ p) (h1 : p < 8) (hs : plainSub slice := by intro _ _; rfl) :
    EV X A env (.Subscript value slice pos) φ σ (intsMV (covAt cov p)) :=
  EV_item hv hi h0 (by rw [List.getElem?_map, (hc.at h0 h1).1]; rfl) (by omega) hs
theorem EV_ints {value slice : Expr} {pos : Pos} {ns : List Int} {k : Int} (hv : EV X A env value φ σ (intsMV ns)) (hi : EV X A env slice φ σ (.int k)) (h0 : 0 ≤ k) (h1 : k.toNat < ns.length) (h2 : k < 2 ^ 63) (hs : plainSub slice := by intro _ _; rfl) :
    EV X A env (.Subscript value slice pos) φ σ (.int (ns.getD k.toNat 0)) :=
  EV_item hv hi h0 (by rw [List.getElem?_map, List.getElem?_eq_getElem h1, List.getD_eq_getElem?_getD, List.getElem?_eq_getElem h1]; rfl) h2 hs

theorem put_del {a : Addr} {d : Desc} (h : σ a = none) : (σ.put a d).del a = σ := by
  funext b
  unfold MHeap.put MHeap.del
  by_cases e : b = a
  · simp [e, h]
  · simp [e]
theorem put_put {a : Addr} {d d' : Desc} : (σ.put a d).put a d' = σ.put a d' := by
  funext b
  unfold MHeap.put
  by_cases e : b = a <;> simp [e]
def fAhead (tops : List Int) : MV → Option MV
  | .int k => if 0 ≤ tops.getD k.toNat 0 then some (.int (tops.getD k.toNat 0)) else none
  | _ => none
theorem fAhead_eq (cov : List (List Int)) (tops : List Int) (p : Int) : ((covAt cov p).map MV.int).filterMap (fAhead tops) = (aheadOf cov tops p).map .int := by
  unfold aheadOf
  rw [List.filterMap_map, List.map_filterMap]
  congr 1
  funext k
  show fAhead tops (.int k) = _
  unfold fAhead
  by_cases h : 0 ≤ tops.getD k.toNat 0 <;> simp [h]
def fTops (cov : List (List Int)) (tops : List Int) (p : Int) : MV → Option MV
  | .int k => some (.int (if (covAt cov p).any (· == k) then p else tops.getD k.toNat 0))
  | _ => none
theorem fTops_eq (cov : List (List Int)) (tops : List Int) (p : Int) : (rngItems 4).filterMap (fTops cov tops p) = (nextTops cov tops p).map .int := by
  unfold rngItems nextTops
  rfl
theorem ties_spec (hX : X.Ok) (hA : AOk 2 A) {cov : List (List Int)} {row : List Int} (hc : CovOk cov) (hr : ∀ p ∈ row, 0 ≤ p ∧ p < 8) (hrl : row.length ≤ 100)
    (h : Q (.list ((ties cov row).map tieMV)) σ) : WCall X A 270 [intsMV row, rowsMV cov] σ Q := by
  refine WCall_fn hX hA (fn_law_ties hX) (ps := ["row", "covers"]) (fun z => WBind_pure fun vs hl => ?_) (by decide) (fun z => by kernel_rfl) (fun z L => ?_)
  · match vs, hl with
    | [v, u], _ => kernel_rfl
  refine WS_cons (WS1_assign (EV.go (EV_list (ms := [.int (-1), .int (-1), .int (-1), .int (-1)]) ?l1) ?_))
  case l1 =>
    refine .cons (EV_neg EV_int) ?_
    refine .cons (EV_neg EV_int) ?_
    refine .cons (EV_neg EV_int) ?_
    refine .cons (EV_neg EV_int) ?_
    exact .nil
  refine WS_cons (WS1_assign (WE_listM (WL_nil ⟨by decide, fun a ha => ?_⟩)))
  -- the loop
  have loop : ∀ (rest : List Int) (tops : List Int) (acc : List MV) (φ : MEnv), (∀ p ∈ rest, 0 ≤ p ∧ p < 8) → tops.length = 4 → acc.length + rest.length ≤ 100 →
      φ.lookup ("covers" : Str) = some (rowsMV cov) → φ.lookup ("tops" : Str) = some (intsMV tops) → φ.lookup ("ties" : Str) = some (.ref a) → Q (.list (acc ++ (tiesGo cov tops rest).map tieMV)) σ →
      LoopQ X (A.deeper (fEnv (top 27) "_law_ties" .none 270 z L)) (fEnv (top 27) "_law_ties" .none 270 z L) "place" ((match (fBody (top 27)).drop 2 with | .For _ _ b _ _ :: _ => b | _ => [])) (fun _ => True)
        (thenS X (A.deeper (fEnv (top 27) "_law_ties" .none 270 z L)) (fEnv (top 27) "_law_ties" .none 270 z L) ((fBody (top 27)).drop 3) (retQ Q)) (rest.map .int) φ (σ.put a (mlist acc)) := by
    intro rest
    induction rest with
    | nil =>
      intro tops acc φ _ _ _ _ _ hties hq
      show WS X _ _ ((fBody (top 27)).drop 3) φ (σ.put a (mlist acc)) (retQ Q)
      refine WS.freeze (MHeap.put_self _ _ _) hties ?_
      refine WS_cons (WS1_return (WE_name lookup_cons_self ?_))
      rw [put_del ha]
      have hq' : Q (.list acc) σ := by simpa [tiesGo] using hq
      exact hq'
    | cons p rest ih =>
      intro tops acc φ hp htl hlen hcov htops hties hq
      obtain ⟨p0, p1⟩ := hp p List.mem_cons_self
      have hcp := hc.at p0 p1
      have hl4 := hc.small _ hcp.2
      refine WS_cons (WS1_expr (WE_append (WE_name hties ⟨a, acc, rfl, MHeap.put_self _ _ _, ?_⟩)))
      refine WE_tuple (WL_cons (WE_name lookup_cons_self (WL_cons (WE_comp [("tops", intsMV tops)] (fAhead tops) ?c1 ⟨htops, by rfl, trivial⟩))))
      case c1 =>
        refine EV.go (EV_rows hc (EV_name hcov) (EV_name lookup_cons_self) p0 p1) ?_
        refine ⟨_, _, iter_list hA.handled, trivial, ?_, ?_, ?_⟩
        · rw [List.length_map]; have : (4 : Nat) ≤ sizeLine := by decide
          omega
        · intro C mv hmv
          obtain ⟨k, hk, rfl⟩ := List.mem_map.mp hmv
          obtain ⟨k0, k1⟩ := hc.ks _ hcp.2 k hk
          have evk : ∀ {cenv : Env} {pos p1 p2 : Pos}, EV X (A.deeper (fEnv (top 27) "_law_ties" .none 270 z L)) cenv (.Subscript (.Name "tops" p1) (.Name "k" p2) pos) [("k", .int k), ("tops", intsMV tops)] (σ.put a (mlist acc)) (.int (tops.getD k.toNat 0)) :=
            EV_ints (EV_name rfl) (EV_name rfl) k0 (by omega) (by omega)
          refine WB_evCmp (c := decide (0 ≤ tops.getD k.toNat 0)) evk EV_int (fun Q hq => V_ge hq) ⟨rfl, ?_⟩
          show match decide (0 ≤ tops.getD k.toNat 0) with | true => _ | false => _
          cases hd : decide (0 ≤ tops.getD k.toNat 0) with
          | true => exact ⟨.int (tops.getD k.toNat 0), if_pos (of_decide_eq_true hd), EV.go evk ⟨rfl, rfl⟩⟩
          | false => exact if_neg (of_decide_eq_false hd)
        · refine WL_nil ⟨szl rfl, acc, MHeap.put_self _ _ _, ?_, rfl, ?_⟩
          · have : (100 : Nat) ≤ sizeLine := by decide
            omega
          rw [put_put, fAhead_eq]
          -- the second statement
          refine WS_cons (WS1_assign (WE_comp [("place", .int p), ("covers", rowsMV cov), ("tops", intsMV tops)] (fTops cov tops p) ?_ ⟨lookup_cons_self, by rfl, hcov, by rfl, htops, by rfl, trivial⟩))
          refine WE_callT (gl_range hX) (WL_cons (WE_int (WL_nil (T_range ?_))))
          refine ⟨_, _, iter_rng hA.handled (by decide), trivial, by decide, ?_, ?_⟩
          · intro C mv hmv
            obtain ⟨i, hi, rfl⟩ := List.mem_map.mp hmv
            have hi4 : i < 4 := by have := List.mem_range.mp hi; exact this
            refine ⟨_, rfl, ?_⟩
            refine WE_ifexp (WB_evCmp (c := (covAt cov p).any (· == (i : Int))) (EV_name rfl) (EV_rows hc (EV_name rfl) (EV_name rfl) p0 p1) (fun Q hq => V_inInts hq) ?_)
            cases hd : (covAt cov p).any (· == (i : Int)) with
            | true => exact WE_name rfl ⟨rfl, rfl⟩
            | false => exact EV.go (EV_ints (EV_name rfl) (EV_name rfl) (by omega) (by omega) (by omega)) ⟨rfl, rfl⟩
          · rw [fTops_eq]
            refine WS_nil ⟨trivial, ?_⟩
            refine ih (nextTops cov tops p) (acc ++ [tieMV (p, aheadOf cov tops p)]) _ (fun q hq => hp q (List.mem_cons_of_mem _ hq)) (by simp [nextTops]) (by simp at hlen ⊢; omega) hcov rfl hties ?_
            simpa [tiesGo] using hq
  refine WS_cons (WS1_for (WE_name rfl ⟨_, _, iter_list hA.handled, trivial, ?_⟩))
  exact loop row [-1, -1, -1, -1] [] _ hr rfl (by simpa using hrl) rfl rfl rfl h
end
end Mine
end
section
open PySem PySem.W PyProof.Rows PySem.Calls
set_option Elab.async false
set_option maxRecDepth 100000
set_option linter.unusedVariables false
set_option linter.unusedSimpArgs false
namespace Mine
/-- an instance of a class of the text's, its attributes in a dict of its own -/
def minst (C dx : Addr) : Desc := ⟨fun _ o => o = instObj C dx, fun _ _ _ _ h => h⟩
inductive AttrsAre (F : Fz) : List (Str × MV) → List DictEntry → Prop
  | nil : AttrsAre F [] []
  | cons {x : Str} {mv : MV} {t : Tok} {e : DictEntry} {as : List (Str × MV)} {es : List DictEntry} : e.key = .str x t → VH F mv e.val → AttrsAre F as es → AttrsAre F ((x, mv) :: as) (e :: es)
theorem AttrsAre.mono {F F' : Fz} (h : F.le F') : ∀ {as : List (Str × MV)} {es : List DictEntry}, AttrsAre F as es → AttrsAre F' as es
  | _, _, .nil => .nil
  | _, _, .cons a b c => .cons a (b.mono h) (c.mono h)
def mattrs (as : List (Str × MV)) : Desc := ⟨fun F o => ∃ es n, o = dictOf es n ∧ AttrsAre F as es, fun _ _ _ h ⟨es, n, e, ha⟩ => ⟨es, n, e, ha.mono h⟩⟩
theorem AttrsAre.find {F : Fz} : ∀ {as : List (Str × MV)} {es : List DictEntry}, AttrsAre F as es → ∀ {x : Str} {mv : MV}, as.lookup x = some mv → ∃ e, es.find? (·.key.isStr x) = some e ∧ VH F mv e.val
  | _, _, .nil, x, mv, h => by simp at h
  | _, _, .cons (x := y) (t := t) (e := e) hk hv r, x, mv, h => by
    rw [List.lookup_cons] at h
    have hks : e.key.isStr x = (y == x) := by rw [hk]; rfl
    cases q : x == y with
    | true =>
      rw [q] at h; cases h
      have : (y == x) = true := by rw [beq_iff_eq] at q ⊢; exact q.symm
      exact ⟨e, by rw [List.find?_cons, hks, this], hv⟩
    | false =>
      rw [q] at h
      have : (y == x) = false := by
        cases z : y == x with
        | false => rfl
        | true => rw [beq_iff_eq.mp z] at q; simp at q
      obtain ⟨e', h1, h2⟩ := r.find h
      exact ⟨e', by rw [List.find?_cons, hks, this]; exact h1, h2⟩
theorem AttrsAre.miss {F : Fz} : ∀ {as : List (Str × MV)} {es : List DictEntry}, AttrsAre F as es → ∀ {x : Str}, as.lookup x = none → es.find? (·.key.isStr x) = none
  | _, _, .nil, x, h => rfl
  | _, _, .cons (x := y) (t := t) (e := e) hk hv r, x, h => by
    rw [List.lookup_cons] at h
    have hks : e.key.isStr x = (y == x) := by rw [hk]; rfl
    cases q : x == y with
    | true => rw [q] at h; cases h
    | false =>
      rw [q] at h
      have : (y == x) = false := by
        cases z : y == x with
        | false => rfl
        | true => rw [beq_iff_eq.mp z] at q; simp at q
      rw [List.find?_cons, hks, this]; exact r.miss h
theorem AttrsAre.noRef {F : Fz} : ∀ {as : List (Str × MV)} {es : List DictEntry}, AttrsAre F as es → es.any (·.refKey) = false
  | _, _, .nil => rfl
  | _, _, .cons (e := e) hk hv r => by
    rw [List.any_cons, r.noRef]
    have : e.refKey = false := by unfold DictEntry.refKey; rw [hk]
    rw [this]; rfl
section
variable {X : Cx} {A : Around} {env : Env} {φ : MEnv} {σ : MHeap} {Q : MV → MHeap → Prop} {F : Fz} {s : Shared}
theorem St.kin (hX : X.Ok) (st : St X F σ s) : (KK X.w.params).In s.heap := fun a o e => st.h₀ a o (hX.kin a o e)
theorem St.instAt {x dx C : Addr} {as : List (Str × MV)} (st : St X F σ s) (hx : σ x = some (minst C dx)) (hd : σ dx = some (mattrs as)) :
    ∃ es n, InstAt s.heap x (instObj C dx) C (some (dictOf es n)) ∧ AttrsAre F as es ∧ s.heap.get? dx = some (dictOf es n) := by
  obtain ⟨o, ho, rfl⟩ := st.own x _ hx
  obtain ⟨od, hod, es, n, rfl, ha⟩ := st.own dx _ hd
  exact ⟨es, n, ⟨ho, rfl, rfl, hod⟩, ha, hod⟩
/-- what the class says of a name that is an attribute of the instance alone -/
structure AttrCls (X : Cx) (C : Addr) (name : Str) : Prop where
  cls : (clsIn (KK X.w.params) C).any (·.hasDict) = true
  none_ : findIn (KK X.w.params) (.ref C) name = some none
  ga : findIn (KK X.w.params) (.ref C) "__getattribute__" = some (some (.builtin "object.__getattribute__"))
structure MethCls (X : Cx) (C : Addr) (name : Str) (f : Addr) : Prop where
  fn : findIn (KK X.w.params) (.ref C) name = some (some (.ref f))
  ty : typeIn (KK X.w.params) (.ref f) = some (.type "function")
  ga : findIn (KK X.w.params) (.ref C) "__getattribute__" = some (some (.builtin "object.__getattribute__"))
  gattr : findIn (KK X.w.params) (.ref C) "__getattr__" = some none
theorem findObj_val {K : Frag} {C : Addr} {od : Option Obj} {name : Str} {cd : ClassData} {v : Value} (hc : clsIn K C = some cd) (hf : findIn K (.ref C) name = some none) (ho : ownOf cd od name = some (some v)) : findObj K C od name = some (.value v) := by
  unfold findObj
  rw [hc, Option.bind_some, hf, Option.bind_some]
  show ((some none : Option (Option Value)).bind fun get => _) = _
  rw [Option.bind_some]
  show ((some false : Option Bool).bind fun data => _) = _
  rw [Option.bind_some]
  show ((ownOf cd od name).bind fun own => _) = _
  rw [ho, Option.bind_some]
def handedMV : MV → Bool
  | .raw v => handedIn v
  | _ => true
theorem VH.handed {mv : MV} {v : Value} (h : VH F mv v) (hm : handedMV mv = true) : handedIn v = true := by
  cases mv <;> simp only [VH] at h
  · subst h; rfl
  · subst h; rfl
  · obtain ⟨t, rfl⟩ := h; rfl
  · obtain ⟨t, rfl⟩ := h; rfl
  · obtain ⟨a, _, _, rfl, _⟩ := h; rfl
  · obtain ⟨a, _, _, rfl, _⟩ := h; rfl
  · subst h; exact hm
  · obtain ⟨a, _, _, _, rfl, _⟩ := h; rfl
theorem lookIn_attrs {as : List (Str × MV)} {es : List DictEntry} {n : Nat} {name : Str} {mv : MV} (ha : AttrsAre F as es) (hm : as.lookup name = some mv) : ∃ v, lookIn name (dictOf es n) = some (some v) ∧ VH F mv v := by
  obtain ⟨e, he, hv⟩ := ha.find hm
  refine ⟨e.val, ?_, hv⟩
  show (match es.find? (·.key.isStr name) with | some e => some (some e.val) | none => _) = _
  rw [he]
theorem lookIn_miss {as : List (Str × MV)} {es : List DictEntry} {n : Nat} {name : Str} (ha : AttrsAre F as es) (hm : as.lookup name = none) : lookIn name (dictOf es n) = some none := by
  show (match es.find? (·.key.isStr name) with | some e => some (some e.val) | none => if es.any (·.refKey) then none else some none) = _
  rw [ha.miss hm, ha.noRef]; rfl
theorem V_attr (hX : X.Ok) {x dx C : Addr} {as : List (Str × MV)} {name : Str} {mv : MV} {b : Bool} (hx : σ x = some (minst C dx)) (hd : σ dx = some (mattrs as)) (hm : as.lookup name = some mv) (hc : AttrCls X C name) (h : Q mv σ) (hh : handedMV mv = true := by rfl) :
    WV1 X A (fun v => getAttr v name b) (.ref x) σ Q := by
  rintro F s v st hv
  simp only [MV.ref, VH] at hv; subst hv
  obtain ⟨es, n, I, ha, _⟩ := st.instAt hx hd
  obtain ⟨u, hu, hvu⟩ := lookIn_attrs (n := n) ha hm
  obtain ⟨cd, hcd, hdict⟩ := any_some hc.cls
  refine get_value (st.kin hX) I hc.ga (findObj_val hcd hc.none_ ?_) (hvu.handed hh) (.tk st hvu h)
  unfold W.ownOf; rw [hdict]; exact hu
theorem WE_attr {value : Expr} {attr : Str} {pos : Pos} (h : WE X A env value φ σ (fun o σ₁ => WV1 X A (fun v => getAttr v attr true) o σ₁ Q))
    (he : eval (.Attribute value attr pos) env = (do
      let o ← eval value env
      standAt pos.atName
      let r ← holding [o] (getAttr o attr true)
      letTemporaryGo value o r
      pure r) := by with_unfolding_all rfl) : WE X A env (.Attribute value attr pos) φ σ Q := by
  intro F s st ev
  refine Attribute_any_ (wpAny_mono (h F s st ev) ?_ fun _ _ x => x) he
  rintro v s₁ ⟨F₁, σ₁, a, t₁, ha, h₁⟩
  exact wpAny_mono (h₁ F₁ s₁ v t₁.st ha) (fun _ _ p => p.trans t₁) fun _ _ x => x
/-- o.name(args), a def of o's class -/
theorem WE_meth (hX : X.Ok) {o : Expr} {name : Str} {apos pos : Pos} {args : List Expr} {x dx C f : Addr} {as : List (Str × MV)} {st' : Stmt} {q : Str} {d : Value} (hm : MethCls X C name f) (hf : FnAt X f st' q d) {pl : Sem Bool}
    (h : WE X A env o φ σ (fun l σ₁ => l = .ref x ∧ σ₁ x = some (minst C dx) ∧ σ₁ dx = some (mattrs as) ∧ as.lookup name = none ∧ WL X A env pos args φ σ₁ (fun ms σ₂ => WCall X A f (.ref x :: ms) σ₂ Q)))
    (hn : loneStar (backTo pos (starEach args env)) = false := by rfl)
    (he : eval (.Call (.Attribute o name apos) args [] pos) env = (do
      let ov ← eval o env
      standAt apos.atName
      let (f, first) ← holding [ov] (getMethod ov name pl)
      callWith pos f first (backTo pos (starEach args env)) (backToKw pos (keywordEach [] env))) := by rfl) : WE X A env (.Call (.Attribute o name apos) args [] pos) φ σ Q := by
  intro F s st ev
  refine methodCall_KW (pl := pl) (wpAny_mono (h F s st ev) ?_ fun _ _ x => x) he
  rintro v s₁ ⟨F₁, σ₁, l, t₁, hl, rfl, hx, hd, has, h₁⟩
  simp only [MV.ref, VH] at hl; subst hl
  obtain ⟨es, n, I, ha, _⟩ := t₁.st.instAt hx hd
  refine method_fn (t₁.st.kin hX) I hm.ga hm.gattr hm.fn hm.ty ?_ ?_
  · show (lookIn name (dictOf es n)).map (·.isSome) = some false
    rw [lookIn_miss ha has]; rfl
  · obtain ⟨ob, doc, pm, an, code, ct, ho, hdat, hcd⟩ := hf
    refine callWith_function (o := ob) (fd := fdOf st' q d doc pm an code ct) (evalArgs_sp hn (wpAny_mono (h₁ F₁ s₁ t₁.st (ev.step t₁.toSince)) ?_ fun _ _ x => x))
    rintro vs s₂ ⟨F₂, σ₂, ms, t₂, hms, h₂⟩
    refine ⟨⟨t₂.st.h₀ _ _ ho, hdat⟩, ?_⟩
    exact wpAny_mono (WCall.v h₂ F₂ s₂ (.ref x :: vs) t₂.st (by simp only [VHs, VH]; exact ⟨_, _, rfl, rfl, hms⟩)) (fun _ _ p => p.trans (t₁.trans t₂)) fun _ _ x => x
end
end Mine
end
section
open PySem PySem.W PyProof.Rows PySem.Calls
set_option Elab.async false
set_option maxRecDepth 100000
set_option linter.unusedVariables false
set_option linter.unusedSimpArgs false
namespace Mine
def putE (name : Str) (h : Int) (key v : Value) : List DictEntry → List DictEntry
  | [] => [⟨h, key, v⟩]
  | e :: es => if e.key.isStr name then { e with val := v } :: es else e :: putE name h key v es
def setA (x : Str) (mv : MV) : List (Str × MV) → List (Str × MV)
  | [] => [(x, mv)]
  | (y, m) :: r => if y == x then (y, mv) :: r else (y, m) :: setA x mv r
theorem AttrsAre.put {F : Fz} {x : Str} {mv : MV} {h : Int} {t : Tok} {v : Value} (hv : VH F mv v) : ∀ {as : List (Str × MV)} {es : List DictEntry}, AttrsAre F as es → AttrsAre F (setA x mv as) (putE x h (.str x t) v es)
  | _, _, .nil => .cons (t := t) rfl hv .nil
  | _, _, .cons (x := y) (t := t') (e := e) hk hv' r => by
    have hks : e.key.isStr x = (y == x) := by rw [hk]; rfl
    unfold setA putE
    rw [hks]
    cases q : y == x with
    | true => simp only [if_true]; exact .cons hk hv r
    | false => simp only [Bool.false_eq_true, if_false]; exact .cons hk hv' (r.put hv)
theorem putE_found {name : Str} {h : Int} {key v : Value} : ∀ {es : List DictEntry} {i : Nat}, es.findIdx? (·.key.isStr name) = some i → es.modify i (fun e => { e with val := v }) = putE name h key v es
  | [], i, e => by simp at e
  | x :: es, i, e => by
    rw [List.findIdx?_cons] at e
    unfold putE
    split at e
    · rename_i hx; cases e; rw [if_pos hx]; rfl
    · rename_i hx
      rw [if_neg hx]
      obtain ⟨j, hj, rfl⟩ := Option.map_eq_some_iff.mp e
      rw [List.modify_succ_cons, putE_found hj]
theorem putE_none {name : Str} {h : Int} {key v : Value} : ∀ {es : List DictEntry}, es.findIdx? (·.key.isStr name) = none → es ++ [⟨h, key, v⟩] = putE name h key v es
  | [], _ => rfl
  | x :: es, e => by
    rw [List.findIdx?_cons] at e
    unfold putE
    split at e
    · cases e
    · rename_i hx
      rw [if_neg hx, List.cons_append, putE_none (Option.map_eq_none_iff.mp e)]
theorem putName_dict {name : Str} {h : Int} {key v : Value} {es : List DictEntry} {n : Nat} : ∃ n', Obj.putName name h key v (dictOf es n) = dictOf (putE name h key v es) n' := by
  rw [Obj.putName_eq]
  unfold Obj.putNameByArray
  dsimp only
  rw [List.findIdx?_toArray]
  cases q : es.findIdx? (·.key.isStr name) with
  | some i =>
    refine ⟨n, ?_⟩
    have e : es.toArray.modify i (fun e => { e with val := v }) = (putE name h key v es).toArray := by
      apply Array.ext'
      rw [Array.toList_modify, putE_found (h := h) (key := key) q]
    dsimp only
    rw [e]
  | none =>
    refine ⟨n + 1, ?_⟩
    have e : es.toArray.push ⟨h, key, v⟩ = (putE name h key v es).toArray := by
      apply Array.ext'
      rw [Array.toList_push, ← putE_none q]
    dsimp only
    rw [e]
theorem putE_length {name : Str} {h : Int} {key v : Value} : ∀ (es : List DictEntry), (putE name h key v es).length ≤ es.length + 1
  | [] => by simp [putE]
  | e :: es => by
    unfold putE
    split
    · simp
    · simp only [List.length_cons]; have := putE_length (name := name) (h := h) (key := key) (v := v) es; omega
theorem AttrsAre.length {F : Fz} : ∀ {as : List (Str × MV)} {es : List DictEntry}, AttrsAre F as es → es.length = as.length
  | _, _, .nil => rfl
  | _, _, .cons _ _ r => by simp [r.length]

structure SetCls (X : Cx) (C : Addr) (name : Str) : Prop where
  cls : (clsIn (KK X.w.params) C).any (·.hasDict) = true
  plain : plainOver (KK X.w.params) C = true
  taker : takerIn (KK X.w.params) C name = some none
  sa : findIn (KK X.w.params) (.ref C) "__setattr__" = some (some (.builtin "object.__setattr__"))

section
variable {X : Cx} {A : Around} {env : Env} {φ : MEnv} {σ : MHeap} {F : Fz} {s : Shared}
theorem setAttr_dict (hX : X.Ok) {x dx C : Addr} {as : List (Str × MV)} {name : Str} {mv : MV} {v : Value} {Q : Unit → Shared → Prop} (st : St X F σ s) (hx : σ x = some (minst C dx)) (hd : σ dx = some (mattrs as)) (hc : SetCls X C name) (hv : VH F mv v) (hlen : as.length ≤ 100)
    (h : ∀ s', Trans X F σ s F (σ.put dx (mattrs (setA name mv as))) s' → Q () s') : wpAny X.M A (setAttr (.ref x) name v) Q noE s := by
  obtain ⟨es, n, I, ha, hdx⟩ := st.instAt hx hd
  have K := st.kin hX
  refine set_plain K I hc.sa ?_
  have I' : InstAt s.heap x (instObj C dx) C (some (dictOf es n)) := I
  refine osa_open (s := { s with toks := s.toks + 1 }) K I' hc.plain hc.taker fun b => ?_
  obtain ⟨cd, hcd, hdict⟩ := any_some hc.cls
  have hxo : s.heap.get? x = some (instObj C dx) := I.at_
  have K' : (KK X.w.params).In ({ s with toks := s.toks + 1 } : Shared).heap := K
  refine wpAny_bind (wpAny_pure (wpAny_bind (wpAny_bind (wpAny_loadPart hxo (wpAny_bind ((looks_clsIn K' hcd).here ?_))))))
  rw [hdict]
  refine wpAny_pure (a := some dx) (wpAny_bind (wpAny_pure (wpAny_bind ?_)))
  unfold nsSet
  refine wpAny_bind (wpAny_bind (wpAny_askSetting (wpAny_pure (wpAny_bind (wpAny_mkText (wpAny_bind (wpAny_loadPart hdx ?_)))))))
  dsimp only
  have c : (!es.toArray.any (·.key.isStr name) && es.toArray.any (·.refKey)) = false := by
    rw [← Array.any_toList, ← Array.any_toList]
    rw [ha.noRef, Bool.and_false]
  rw [aRefKeyMayBeTheName_at, c]
  obtain ⟨n', hput⟩ := putName_dict (name := name) (h := PyData.keyHash X.w.params name) (key := .str name (s.toks + 1)) (v := v) (es := es) (n := n)
  have hup : (s.heap.update dx (Obj.putName name (PyData.keyHash X.w.params name) (.str name (s.toks + 1)) v)).get? dx = some (dictOf (putE name (PyData.keyHash X.w.params name) (.str name (s.toks + 1)) v es) n') := by
    have := Heap.get?_update_self (h := s.heap) (Obj.putName name (PyData.keyHash X.w.params name) (.str name (s.toks + 1)) v) hdx (by rw [hput]; rfl)
    rw [this, hput]
  refine wpAny_updatePart hdx ?_
  refine wpAny_bind (wpAny_lookBehind hup (pastItsLine_dict ?_) ?_)
  · rw [List.size_toArray, sizeLine_eq]
    have h1 := putE_length (name := name) (h := PyData.keyHash X.w.params name) (key := .str name (s.toks + 1)) (v := v) es
    have h2 := ha.length
    omega
  refine wpAny_pure (h _ ?_)
  exact Trans.mut (d' := mattrs (setA name mv as)) st hd (Heap.SameBut.update (a := dx) (h := s.heap) (f := Obj.putName name (PyData.keyHash X.w.params name) (.str name (s.toks + 1)) v)).extBut hup ⟨_, n', rfl, ha.put hv⟩
end
end Mine
end
section
open PySem PySem.W PyProof.Rows PySem.Calls
set_option Elab.async false
set_option maxRecDepth 100000
set_option linter.unusedVariables false
set_option linter.unusedSimpArgs false
namespace Mine
/-- an instance with slots -/
def sobj (C dx : Addr) (sl : List (Option Value)) : Obj := { cls := .ref C, dict := some dx, data := .plain, slots := sl.toArray }
def optVH (F : Fz) : Option MV → Option Value → Prop
  | none, v => v = none
  | some m, v => ∃ u, v = some u ∧ VH F m u
inductive SlotsAre (F : Fz) : List (Option MV) → List (Option Value) → Prop
  | nil : SlotsAre F [] []
  | cons {m : Option MV} {v : Option Value} {ms : List (Option MV)} {vs : List (Option Value)} : optVH F m v → SlotsAre F ms vs → SlotsAre F (m :: ms) (v :: vs)
theorem optVH.mono {F F' : Fz} (h : F.le F') {m : Option MV} {v : Option Value} (x : optVH F m v) : optVH F' m v := by
  cases m with
  | none => exact x
  | some m => obtain ⟨u, e, hv⟩ := x; exact ⟨u, e, hv.mono h⟩
theorem SlotsAre.mono {F F' : Fz} (h : F.le F') : ∀ {ms : List (Option MV)} {vs : List (Option Value)}, SlotsAre F ms vs → SlotsAre F' ms vs
  | _, _, .nil => .nil
  | _, _, .cons a b => .cons (a.mono h) (b.mono h)
def mslots (C dx : Addr) (ms : List (Option MV)) : Desc := ⟨fun F o => ∃ sl, o = sobj C dx sl ∧ SlotsAre F ms sl, fun _ _ _ h ⟨sl, e, hs⟩ => ⟨sl, e, hs.mono h⟩⟩
theorem SlotsAre.get {F : Fz} : ∀ {ms : List (Option MV)} {vs : List (Option Value)}, SlotsAre F ms vs → ∀ {i : Nat} {m : MV}, ms[i]? = some (some m) → ∃ v, vs[i]? = some (some v) ∧ VH F m v
  | _, _, .nil, i, m, h => by simp at h
  | _, _, .cons a b, 0, m, h => by
    simp at h; subst h; obtain ⟨u, rfl, hv⟩ := a; exact ⟨u, rfl, hv⟩
  | _, _, .cons a b, i + 1, m, h => by
    obtain ⟨v, h1, h2⟩ := b.get (i := i) (by simpa using h); exact ⟨v, by simpa using h1, h2⟩
theorem SlotsAre.set {F : Fz} {m : MV} {v : Value} (hv : VH F m v) : ∀ {ms : List (Option MV)} {vs : List (Option Value)}, SlotsAre F ms vs → ∀ (i : Nat), SlotsAre F (ms.set i (some m)) (vs.set i (some v))
  | _, _, .nil, i => .nil
  | _, _, .cons a b, 0 => .cons ⟨v, rfl, hv⟩ b
  | _, _, .cons a b, i + 1 => .cons a (b.set hv i)
theorem SlotsAre.length {F : Fz} : ∀ {ms : List (Option MV)} {vs : List (Option Value)}, SlotsAre F ms vs → vs.length = ms.length
  | _, _, .nil => rfl
  | _, _, .cons _ b => by simp [b.length]
section
variable {X : Cx} {A : Around} {env : Env} {φ : MEnv} {σ : MHeap} {Q : MV → MHeap → Prop} {F : Fz} {s : Shared}
theorem St.slotsAt {x dx C : Addr} {ms : List (Option MV)} (st : St X F σ s) (hx : σ x = some (mslots C dx ms)) (hd : σ dx = some (mattrs [])) : ∃ sl n, InstAt s.heap x (sobj C dx sl) C (some (dictOf [] n)) ∧ SlotsAre F ms sl := by
  obtain ⟨o, ho, sl, rfl, hs⟩ := st.own x _ hx
  obtain ⟨od, hod, es, n, rfl, ha⟩ := st.own dx _ hd
  cases ha
  exact ⟨sl, n, ⟨ho, rfl, rfl, hod⟩, hs⟩
structure SlotCls (X : Cx) (C : Addr) (name : Str) (p i : Nat) : Prop where
  find : ∀ od, findObj (KK X.w.params) C od name = some (.bind (.builtin "member_descriptor.__get__") (.ref p))
  slot : slotIn (KK X.w.params) p C = some i
  ga : findIn (KK X.w.params) (.ref C) "__getattribute__" = some (some (.builtin "object.__getattribute__"))
  gattr : findIn (KK X.w.params) (.ref C) "__getattr__" = some none
  sa : findIn (KK X.w.params) (.ref C) "__setattr__" = some (some (.builtin "object.__setattr__"))
  plain : plainOver (KK X.w.params) C = true
  taker : takerIn (KK X.w.params) C name = some (some (.ref p))
  ty : typeIn (KK X.w.params) (.ref p) = some (.type "member_descriptor")
theorem V_slot (hX : X.Ok) {x dx C : Addr} {ms : List (Option MV)} {name : Str} {p i : Nat} {mv : MV} {b : Bool} (hx : σ x = some (mslots C dx ms)) (hd : σ dx = some (mattrs [])) (hm : ms[i]? = some (some mv)) (hc : SlotCls X C name p i) (h : Q mv σ) (hh : handedMV mv = true := by rfl) :
    WV1 X A (fun v => getAttr v name b) (.ref x) σ Q := by
  rintro F s v st hv
  simp only [MV.ref, VH] at hv; subst hv
  obtain ⟨sl, n, I, hs⟩ := st.slotsAt hx hd
  obtain ⟨u, hu, hvu⟩ := hs.get hm
  refine get_bind (st.kin hX) I hc.ga (hc.find _) hc.gattr (wpAny_call ?_)
  have K₀ := st.kin hX
  have K' : (KK X.w.params).In ({ s with toks := s.toks + 1 } : Shared).heap := K₀
  refine slot_get (s := { s with toks := s.toks + 1 }) K' I hc.slot (v := u) ?_ ?_
  · show ((sl.toArray)[i]?).join = some u
    rw [List.getElem?_toArray, hu]; rfl
  · show wpAny _ _ (handedOut u) _ _ _
    rw [handedOut_of (hvu.handed hh)]
    exact wpAny_pure (.tk st hvu h)
def setS {α : Type} (l : List (Option α)) (i : Nat) (v : α) : List (Option α) := (l ++ List.replicate (i + 1 - l.length) none).set i (some v)
theorem SlotsAre.more {F : Fz} : ∀ {ms : List (Option MV)} {vs : List (Option Value)} (n : Nat), SlotsAre F ms vs → SlotsAre F (ms ++ List.replicate n none) (vs ++ List.replicate n none)
  | _, _, n, .cons a b => .cons a (b.more n)
  | _, _, 0, .nil => .nil
  | _, _, n + 1, .nil => .cons rfl (SlotsAre.more n .nil)
theorem SlotsAre.setS {F : Fz} {ms : List (Option MV)} {vs : List (Option Value)} {i : Nat} {m : MV} {v : Value} (h : SlotsAre F ms vs) (hv : VH F m v) : SlotsAre F (Mine.setS ms i m) (Mine.setS vs i v) := by
  unfold Mine.setS
  rw [h.length]
  exact (h.more _).set hv i
theorem slotObj {C dx : Addr} {sl : List (Option Value)} {i : Nat} {v : Value} : ({ sobj C dx sl with slots := ((sobj C dx sl).slots ++ Array.replicate (i + 1 - (sobj C dx sl).slots.size) none).setIfInBounds i (some v) } : Obj) = sobj C dx (setS sl i v) := by
  have e : (sl.toArray ++ Array.replicate (i + 1 - sl.toArray.size) none).setIfInBounds i (some v) = (setS sl i v).toArray := by
    apply Array.ext'
    simp [setS]
  show (⟨_, _, _, (sl.toArray ++ Array.replicate (i + 1 - sl.toArray.size) none).setIfInBounds i (some v)⟩ : Obj) = _
  rw [e]; rfl
open Builtin Builtin.ObjectAttr Builtin.Getset_descriptor in
set_option maxHeartbeats 4000000 in
theorem slot_set' (hX : X.Ok) {A : Around} {x dx C p i : Nat} {ms : List (Option MV)} {m : MV} {v : Value} {R : Result → Shared → Prop} (st : St X F σ s) (hx : σ x = some (mslots C dx ms)) (hd : σ dx = some (mattrs [])) (hp : slotIn (KK X.w.params) p C = some i) (hi : i < 1000) (hv : VH F m v)
    (h : ∀ s', Trans X F σ s F (σ.put x (mslots C dx (setS ms i m))) s' → R (.ok (.ret .none)) s') :
    codeAny X.M A (.call (.builtin "member_descriptor.__set__") ⟨[.ref p, .ref x, v], []⟩) R s := by
  have K₀ := st.kin hX
  obtain ⟨sl, nd, I, hs⟩ := st.slotsAt hx hd
  obtain ⟨n, tn, owner, behind, tb, d, sl', cd, ho, hc, hm, hb, rfl⟩ := slot_of K₀ hp
  have hx₀ := I.at_
  have fin : ∀ t, Trans X F σ s F (σ.put x (mslots C dx (setS ms (cd.slotNames.length - 1 - behind.toNat) m))) { s with heap := s.heap.update x (fun o => { o with slots := (o.slots ++ Array.replicate (cd.slotNames.length - 1 - behind.toNat + 1 - o.slots.size) none).setIfInBounds (cd.slotNames.length - 1 - behind.toNat) (some v) }), toks := t } := fun t => by
    have hup := Heap.get?_update_self (h := s.heap) (fun o => { o with slots := (o.slots ++ Array.replicate (cd.slotNames.length - 1 - behind.toNat + 1 - o.slots.size) none).setIfInBounds (cd.slotNames.length - 1 - behind.toNat) (some v) }) hx₀ rfl
    rw [slotObj] at hup
    exact Trans.mut st hx (Heap.SameBut.update ..).extBut hup ⟨_, rfl, hs.setS hv⟩
  have fin0 := h _ (fin s.toks)
  clear h fin st
  obtain ⟨hh, g, dr, t, os⟩ := s
  have L0 := I.type (M := X.M)
  have L1 := looks_mroIn (M := X.M) K₀ hm
  have L2 : Looks X.M hh (Slots.slotNamesOf (.ref C)) cd.slotNames := (looks_clsIn K₀ hc).andThen .now
  dsimp only at ho hx₀ L0 L1
  have f0 := looks_field (M := X.M) ho 0 (v := .str n tn) rfl
  have f1 := looks_field (M := X.M) ho 1 (v := owner) rfl
  have f3 := looks_field (M := X.M) ho 3 (v := .builtin "proto.slot#set") rfl
  have f4 := looks_field (M := X.M) ho 4 (v := .int behind tb) rfl
  refine codeAny_call_builtin KF.slot_mset.plain KF.entry_mset (KF.slot_mset.check _ _ _ _ _ _ _ _ ⟨_, ho, rfl⟩ (KF.args_mset _ _ _) ?_)
  unfold Builtin.«member_descriptor.__set__» descrSet descrStoreThrough descrCheckInstance descrNameAndClass isInstance
  have f5 : Looks X.M hh (descrItself (.ref p)) [.ref p] := ((Looks.ld (part := none) ho).andThen .now).andThen (Looks.of_pure (by kernel_rfl))
  repeat lk
  refine ⟨Code.quiet_builtin _ (by decide +kernel), codeAny_builtin KF.entry_slotset ?_⟩
  unfold Builtin.«proto.slot#set» Slots.target
  repeat lk
  rw [if_neg hb]
  refine wpAny_pure (wpAny_bind ?_)
  unfold setSlotAt
  dsimp only
  rw [if_neg (by rw [sizeLine_eq]; omega)]
  exact wpAny_updatePart hx₀ (wpAny_pure fin0)
end
section
variable {X : Cx}
theorem sc_node : SlotCls X 40 "node" 41 0 := ⟨fun od => by kernel_rfl, by kernel_rfl, by kernel_rfl, by kernel_rfl, by kernel_rfl, by kernel_rfl, by kernel_rfl, by kernel_rfl⟩
theorem sc_np : SlotCls X 40 "npredecessors" 42 1 := ⟨fun od => by kernel_rfl, by kernel_rfl, by kernel_rfl, by kernel_rfl, by kernel_rfl, by kernel_rfl, by kernel_rfl, by kernel_rfl⟩
theorem sc_succ : SlotCls X 40 "successors" 43 2 := ⟨fun od => by kernel_rfl, by kernel_rfl, by kernel_rfl, by kernel_rfl, by kernel_rfl, by kernel_rfl, by kernel_rfl, by kernel_rfl⟩
theorem ac_n2i : AttrCls X 137 "_node2info" := ⟨by kernel_rfl, by kernel_rfl, by kernel_rfl⟩
theorem ac_rdy : AttrCls X 137 "_ready_nodes" := ⟨by kernel_rfl, by kernel_rfl, by kernel_rfl⟩
theorem ac_npo : AttrCls X 137 "_npassedout" := ⟨by kernel_rfl, by kernel_rfl, by kernel_rfl⟩
theorem ac_nf : AttrCls X 137 "_nfinished" := ⟨by kernel_rfl, by kernel_rfl, by kernel_rfl⟩
theorem st_n2i : SetCls X 137 "_node2info" := ⟨by kernel_rfl, by kernel_rfl, by kernel_rfl, by kernel_rfl⟩
theorem st_rdy : SetCls X 137 "_ready_nodes" := ⟨by kernel_rfl, by kernel_rfl, by kernel_rfl, by kernel_rfl⟩
theorem st_npo : SetCls X 137 "_npassedout" := ⟨by kernel_rfl, by kernel_rfl, by kernel_rfl, by kernel_rfl⟩
theorem st_nf : SetCls X 137 "_nfinished" := ⟨by kernel_rfl, by kernel_rfl, by kernel_rfl, by kernel_rfl⟩
theorem mc_get : MethCls X 137 "_get_nodeinfo" 80 := ⟨by kernel_rfl, by kernel_rfl, by kernel_rfl, by kernel_rfl⟩
theorem mc_add : MethCls X 137 "add" 87 := ⟨by kernel_rfl, by kernel_rfl, by kernel_rfl, by kernel_rfl⟩
theorem mc_prepare : MethCls X 137 "prepare" 92 := ⟨by kernel_rfl, by kernel_rfl, by kernel_rfl, by kernel_rfl⟩
theorem mc_ready : MethCls X 137 "get_ready" 99 := ⟨by kernel_rfl, by kernel_rfl, by kernel_rfl, by kernel_rfl⟩
theorem mc_active : MethCls X 137 "is_active" 106 := ⟨by kernel_rfl, by kernel_rfl, by kernel_rfl, by kernel_rfl⟩
theorem mc_done : MethCls X 137 "done" 120 := ⟨by kernel_rfl, by kernel_rfl, by kernel_rfl, by kernel_rfl⟩
theorem mc_cycle : MethCls X 137 "_find_cycle" 127 := ⟨by kernel_rfl, by kernel_rfl, by kernel_rfl, by kernel_rfl⟩
end
end Mine
end
section
open PySem PySem.W PyProof.Rows PySem.Calls
set_option Elab.async false
set_option maxRecDepth 100000
set_option linter.unusedVariables false
set_option linter.unusedSimpArgs false
namespace Mine
section
variable {X : Cx} {A : Around} {env : Env} {φ : MEnv} {σ : MHeap} {F : Fz} {s : Shared}
theorem setAttr_slot (hX : X.Ok) {x dx C p i : Nat} {ms : List (Option MV)} {name : Str} {mv : MV} {v : Value} {Q : Unit → Shared → Prop} (st : St X F σ s) (hx : σ x = some (mslots C dx ms)) (hd : σ dx = some (mattrs [])) (hc : SlotCls X C name p i) (hi : i < 1000) (hv : VH F mv v)
    (h : ∀ s', Trans X F σ s F (σ.put x (mslots C dx (setS ms i mv))) s' → Q () s') : wpAny X.M A (setAttr (.ref x) name v) Q noE s := by
  obtain ⟨sl, n, I, hs⟩ := st.slotsAt hx hd
  have K := st.kin hX
  have K' : (KK X.w.params).In ({ s with toks := s.toks + 1 } : Shared).heap := K
  refine set_plain K I hc.sa ?_
  refine osa_descr (s := { s with toks := s.toks + 1 }) KF.slot_mset K' I hc.plain hc.taker hc.ty ?_
  exact slot_set' hX (st.tok _) hx hd hc.slot hi hv fun s' t => h s' ((Trans.tok st _).trans t)

/-- storing into an attribute -/
def WSet (X : Cx) (A : Around) (name : Str) (o : MV) (v : MV) (σ : MHeap) (Q : MHeap → Prop) : Prop :=
  ∀ F s ov vv, St X F σ s → VH F o ov → VH F v vv → wpAny X.M A (setAttr ov name vv) (fun _ s' => ∃ F' σ', Trans X F σ s F' σ' s' ∧ Q σ') noE s
theorem Set_attr (hX : X.Ok) {x dx C : Addr} {as : List (Str × MV)} {name : Str} {mv : MV} {Q : MHeap → Prop} (hx : σ x = some (minst C dx)) (hd : σ dx = some (mattrs as)) (hc : SetCls X C name) (hlen : as.length ≤ 100) (h : Q (σ.put dx (mattrs (setA name mv as)))) : WSet X A name (.ref x) mv σ Q := by
  rintro F s ov vv st ho hv
  simp only [MV.ref, VH] at ho; subst ho
  exact setAttr_dict hX st hx hd hc hv hlen fun s' t => ⟨F, _, t, h⟩
theorem Set_slot (hX : X.Ok) {x dx C p i : Nat} {ms : List (Option MV)} {name : Str} {mv : MV} {Q : MHeap → Prop} (hx : σ x = some (mslots C dx ms)) (hd : σ dx = some (mattrs [])) (hc : SlotCls X C name p i) (h : Q (σ.put x (mslots C dx (setS ms i mv)))) (hi : i < 1000 := by decide) : WSet X A name (.ref x) mv σ Q := by
  rintro F s ov vv st ho hv
  simp only [MV.ref, VH] at ho; subst ho
  exact setAttr_slot hX st hx hd hc hi hv fun s' t => ⟨F, _, t, h⟩
variable {Q : MF → MEnv → MHeap → Prop}
theorem WS1_setattr {o value : Expr} {attr : Str} {tpos pos : Pos} (h : WE X A env value φ σ (fun v σ₁ => WE X A env o φ σ₁ (fun ov σ₂ => WSet X A attr ov v σ₂ (fun σ₃ => Q .next φ σ₃))))
    (hs : swapsWith value (some (.Attribute o attr tpos)) pos.line env = pure false := by rfl) : WS1 X A env (.Assign [.Attribute o attr tpos] value pos) φ σ Q := by
  intro B F s f
  refine plainObj_wpAny_Assign_Attribute (wpAny_mono (h F s f.st f.ev) ?_ fun _ _ x => x) hs
  rintro v s₁ ⟨F₁, σ₁, mv, t₁, hv, h₁⟩
  refine wpAny_mono (h₁ F₁ s₁ t₁.st (f.ev.step t₁.toSince)) ?_ fun _ _ x => x
  rintro ov s₂ ⟨F₂, σ₂, mo, t₂, ho, h₂⟩
  refine wpAny_mono (h₂ F₂ s₂ ov v t₂.st ho (hv.mono t₂.mono)) ?_ fun _ _ x => x
  rintro _ s₃ ⟨F₃, σ₃, t₃, h₃⟩
  exact ⟨F₃, σ₃, φ, .next, ((f.step t₁).step t₂).step t₃, rfl, h₃⟩
/-- o.attr += value, ints -/
theorem WS1_augattr {o value : Expr} {attr : Str} {tpos pos : Pos} {op : Operator}
    (h : WE X A env o φ σ (fun ov σ₁ => WV1 X A (fun v => getAttr v attr true) ov σ₁ (fun old σ₂ => WE X A env value φ σ₂ (fun v σ₃ => WV2 X A (inplaceOp op) old v σ₃ (fun new σ₄ => WSet X A attr ov new σ₄ (fun σ₅ => Q .next φ σ₅)))))) :
    WS1 X A env (.AugAssign (.Attribute o attr tpos) op value pos) φ σ Q := by
  intro B F s f
  refine wpAny_AugAssign_AttributeAny (wpAny_mono (h F s f.st f.ev) ?_ fun _ _ x => x)
  rintro ov s₁ ⟨F₁, σ₁, mo, t₁, ho, h₁⟩
  refine wpAny_mono (h₁ F₁ s₁ ov t₁.st ho) ?_ fun _ _ x => x
  rintro old s₂ ⟨F₂, σ₂, mold, t₂, hold, h₂⟩
  have T2 := t₁.trans t₂
  refine wpAny_mono (h₂ F₂ s₂ t₂.st (f.ev.step T2.toSince)) ?_ fun _ _ x => x
  rintro v s₃ ⟨F₃, σ₃, mv, t₃, hv, h₃⟩
  refine wpAny_mono (h₃ F₃ s₃ old v t₃.st (hold.mono t₃.mono) hv) ?_ fun _ _ x => x
  rintro new s₄ ⟨F₄, σ₄, mn, t₄, hn, h₄⟩
  refine wpAny_mono (h₄ F₄ s₄ ov new t₄.st (ho.mono (Fz.le_trans t₂.mono (Fz.le_trans t₃.mono t₄.mono))) hn) ?_ fun _ _ x => x
  rintro _ s₅ ⟨F₅, σ₅, t₅, h₅⟩
  exact ⟨F₅, σ₅, φ, .next, (((f.step T2).step t₃).step t₄).step t₅, rfl, h₅⟩
end
section
variable {X : Cx} {A : Around} {σ : MHeap} {Q : MV → MHeap → Prop}
theorem V_iadd {a b : Int} (h : Q (.int (a + b)) σ) : WV2 X A (inplaceOp .Add) (.int a) (.int b) σ Q := by
  rintro F s v u st hv hu; simp only [VH] at hv hu; obtain ⟨t, rfl⟩ := hv; obtain ⟨t', rfl⟩ := hu
  exact wpAny_iadd_int (.tk st (by simp only [VH]; exact ⟨_, rfl⟩) h)
theorem V_isub {a b : Int} (h : Q (.int (a - b)) σ) : WV2 X A (inplaceOp .Sub) (.int a) (.int b) σ Q := by
  rintro F s v u st hv hu; simp only [VH] at hv hu; obtain ⟨t, rfl⟩ := hv; obtain ⟨t', rfl⟩ := hu
  exact isub_int (.tk st (by simp only [VH]; exact ⟨_, rfl⟩) h)
end
end Mine
end
section
open PySem PySem.W PyProof.Rows PySem.Calls
set_option Elab.async false
set_option maxRecDepth 100000
set_option linter.unusedVariables false
set_option linter.unusedSimpArgs false
namespace Mine
def newA (A : Around) (C : Addr) (vs : List Value) : Around := A.under (.builtin "type.__call__" ⟨.ref C :: vs, []⟩)
theorem AOk.new {n : Nat} {A : Around} {C : Addr} {vs : List Value} (h : AOk (n + 1) A) : AOk n (newA A C vs) := by
  have hw : (Code.builtin "type.__call__" ⟨.ref C :: vs, []⟩).weight = 1 := by first | rfl | decide
  have hu : (Code.builtin "type.__call__" ⟨.ref C :: vs, []⟩).cUnits = 1 := by first | rfl | decide
  refine ⟨?_, ?_, h.handled⟩
  · have := h.depth
    show A.depth + (Code.builtin "type.__call__" ⟨.ref C :: vs, []⟩).weight + n < _
    rw [hw]; omega
  · have := h.units
    show A.units + (Code.builtin "type.__call__" ⟨.ref C :: vs, []⟩).cUnits + 64 + 8 * n < _
    rw [hu]; omega
structure NewCls (X : Cx) (C fI : Addr) : Prop where
  makes : makesIn (KK X.w.params) C = true
  init : findIn (KK X.w.params) (.ref C) "__init__" = some (some (.ref fI))
  ty : typeIn (KK X.w.params) (.ref fI) = some (.type "function")
section
variable {X : Cx} {A : Around} {env : Env} {φ : MEnv} {σ : MHeap} {Q : MV → MHeap → Prop} {F : Fz} {s : Shared}
/-- C(args): the new instance is described by d (minst, or mslots without a slot filled) -/
theorem WCall_new (hX : X.Ok) {C fI : Addr} {args : List MV} (hc : NewCls X C fI) (d : Addr → Desc) (hd : ∀ dx F, (d dx).p F (instObj C dx))
    (h : ∀ vs x dx, σ x = none → σ dx = none → x ≠ dx → WCall X (newA A C vs) fI (.ref x :: args) ((σ.put dx (mattrs [])).put x (d dx)) (fun r σ' => r = .none ∧ Q (.ref x) σ')) : WCall X A C args σ Q := by
  intro F s vs st hv
  have K := st.kin hX
  have t1 := Trans.allocM (t := s.toks) (d := mattrs []) (o := emptyDict) st rfl ⟨[], 0, rfl, .nil⟩
  have t2 := Trans.allocM (t := s.toks) (d := d s.heap.objs.size) (o := instObj C s.heap.objs.size) t1.st rfl (hd _ _)
  have hsz : (s.heap.push emptyDict).objs.size = s.heap.objs.size + 1 := Heap.size_push ..
  have T := t1.trans t2
  dsimp only at T
  rw [hsz] at T
  have hf1 : σ s.heap.objs.size = none := st.freshSize.2
  have hf2 : σ (s.heap.objs.size + 1) = none := (st.fresh (get?_ge (Nat.le_succ _))).2
  have hh := h vs (s.heap.objs.size + 1) s.heap.objs.size hf2 hf1 (by simp)
  have hargs : VHs F (.ref (s.heap.objs.size + 1) :: args) (.ref (s.heap.objs.size + 1) :: vs) := by
    simp only [VHs, VH]; exact ⟨_, _, rfl, rfl, hv⟩
  have hcall := hh F _ (.ref (s.heap.objs.size + 1) :: vs) T.st hargs
  have hq : codeAny X.M (A.under (.builtin "type.__call__" ⟨.ref C :: vs, []⟩)) (.call (.ref fI) ⟨.ref (s.heap.objs.size + 1) :: vs, []⟩) (InitBack (s.heap.objs.size + 1) (fun r s' => ∃ v, r = .ok (.ret v) ∧ PostE X F σ s Q v s'))
      { s with heap := (s.heap.push emptyDict).push (instObj C s.heap.objs.size) } := by
    refine codeAny_mono hcall ?_
    rintro r s' ⟨v, rfl, F', σ', mv, t, hmv, rfl, hq⟩
    simp only [VH] at hmv; subst hmv
    exact ⟨rfl, _, rfl, F', σ', _, T.trans t, by simp only [MV.ref, VH], hq⟩
  obtain ⟨hp, g, dr, tk, os⟩ := s
  exact make_core (makes_of K hc.makes) (looks_findIn K hc.init) (fun self => bind_fn K self hc.ty) (.inl rfl) hq
theorem nc_ts : NewCls X 137 73 := ⟨by kernel_rfl, by kernel_rfl, by kernel_rfl⟩
theorem nc_ni : NewCls X 40 36 := ⟨by kernel_rfl, by kernel_rfl, by kernel_rfl⟩
end
end Mine
end
section
open PySem PySem.W PyProof.Rows PySem.Calls
set_option Elab.async false
set_option maxRecDepth 100000
set_option linter.unusedVariables false
set_option linter.unusedSimpArgs false
namespace Mine
section
variable {X : Cx} {A : Around} {env : Env} {φ : MEnv} {σ : MHeap} {Q : MV → MHeap → Prop} {F : Fz} {s : Shared}
/-- C() and C(e, ..) for a class of the text's -/
theorem WE_new0 (hX : X.Ok) {x : Str} {p pos : Pos} {C : Addr} (hg : GlobIs X x (.ref C)) (hkp : keepIn (KK X.w.params) (.ref C) = true) (h : WCall X A C [] σ Q) (hk : env.kindOf x = some .globalImplicit := by rfl) (hd : (x == ("__debug__" : Str)) = false := by decide) :
    WE X A env (.Call (.Name x p) [] [] pos) φ σ Q := by
  intro F s st ev
  refine wpAny_Call_NameR (Name_function_global ev.kind hk (hg A env _ _ s ev.glob ev.bt st.h₀ ?_) hd)
  exact callWith_K0 (env := env) (st.kin hX) hkp (WCall.v h F s [] st (by simp only [VHs]))
theorem WE_new (hX : X.Ok) {x : Str} {p pos : Pos} {C : Addr} {e : Expr} {es : List Expr} (hg : GlobIs X x (.ref C)) (hkp : keepIn (KK X.w.params) (.ref C) = true) (h : WL X A env pos (e :: es) φ σ (fun ms σ₁ => WCall X A C ms σ₁ Q))
    (hplain : ((backTo pos (starEach (e :: es) env)).any (·.1)) = false := by rfl) (he : starEach (e :: es) env = (false, eval e env) :: starEach es env := by rfl) (hk : env.kindOf x = some .globalImplicit := by rfl) (hd : (x == ("__debug__" : Str)) = false := by decide) :
    WE X A env (.Call (.Name x p) (e :: es) [] pos) φ σ Q := by
  have hplain' : (backTo pos (starEach es env)).any (·.1) = false := by
    rw [he] at hplain
    simpa [backTo] using hplain
  intro F s st ev
  refine wpAny_Call_NameR (Name_function_global ev.kind hk (hg A env _ _ s ev.glob ev.bt st.h₀ ?_) hd)
  refine callWith_K (h₀ := s.heap) (hplain := hplain') (he := he) (st.kin hX) hkp (wpAny_mono (h F s st ev) ?_ fun _ _ x => x)
  rintro vs s₁ ⟨F₁, σ₁, ms, t₁, hm, h₁⟩
  exact ⟨t₁.st.kin hX, wpAny_mono (WCall.v h₁ F₁ s₁ vs t₁.st hm) (fun _ _ p => p.trans t₁) fun _ _ x => x⟩

theorem gl_ni (hX : X.Ok) : GlobIs X "_NodeInfo" (.ref 40) := globK hX (by kernel_rfl)
theorem gl_ts (hX : X.Ok) : GlobIs X "TopologicalSorter" (.ref 137) := globK hX (by kernel_rfl)
theorem kp_ni : keepIn (KK X.w.params) (.ref 40) = true := by kernel_rfl
theorem kp_ts : keepIn (KK X.w.params) (.ref 137) = true := by kernel_rfl

/-- a node: its number, the count, the list of those behind it -/
def nodeD (dx : Addr) (k np : Int) (l : Addr) : Desc := mslots 40 dx [some (.int k), some (.int np), some (.ref l)]
theorem nodeinit_spec (hX : X.Ok) (hA : AOk 1 A) {x dx : Addr} {k : Int} (hx : σ x = some (mslots 40 dx [])) (hd : σ dx = some (mattrs [])) (hne : x ≠ dx)
    (h : ∀ l, σ l = none → Q .none ((((σ.put x (mslots 40 dx [some (.int k)])).put x (mslots 40 dx [some (.int k), some (.int 0)])).put l (mlist [])).put x (nodeD dx k 0 l))) : WCall X A 36 [.ref x, .int k] σ Q := by
  refine WCall_fn hX hA (fn_ni_init hX) (ps := ["self", "node"]) (fun z => WBind_pure fun vs hl => ?_) (by decide) (fun z => by kernel_rfl) (fun z L => ?_)
  · match vs, hl with
    | [v, u], _ => kernel_rfl
  refine WS_cons (WS1_setattr (WE_name rfl (WE_name rfl (Set_slot hX hx hd (sc_node) ?_))))
  refine WS_cons (WS1_setattr (WE_int (WE_name rfl (Set_slot hX (MHeap.put_self _ _ _) ?d1 (sc_np) ?_))))
  case d1 => rw [MHeap.put_ne (Ne.symm hne)]; exact hd
  refine WS_cons (WS1_setattr (WE_listM (WL_nil ⟨by decide, fun l hl => WE_name rfl (Set_slot hX (dx := dx) (ms := [some (.int k), some (.int 0)]) ?x2 ?d2 (sc_succ) ?_)⟩)))
  case x2 => rw [MHeap.put_ne (by rintro rfl; rw [MHeap.put_self] at hl; cases hl)]; exact MHeap.put_self _ _ _
  case d2 =>
    have hdl : dx ≠ l := by
      rintro rfl
      rw [MHeap.put_ne (Ne.symm hne), MHeap.put_ne (Ne.symm hne), hd] at hl; cases hl
    rw [MHeap.put_ne hdl, MHeap.put_ne (Ne.symm hne), MHeap.put_ne (Ne.symm hne)]; exact hd
  have hxl : l ≠ x := by rintro rfl; rw [MHeap.put_self] at hl; cases hl
  rw [MHeap.put_ne hxl, MHeap.put_ne hxl] at hl
  exact WS_nil (h l hl)
end
end Mine
end
section
open PySem PySem.W PyProof.Rows PySem.Calls
set_option Elab.async false
set_option maxRecDepth 100000
set_option linter.unusedVariables false
set_option linter.unusedSimpArgs false
namespace Mine
inductive KVs (F : Fz) : List (Int × MV) → List (Int × Value) → Prop
  | nil : KVs F [] []
  | cons {k : Int} {m : MV} {v : Value} {ms : List (Int × MV)} {vs : List (Int × Value)} : VH F m v → KVs F ms vs → KVs F ((k, m) :: ms) ((k, v) :: vs)
theorem KVs.mono {F F' : Fz} (h : F.le F') : ∀ {ms : List (Int × MV)} {vs : List (Int × Value)}, KVs F ms vs → KVs F' ms vs
  | _, _, .nil => .nil
  | _, _, .cons a b => .cons (a.mono h) (b.mono h)
theorem KVs.length {F : Fz} : ∀ {ms : List (Int × MV)} {vs : List (Int × Value)}, KVs F ms vs → vs.length = ms.length
  | _, _, .nil => rfl
  | _, _, .cons _ b => by simp [b.length]
def dlook (kvs : List (Int × MV)) (k : Int) : Option MV := (kvs.find? fun kv => decide (kv.1 = k)).map (·.2)
def dput (kvs : List (Int × MV)) (k : Int) (m : MV) : List (Int × MV) := if kvs.any (fun kv => decide (kv.1 = k)) then kvs.map (fun kv => if kv.1 = k then (kv.1, m) else kv) else kvs ++ [(k, m)]
theorem KVs.look {F : Fz} : ∀ {ms : List (Int × MV)} {vs : List (Int × Value)}, KVs F ms vs → ∀ (k : Int), (∀ m, dlook ms k = some m → ∃ v, valueAt vs k = some v ∧ VH F m v) ∧ (dlook ms k = none → valueAt vs k = none)
  | _, _, .nil, k => ⟨fun m h => by simp [dlook] at h, fun _ => rfl⟩
  | _, _, .cons (k := j) (m := m₀) (v := v₀) a b, k => by
    by_cases e : j = k
    · subst e
      refine ⟨fun m h => ⟨v₀, by simp [valueAt], ?_⟩, fun h => by simp [dlook] at h⟩
      simp [dlook] at h; subst h; exact a
    · have ih := b.look k
      have e1 : ∀ (ms : List (Int × MV)), dlook ((j, m₀) :: ms) k = dlook ms k := fun ms => by simp [dlook, List.find?_cons, e]
      have e2 : ∀ (vs : List (Int × Value)), valueAt ((j, v₀) :: vs) k = valueAt vs k := fun vs => by simp [valueAt, List.find?_cons, e]
      rw [e1, e2]; exact ih
theorem KVs.any {F : Fz} {k : Int} : ∀ {ms : List (Int × MV)} {vs : List (Int × Value)}, KVs F ms vs → vs.any (fun kv => decide (kv.1 = k)) = ms.any (fun kv => decide (kv.1 = k))
  | _, _, .nil => rfl
  | _, _, .cons a b => by simp only [List.any_cons, b.any]
theorem KVs.map {F : Fz} {k : Int} {m : MV} {v : Value} (hv : VH F m v) : ∀ {ms : List (Int × MV)} {vs : List (Int × Value)}, KVs F ms vs → KVs F (ms.map (fun kv => if kv.1 = k then (kv.1, m) else kv)) (vs.map (fun kv => if kv.1 = k then (kv.1, v) else kv))
  | _, _, .nil => .nil
  | _, _, .cons (k := j) a b => by
    simp only [List.map_cons]
    by_cases e : j = k
    · rw [if_pos e, if_pos e]; exact .cons hv (b.map hv)
    · rw [if_neg e, if_neg e]; exact .cons a (b.map hv)
theorem KVs.snoc {F : Fz} {k : Int} {m : MV} {v : Value} (hv : VH F m v) : ∀ {ms : List (Int × MV)} {vs : List (Int × Value)}, KVs F ms vs → KVs F (ms ++ [(k, m)]) (vs ++ [(k, v)])
  | _, _, .nil => .cons hv .nil
  | _, _, .cons a b => .cons a (b.snoc hv)
theorem KVs.put {F : Fz} {k : Int} {m : MV} {v : Value} (hv : VH F m v) {ms : List (Int × MV)} {vs : List (Int × Value)} (h : KVs F ms vs) : KVs F (dput ms k m) (stored vs k v) := by
  unfold dput stored
  have := h.any (k := k)
  by_cases e : ms.any (fun kv => decide (kv.1 = k)) = true
  · rw [if_pos e, if_pos (by rw [← this] at e; simpa using e)]; exact h.map hv
  · rw [if_neg e, if_neg (by rw [← this] at e; simpa using e)]; exact h.snoc hv
/-- a dict by ints -/
def mdict (X : Cx) (pn : Option Nat) (kvs : List (Int × MV)) : Desc := ⟨fun F o => (∃ vs : List (Int × Value), o.IsDictOf (intKind X.prog X.w) vs ∧ KVs F kvs vs) ∧ ∀ ep, pn = some ep → ∃ es, o.data = .dict es ep, fun _ _ _ h ⟨⟨vs, a, b⟩, c⟩ => ⟨⟨vs, a, b.mono h⟩, c⟩⟩
section
variable {X : Cx} {A : Around} {env : Env} {φ : MEnv} {σ : MHeap} {Q : MV → MHeap → Prop} {F : Fz} {s : Shared}
theorem St.dictAt {d : Addr} {pn : Option Nat} {kvs : List (Int × MV)} (st : St X F σ s) (hd : σ d = some (mdict X pn kvs)) : ∃ vs, s.heap.DictOf (intKind X.prog X.w) d vs ∧ KVs F kvs vs := by
  obtain ⟨o, ho, ⟨vs, h1, h2⟩, _⟩ := st.own d _ hd
  exact ⟨vs, Heap.dictOf_iff.mpr ⟨o, ho, h1⟩, h2⟩
/-- a dict whose keys do not change any more -/
theorem St.dictAtE {d : Addr} {ep : Nat} {kvs : List (Int × MV)} (st : St X F σ s) (hd : σ d = some (mdict X (some ep) kvs)) : ∃ vs, s.heap.DictAt (intKind X.prog X.w) d vs ep ∧ KVs F kvs vs := by
  obtain ⟨o, ho, ⟨vs, ⟨es, ep', h1, h2, h3, h4, h5⟩, h6⟩, hp⟩ := st.own d _ hd
  obtain ⟨es', he⟩ := hp ep rfl
  rw [h2] at he; cases he
  exact ⟨vs, ⟨o, es, ho, h1, h2, h3, h4, h5⟩, h6⟩
theorem isInt_is (k : Int) (t : Tok) : (intKind X.prog X.w).is k (.int k t) = true := intKind_is X.prog X.w k t
/-- d[k] -/
theorem V_ditem {value slice : Expr} {d : Addr} {pn : Option Nat} {kvs : List (Int × MV)} {k : Int} {m : MV} (hd : σ d = some (mdict X pn kvs)) (hm : dlook kvs k = some m) (h : Q m σ) (hs : plainSub slice := by intro _ _; rfl) : WV2 X A (subscriptTail value slice) (.ref d) (.int k) σ Q := by
  rintro F s v u st hv hu; simp only [MV.ref, VH] at hv hu; subst hv; obtain ⟨t, rfl⟩ := hu
  obtain ⟨vs, hD, hk⟩ := st.dictAt hd
  obtain ⟨w, hw, hvw⟩ := (hk.look k).1 m hm
  exact tail_any hD.typeIs slot_dict_getitem.lookup (wpAny_getItem_of (isInt_is k t) hD.mapOf hw (.tk st hvw h)) (hs _ _)
/-- d.get(k) -/
theorem B_dget {d : Addr} {pn : Option Nat} {kvs : List (Int × MV)} {k : Int} {r : MV} (hd : σ d = some (mdict X pn kvs)) (lo : (d == sysModules) = false) (hr : (dlook kvs k).getD .none = r) (h : Q r σ) : WCv X A (.builtin "dict.get") [.ref d, .int k] σ Q := by
  rintro F s vs st hv
  simp only [MV.ref, VHs, VH] at hv
  obtain ⟨_, _, rfl, rfl, _, _, rfl, ⟨t, rfl⟩, rfl⟩ := hv
  obtain ⟨vs, hD, hk⟩ := st.dictAt hd
  refine call_meetsIn PySem.F.slot_dict_get hD.typeIs PySem.F.entry_dict_get (PySem.F.args_dict_get_2 _ _) (meets_dict_get (intKind X.prog X.w) d (isInt_is k t) lo) ⟨_, hD.mapOf, ?_⟩
  cases q : dlook kvs k with
  | none =>
    rw [q] at hr; cases hr
    rw [(hk.look k).2 q]
    exact .tk (mv := .none) st (by simp only [VH]; rfl) h
  | some m =>
    rw [q] at hr; cases hr
    obtain ⟨w, hw, hvw⟩ := (hk.look k).1 m q
    rw [hw]
    exact .tk st hvw h
end
end Mine
end
section
open PySem PySem.W PyProof.Rows PySem.Calls
set_option Elab.async false
set_option maxRecDepth 100000
set_option linter.unusedVariables false
set_option linter.unusedSimpArgs false
namespace Mine
section
variable {X : Cx} {A : Around} {env : Env} {φ : MEnv} {σ : MHeap} {F : Fz} {s : Shared}
def isNone : MV → Option Bool
  | .none => some true
  | .raw (.ref _) => some false
  | .int _ => some false
  | _ => Option.none
theorem VH.isNone {mv : MV} {v : Value} {c : Bool} (h : VH F mv v) (hc : Mine.isNone mv = some c) : plainIs v .none = true ∧ (v == .none) = c := by
  match mv, h, hc with
  | .none, h, hc => simp only [VH] at h; subst h; cases hc; exact ⟨rfl, rfl⟩
  | .int _, h, hc => simp only [VH] at h; obtain ⟨t, rfl⟩ := h; cases hc; exact ⟨rfl, rfl⟩
  | .raw (.ref _), h, hc => simp only [VH] at h; subst h; cases hc; exact ⟨rfl, rfl⟩
/-- if (x := e) is None -/
theorem WS1_ifWalrus {Q : MF → MEnv → MHeap → Prop} {x : Str} {e : Expr} {p q r cp pos : Pos} {k : Nat} {b o : List Stmt}
    (h : WE X A env e φ σ (fun mv σ₁ => ∃ c, isNone mv = some c ∧ match c with | true => WS X A env b ((x, mv) :: φ) σ₁ Q | false => WS X A env o ((x, mv) :: φ) σ₁ Q)) (hx : storable env x = true := by rfl) :
    WS1 X A env (.If (.Compare (.NamedExpr (.Name x p) e q) [.Is] [.Constant .none k r] cp) b o pos) φ σ Q := by
  intro B F s f
  refine wpAny_If (wpAny_isTrue_Compare1 (wpAny_NamedExpr (wpAny_mono (h F s f.st f.ev) ?_ fun _ _ x => x)) rfl)
  rintro v s₁ ⟨F₁, σ₁, mv, t₁, hv, c, hc, h₁⟩
  refine wpAny_assign_Name (wpAny_mono ((f.step t₁).store hv hx) ?_ fun _ _ x => x)
  intro _ s₂ f₂
  obtain ⟨hp, hb⟩ := hv.isNone hc
  refine wpAny_Constant_none (wpAny_is_plain hp (wpAny_truthy_bool ?_))
  rw [hb]
  cases c with
  | true => exact h₁ B F₁ s₂ f₂
  | false => exact h₁ B F₁ s₂ f₂
/-- {} as a dict by ints -/
theorem sys_lt (hX : X.Ok) (st : St X F σ s) : (s.heap.objs.size == sysModules) = false := by
  have h := st.h₀ 275 _ (at_ hX 275 (by kernel_rfl))
  have this : (275 : Nat) < s.heap.objs.size := get?_lt h
  have e : sysModules = 1 := rfl
  have hne : s.heap.objs.size ≠ 1 := by omega
  rw [e]
  exact beq_eq_false_iff_ne.mpr hne
theorem WE_dict0 (hX : X.Ok) {pos : Pos} {Q : MV → MHeap → Prop} (h : ∀ a, σ a = none → (a == sysModules) = false → Q (.ref a) (σ.put a (mdict X none []))) : WE X A env (.Dict [] [] pos) φ σ Q := by
  intro F s st ev
  refine wpAny_Dict_empty ?_
  have hD : (s.heap.push { cls := .type "dict", data := .dict #[] }).DictOf (intKind X.prog X.w) s.heap.objs.size [] := Heap.DictOf.new _
  obtain ⟨o, ho, hi⟩ := Heap.dictOf_iff.mp hD
  have ho' : o = { cls := .type "dict", data := .dict #[] } := by
    have := Heap.get?_push_size (h := s.heap) (o := { cls := .type "dict", data := .dict #[] }) rfl
    rw [this] at ho; cases ho; rfl
  subst ho'
  have tr := Trans.allocM (d := mdict X none []) (o := { cls := .type "dict", data := .dict #[] }) (t := s.toks) st rfl ⟨⟨[], hi, .nil⟩, fun _ h => nomatch h⟩
  exact ⟨F, _, .ref s.heap.objs.size, tr, by simp only [MV.ref, VH], h _ st.freshSize.2 (sys_lt hX st)⟩
/-- o.name(args) of a built-in type -/
theorem WE_bmeth {Q : MV → MHeap → Prop} {o : Expr} {name : Str} {apos pos : Pos} {args : List Expr} {T id : String} {pl : Sem Bool} (pa : PlainAttrs T) (slot : Slot T name id) (hty : typeOf (.builtin id) = pure (.type "method_descriptor"))
    (h : WE X A env o φ σ (fun l σ₁ => (∀ F s v, St X F σ₁ s → VH F l v → s.TypeIs v T ∧ ∀ a, v = .ref a → ∃ o, s.heap.get? a = some o ∧ o.dict = none) ∧ WL X A env pos args φ σ₁ (fun ms σ₂ => WCv X A (.builtin id) (l :: ms) σ₂ Q)))
    (hp : (backTo pos (starEach args env)).any (·.1) = false := by rfl) (hn : loneStar (backTo pos (starEach args env)) = false := by rfl)
    (he : eval (.Call (.Attribute o name apos) args [] pos) env = (do
      let ov ← eval o env
      standAt apos.atName
      let (f, first) ← holding [ov] (getMethod ov name pl)
      callWith pos f first (backTo pos (starEach args env)) (backToKw pos (keywordEach [] env))) := by rfl) : WE X A env (.Call (.Attribute o name apos) args [] pos) φ σ Q := by
  intro F s st ev
  refine methodCall_KW (pl := pl) (wpAny_mono (h F s st ev) ?_ fun _ _ x => x) he
  rintro v s₁ ⟨F₁, σ₁, l, t₁, hl, hT, h₁⟩
  obtain ⟨hty', hdd⟩ := hT F₁ s₁ v t₁.st hl
  refine getMethod_builtin hty' pa slot hty hdd ?_
  refine callWith_builtin hp (evalArgs_sp hn (wpAny_mono (h₁ F₁ s₁ t₁.st (ev.step t₁.toSince)) ?_ fun _ _ x => x))
  rintro vs s₂ ⟨F₂, σ₂, ms, t₂, hms, h₂⟩
  exact wpAny_mono (h₂ F₂ s₂ (v :: vs) t₂.st (by simp only [VHs]; exact ⟨_, _, rfl, hl.mono t₂.mono, hms⟩)) (fun _ _ p => p.trans (t₁.trans t₂)) fun _ _ x => x
theorem WE_dget {Q : MV → MHeap → Prop} {o e : Expr} {apos pos : Pos} {d : Addr} {pn : Option Nat} {kvs : List (Int × MV)} {pl : Sem Bool}
    (h : WE X A env o φ σ (fun l σ₁ => l = .ref d ∧ σ₁ d = some (mdict X pn kvs) ∧ WE X A env e φ σ₁ (fun k σ₂ => ∃ i, k = .int i ∧ σ₂ d = some (mdict X pn kvs) ∧ (d == sysModules) = false ∧ Q ((dlook kvs i).getD .none) σ₂)))
    (hse : starEach [e] env = (false, eval e env) :: starEach [] env := by rfl)
    (he : eval (.Call (.Attribute o "get" apos) [e] [] pos) env = (do
      let ov ← eval o env
      standAt apos.atName
      let (f, first) ← holding [ov] (getMethod ov "get" pl)
      callWith pos f first (backTo pos (starEach [e] env)) (backToKw pos (keywordEach [] env))) := by rfl) : WE X A env (.Call (.Attribute o "get" apos) [e] [] pos) φ σ Q := by
  refine WE_bmeth (pl := pl) PySem.F.plainAttrs_dict PySem.F.slot_dict_get PySem.F.type_dict_get ?_ (by rw [hse]; rfl) (by rw [hse]; rfl) he
  refine WT.mono h ?_
  rintro l σ₁ ⟨rfl, hd, h₁⟩
  refine ⟨fun F s v st hv => ?_, WL_cons (WT.mono h₁ ?_) hse⟩
  · simp only [MV.ref, VH] at hv; subst hv
    obtain ⟨vs, hD, hk⟩ := st.dictAt hd
    exact ⟨hD.typeIs, hD.mapOf.noDict⟩
  · rintro k σ₂ ⟨i, rfl, hd₂, lo, hq⟩
    exact WL_nil (B_dget hd₂ lo rfl hq)
end
end Mine
end
section
open PySem PySem.W PyProof.Rows PySem.Calls
set_option Elab.async false
set_option maxRecDepth 100000
set_option linter.unusedVariables false
set_option linter.unusedSimpArgs false
namespace Mine
structure SS where
  order : List Int
  np : Int → Int
  succ : Int → List Int
  ready : Option (List Int)
  passed : Int
  fin : Int
  pin : Option Nat := none
inductive Loc where
  | self | dict | map | ready
  | nd (k : Int) | ndx (k : Int) | nl (k : Int)
  deriving DecidableEq
def live (S : SS) : Loc → Prop
  | .self => True
  | .dict => True
  | .map => True
  | .ready => S.ready ≠ none
  | .nd k => k ∈ S.order
  | .ndx k => k ∈ S.order
  | .nl k => k ∈ S.order
def attrsOf (ad : Loc → Addr) (S : SS) : List (Str × MV) :=
  [("_node2info", .ref (ad .map)), ("_ready_nodes", match S.ready with | none => .none | some _ => .ref (ad .ready)), ("_npassedout", .int S.passed), ("_nfinished", .int S.fin)]
def descOf (X : Cx) (ad : Loc → Addr) (S : SS) : Loc → Desc
  | .self => minst 137 (ad .dict)
  | .dict => mattrs (attrsOf ad S)
  | .map => mdict X S.pin (S.order.map fun k => (k, .ref (ad (.nd k))))
  | .ready => mlist ((S.ready.getD []).map .int)
  | .nd k => nodeD (ad (.ndx k)) k (S.np k) (ad (.nl k))
  | .ndx k => mattrs []
  | .nl k => mlist ((S.succ k).map .int)
structure SorterIs (X : Cx) (σ : MHeap) (ad : Loc → Addr) (S : SS) : Prop where
  at_ : ∀ l, live S l → σ (ad l) = some (descOf X ad S l)
  inj : ∀ l l', live S l → live S l' → ad l = ad l' → l = l'
  sys : (ad .map == sysModules) = false
/-- all else is as it was -/
def Rest (S : SS) (ad : Loc → Addr) (σ σ' : MHeap) : Prop := ∀ b, (∀ l, live S l → b ≠ ad l) → σ b ≠ none → σ' b = σ b
/-- one place of the sorter's is turned -/
theorem SorterIs.put {X : Cx} {σ : MHeap} {ad : Loc → Addr} {S S' : SS} (h : SorterIs X σ ad S) (l : Loc) (hl : live S l) (hlive : ∀ l', live S' l' ↔ live S l') (hd : ∀ l', l' ≠ l → live S l' → descOf X ad S' l' = descOf X ad S l') :
    SorterIs X (σ.put (ad l) (descOf X ad S' l)) ad S' ∧ Rest S ad σ (σ.put (ad l) (descOf X ad S' l)) := by
  refine ⟨⟨fun l' hl' => ?_, fun l₁ l₂ h1 h2 => h.inj l₁ l₂ ((hlive _).mp h1) ((hlive _).mp h2), h.sys⟩, fun b hb _ => MHeap.put_ne (hb l hl)⟩
  by_cases e : l' = l
  · subst e; exact MHeap.put_self _ _ _
  · have hne : ad l' ≠ ad l := fun q => e (h.inj l' l ((hlive _).mp hl') hl q)
    rw [MHeap.put_ne hne, hd l' e ((hlive _).mp hl')]
    exact h.at_ l' ((hlive _).mp hl')
end Mine
end
section
open PySem PySem.W PyProof.Rows PySem.Calls
set_option Elab.async false
set_option maxRecDepth 100000
set_option linter.unusedVariables false
set_option linter.unusedSimpArgs false
namespace Mine
theorem meets_bool_list (l : Addr) (items : Array Value) (hfit : (items.size : Int) < 2 ^ 63) : Meets (Builtin.«bool.__new__» ⟨[.type "bool", .ref l], []⟩) (fun _ R s => s.heap.IsList l items ∧ R (.ok (.ret (.bool (!items.isEmpty)))) { s with toks := s.toks + 1 + 1 }) :=
  Meets.of_wp fun prog w A R s hs => by
    obtain ⟨hp, g, d, tk, os⟩ := s
    obtain ⟨hl, h⟩ := hs
    have f1 := PySem.F.conv_sub_bool
    repeat (any_goals (first | assumption | with_reducible refine wpAny_truthy_list hl hfit ?_ | wp_step))
    all_goals first | exact ⟨_, rfl, h⟩ | skip
section
variable {X : Cx} {A : Around} {env : Env} {φ : MEnv} {σ : MHeap} {Q : MV → MHeap → Prop} {F : Fz} {s : Shared}
theorem T_boolM {a : Addr} {xs : List MV} (ha : σ a = some (mlist xs)) (hlen : xs.length ≤ sizeLine) (h : Q (.bool (!xs.isEmpty)) σ) : WCv X A (.type "bool") [.ref a] σ Q := by
  rintro F s vs st hv
  simp only [MV.ref, VHs, VH] at hv
  obtain ⟨_, _, rfl, rfl, rfl⟩ := hv
  obtain ⟨items, n, ho, hx⟩ := st.mlistAt ha
  have e : items.size = xs.length := by have := hx.length; simpa using this
  have hfit : (items.size : Int) < 2 ^ 63 := by
    have : sizeLine < 2 ^ 63 := by decide
    omega
  refine call_bool_1 (meets_bool_list a items hfit) ⟨⟨_, ho, rfl, n, rfl⟩, ?_⟩
  have e2 : (!items.isEmpty) = !xs.isEmpty := by
    cases xs with
    | nil => simp at e; simp [e]
    | cons y ys =>
      have : items ≠ #[] := by rintro rfl; simp at e
      simp [this]
  refine ⟨?_, .tk st (by simp only [VH, e2]) h⟩
  first | exact rfl | exact ⟨rfl⟩ | trivial
end
end Mine
end
section
open PySem PySem.W PyProof.Rows PySem.Calls
set_option Elab.async false
set_option maxRecDepth 100000
set_option linter.unusedVariables false
set_option linter.unusedSimpArgs false
namespace Mine
section
variable {X : Cx} {A : Around} {env : Env} {φ : MEnv} {σ : MHeap} {Q : MV → MHeap → Prop} {ad : Loc → Addr} {S : SS}
theorem gl_bool (hX : X.Ok) : GlobIs X "bool" (.type "bool") := globB hX (by kernel_rfl) (by kernel_rfl) (by decide)
theorem look_rdy {rl : List Int} (hr : S.ready = some rl) : (attrsOf ad S).lookup ("_ready_nodes" : Str) = some (.ref (ad .ready)) := by
  unfold attrsOf; rw [hr]; rfl
/-- self.attr of the sorter -/
theorem WE_self (hX : X.Ok) (hs : SorterIs X σ ad S) {p pos : Pos} {name : Str} {mv : MV} (hn : φ.lookup ("self" : Str) = some (.ref (ad .self))) (hl : (attrsOf ad S).lookup name = some mv) (hc : AttrCls X 137 name) (hh : handedMV mv = true) (h : Q mv σ)
    (he : eval (.Attribute (.Name "self" p) name pos) env = (do
      let o ← eval (.Name "self" p) env
      standAt pos.atName
      let r ← holding [o] (getAttr o name true)
      letTemporaryGo (.Name "self" p) o r
      pure r) := by with_unfolding_all rfl) : WE X A env (.Attribute (.Name "self" p) name pos) φ σ Q :=
  WE_attr (WE_name hn (V_attr hX (hs.at_ .self trivial) (hs.at_ .dict trivial) hl hc h hh)) he
theorem active_spec (hX : X.Ok) (hA : AOk 1 A) (hs : SorterIs X σ ad S) {rl : List Int} (hr : S.ready = some rl) (hlen : rl.length ≤ 1000) (h : Q (.bool (decide (S.fin < S.passed) || !rl.isEmpty)) σ) : WCall X A 106 [.ref (ad .self)] σ Q := by
  refine WCall1 hX hA "self" (fn_ts_is_active hX) (fun z v => by kernel_rfl) (fun z => by kernel_rfl) (fun z L => ?_)
  refine WS_cons (WS1_if (WB_compare (WE_self hX hs rfl (look_rdy hr) ac_rdy rfl (WE_none (V_refIsNone (Tr_bool (WS_nil ?_)))))))
  refine WS_cons (WS1_return (WE_boolop (WBo_or (WE_compare (WE_self hX hs rfl rfl ac_nf rfl (WE_self hX hs rfl rfl ac_npo rfl (V_lt (Tr_bool ?_))))))))
  cases hd : decide (S.fin < S.passed) with
  | true => rw [hd] at h; exact ⟨rfl, h⟩
  | false =>
    rw [hd] at h
    refine ⟨rfl, WBo_last (WE_callT (gl_bool hX) (WL_cons (WE_self hX hs rfl (look_rdy hr) ac_rdy rfl (WL_nil (T_boolM (hs.at_ .ready (by show S.ready ≠ none; rw [hr]; exact Option.some_ne_none _)) ?_ ?_)))))⟩
    · rw [hr, List.length_map]
      have : (1000 : Nat) ≤ sizeLine := by decide
      exact Nat.le_trans hlen this
    · rw [hr]
      have e : ((some rl).getD []).map MV.int = rl.map .int := rfl
      rw [e]
      cases rl <;> exact h
end
end Mine
end
section
open PySem PySem.W PyProof.Rows PySem.Calls
set_option Elab.async false
set_option maxRecDepth 100000
set_option linter.unusedVariables false
set_option linter.unusedSimpArgs false
namespace Mine
section
variable {X : Cx} {A : Around} {env : Env} {φ : MEnv} {σ : MHeap} {Q : MV → MHeap → Prop} {ad : Loc → Addr} {S : SS}
theorem T_tupleM {a : Addr} {xs : List MV} (ha : σ a = some (mlist xs)) (hlen : xs.length ≤ sizeLine) (h : Q (.tup xs) σ) : WCv X A (.type "tuple") [.ref a] σ Q := by
  rintro F s vs st hv
  simp only [MV.ref, VHs, VH] at hv
  obtain ⟨_, _, rfl, rfl, rfl⟩ := hv
  obtain ⟨items, n, ho, hx⟩ := st.mlistAt ha
  refine call_tuple_list ⟨_, ho, rfl, n, rfl⟩ (fun h' hk => ?_) (by have := hx.length; simp at this; omega)
  have g := Trans.grown (t := s.toks) st hk
  have tr := Trans.alloc g.st (tobj items 0) rfl s.toks
  refine ⟨_, σ, .tup xs, g.trans tr, ?_, h⟩
  simp only [VH]
  exact ⟨_, items, 0, rfl, Fz.put_self _ _ _, hx.mono (Fz.le_put g.st.freshSize.1)⟩
theorem B_lenT {xs : List MV} (hlen : xs.length ≤ sizeLine) (h : Q (.int xs.length) σ) : WCv X A (.builtin "len") [.tup xs] σ Q := by
  rintro F s vs st hv
  simp only [VHs] at hv
  obtain ⟨v, _, rfl, hv, rfl⟩ := hv
  obtain ⟨a, items, n, rfl, hf, hl, hx⟩ := hv.tupAt st
  have e : items.size = xs.length := by have := hx.length; simpa using this
  refine PyProof.Rows.len_tuple hl ?_ (.tk st ?_ h)
  · rw [e]; have : sizeLine < 2 ^ 63 := by decide
    omega
  · simp only [VH]; exact ⟨_, by rw [e]⟩
theorem B_clear {a : Addr} {xs : List MV} (ha : σ a = some (mlist xs)) (hlen : xs.length ≤ sizeLine) (h : Q .none (σ.put a (mlist []))) : WCv X A (.builtin "list.clear") [.ref a] σ Q := by
  rintro F s vs st hv
  simp only [MV.ref, VHs, VH] at hv
  obtain ⟨_, _, rfl, rfl, rfl⟩ := hv
  obtain ⟨items, n, ho, hx⟩ := st.mlistAt ha
  have e : items.size = xs.length := by have := hx.length; simpa using this
  refine call_meets PySem.F.slot_list_clear ⟨_, ho, rfl⟩ PySem.F.entry_list_clear (PySem.F.args_list_clear_1 _) (AutoSeq1.list_clear_list_0 a items n (by omega)) ⟨ho, ?_⟩
  have hk : ∃ k, Obj.mapSeq (fun _ => #[]) (lobj items n) = lobj #[] k := ⟨_, rfl⟩
  obtain ⟨k, hk⟩ := hk
  have hup := Heap.get?_update_self (h := s.heap) (Obj.mapSeq fun _ => #[]) ho (by rw [hk]; rfl)
  rw [hk] at hup
  have tr := Trans.mut (d' := mlist []) (t := s.toks) st ha (Heap.SameBut.update (a := a) (h := s.heap) (f := Obj.mapSeq fun _ => #[])).extBut hup ⟨#[], k, rfl, by simp [VHs]⟩
  exact ⟨F, _, .none, tr, by simp only [VH], h⟩
theorem mlist_type {a : Addr} {xs : List MV} (ha : σ a = some (mlist xs)) : ∀ F s v, St X F σ s → VH F (.ref a) v → s.TypeIs v "list" ∧ ∀ b, v = .ref b → ∃ o, s.heap.get? b = some o ∧ o.dict = none := by
  intro F s v st hv
  simp only [MV.ref, VH] at hv; subst hv
  obtain ⟨items, n, ho, hx⟩ := st.mlistAt ha
  exact ⟨⟨_, ho, rfl⟩, fun b e => by cases e; exact ⟨_, ho, rfl⟩⟩
end
end Mine
end
section
open PySem PySem.W PyProof.Rows PySem.Calls
set_option Elab.async false
set_option maxRecDepth 100000
set_option linter.unusedVariables false
set_option linter.unusedSimpArgs false
namespace Mine
def SS.setNp (S : SS) (k v : Int) : SS := { S with np := fun j => if j = k then v else S.np j }
section
variable {X : Cx} {A : Around} {env : Env} {φ : MEnv} {σ : MHeap} {Q : MV → MHeap → Prop} {ad : Loc → Addr} {S : SS}
theorem SorterIs.setNp (h : SorterIs X σ ad S) {k : Int} (v : Int) (hk : k ∈ S.order) : SorterIs X (σ.put (ad (.nd k)) (nodeD (ad (.ndx k)) k v (ad (.nl k)))) ad (S.setNp k v) ∧ Rest S ad σ (σ.put (ad (.nd k)) (nodeD (ad (.ndx k)) k v (ad (.nl k)))) := by
  have := h.put (S' := S.setNp k v) (.nd k) hk (fun l' => by cases l' <;> exact Iff.rfl) (fun l' hl' _ => by
    match l', hl' with
    | .self, _ => rfl
    | .dict, _ => rfl
    | .map, _ => rfl
    | .ready, _ => rfl
    | .ndx _, _ => rfl
    | .nl _, _ => rfl
    | .nd j, hl' =>
      have hj : j ≠ k := fun e => hl' (by rw [e])
      show nodeD _ _ _ _ = nodeD _ _ _ _
      simp [SS.setNp, hj])
  have e : descOf X ad (S.setNp k v) (.nd k) = nodeD (ad (.ndx k)) k v (ad (.nl k)) := by
    show nodeD _ _ _ _ = _
    simp [SS.setNp]
  rw [e] at this
  exact this
theorem dlook_map {α : Type} {f : Int → MV} : ∀ {l : List Int} {k : Int}, k ∈ l → dlook (l.map fun j => (j, f j)) k = some (f k)
  | [], k, h => by cases h
  | j :: r, k, h => by
    unfold dlook
    by_cases e : j = k
    · subst e; simp
    · have : k ∈ r := by
        rcases List.mem_cons.mp h with h | h
        · exact absurd h.symm e
        · exact h
      have ih := dlook_map (α := α) (f := f) this
      unfold dlook at ih
      simp only [List.map_cons, List.find?_cons, e, decide_false]
      exact ih
end
end Mine
end
section
open PySem PySem.W PyProof.Rows PySem.Calls
set_option Elab.async false
set_option maxRecDepth 100000
set_option linter.unusedVariables false
set_option linter.unusedSimpArgs false
namespace Mine
def SS.outs (S : SS) (ks : List Int) : SS := ks.foldl (fun S k => S.setNp k (-1)) S
theorem SS.outs_order : ∀ (ks : List Int) (S : SS), (S.outs ks).order = S.order
  | [], S => rfl
  | k :: ks, S => SS.outs_order ks (S.setNp k (-1))
theorem SS.outs_ready : ∀ (ks : List Int) (S : SS), (S.outs ks).ready = S.ready
  | [], S => rfl
  | k :: ks, S => SS.outs_ready ks (S.setNp k (-1))
def SS.afterReady (S : SS) (rl : List Int) : SS := { S.outs rl with ready := some [], passed := S.passed + rl.length }
section
variable {X : Cx} {A : Around} {env : Env} {φ : MEnv} {σ σ' σ'' : MHeap} {Q : MV → MHeap → Prop} {ad : Loc → Addr} {S S' : SS}
theorem Rest.trans (h : ∀ l, live S' l ↔ live S l) (a : Rest S ad σ σ') (b : Rest S' ad σ' σ'') : Rest S ad σ σ'' := fun x hx n => by
  have e := a x hx n
  have e2 := b x (fun l hl => hx l ((h l).mp hl)) (by rw [e]; exact n)
  rw [e2, e]
theorem Rest.refl : Rest S ad σ σ := fun _ _ _ => rfl
theorem gl_tuple (hX : X.Ok) : GlobIs X "tuple" (.type "tuple") := globB hX (by kernel_rfl) (by kernel_rfl) (by decide)
theorem setA_npo {n : Int} : setA "_npassedout" (.int n) (attrsOf ad S) = attrsOf ad { S with passed := n } := by
  unfold attrsOf; rfl
theorem gl_len' (hX : X.Ok) : GlobIs X "len" (.builtin "len") := globB hX (by kernel_rfl) (by kernel_rfl) (by decide)
theorem gl_out (hX : X.Ok) : ∃ t, GlobIs X "_NODE_OUT" (.int (-1) t) := ⟨_, globK hX (v := .int (-1) _) (by with_unfolding_all rfl)⟩
theorem ready_spec (hX : X.Ok) (hA : AOk 1 A) (hs : SorterIs X σ ad S) {rl : List Int} (hr : S.ready = some rl) (hin : ∀ k ∈ rl, k ∈ S.order) (hlen : rl.length ≤ 1000)
    (h : ∀ σ', SorterIs X σ' ad (S.afterReady rl) → Rest S ad σ σ' → Q (.tup (rl.map .int)) σ') : WCall X A 99 [.ref (ad .self)] σ Q := by
  refine WCall1 hX hA "self" (fn_ts_get_ready hX) (fun z v => by kernel_rfl) (fun z => by kernel_rfl) (fun z L => ?_)
  have hl1 : (rl.map MV.int).length ≤ sizeLine := by
    rw [List.length_map]; have : (1000 : Nat) ≤ sizeLine := by decide
    exact Nat.le_trans hlen this
  have hrd := hs.at_ .ready (by show S.ready ≠ none; rw [hr]; exact Option.some_ne_none _)
  have hrd' : σ (ad .ready) = some (mlist (rl.map .int)) := by rw [hrd]; show some (mlist ((S.ready.getD []).map .int)) = _; rw [hr]; rfl
  refine WS_cons (WS1_if (WB_compare (WE_self hX hs rfl (look_rdy hr) ac_rdy rfl (WE_none (V_refIsNone (Tr_bool (WS_nil ?_)))))))
  refine WS_cons (WS1_assign (WE_callT (gl_tuple hX) (WL_cons (WE_self hX hs rfl (look_rdy hr) ac_rdy rfl (WL_nil (T_tupleM hrd' hl1 ?_))))))
  refine WS_cons (WS1_assign (WE_self hX hs rfl rfl ac_n2i rfl ?_))
  obtain ⟨tk, hout⟩ := gl_out hX
  have loop : ∀ (P : MF → MEnv → MHeap → Prop) (rest : List Int) (S' : SS) (σ' : MHeap) (φ : MEnv), SorterIs X σ' ad S' → S'.order = S.order → S'.ready = S.ready → (∀ k ∈ rest, k ∈ S.order) → Rest S ad σ σ' →
      φ.lookup ("n2i" : Str) = some (.ref (ad .map)) → φ.lookup ("self" : Str) = some (.ref (ad .self)) → φ.lookup ("result" : Str) = some (.tup (rl.map .int)) →
      (∀ σ'' φ'', SorterIs X σ'' ad (S'.outs rest) → Rest S ad σ σ'' → φ''.lookup ("self" : Str) = some (.ref (ad .self)) → φ''.lookup ("result" : Str) = some (.tup (rl.map .int)) → P .next φ'' σ'') →
      LoopQ X (A.deeper (fEnv (meth 6 4) "TopologicalSorter.get_ready" .none 99 z L)) (fEnv (meth 6 4) "TopologicalSorter.get_ready" .none 99 z L) "node" ((match (fBody (meth 6 4)).drop 3 with | .For _ _ b _ _ :: _ => b | _ => [])) (fun _ => True) P (rest.map .int) φ σ' := by
    intro P rest
    induction rest with
    | nil => intro S' σ' φ hs' ho hrd hin hR _ h2 h3 hP; exact hP σ' φ hs' hR h2 h3
    | cons k rest ih =>
      intro S' σ' φ hs' ho hrd hin hR h1 h2 h3 hP
      have hk : k ∈ S'.order := by rw [ho]; exact hin k List.mem_cons_self
      have hn := hs'.setNp (-1) hk
      refine WS_cons (WS1_setattr (WE_globInt hout (WE_item (WE_name h1 (WE_name lookup_cons_self (V_ditem (hs'.at_ .map trivial) (dlook_map (α := Nat) (f := fun j => .ref (ad (.nd j))) hk) (Set_slot hX (hs'.at_ (.nd k) hk) (hs'.at_ (.ndx k) hk) sc_np (WS_nil ⟨trivial, ?_⟩))))))))
      refine ih (S'.setNp k (-1)) _ _ hn.1 ho hrd (fun j hj => hin j (List.mem_cons_of_mem _ hj)) (Rest.trans (fun l => by cases l <;> simp [live, ho, hrd]) hR hn.2) h1 h2 h3 hP
  refine WS_cons (WS1_for (WE_name rfl ⟨_, _, iter_tup hA.handled, trivial, loop _ rl S σ _ hs rfl rfl hin Rest.refl rfl rfl rfl ?_⟩))
  intro σ1 φ1 hs1 hR1 hself hres
  have hr1 : (S.outs rl).ready = some rl := (SS.outs_ready rl S).trans hr
  have hlv : ∀ l, live (S.outs rl) l ↔ live S l := fun l => by cases l <;> simp [live, SS.outs_order, SS.outs_ready]
  have hrd1 : σ1 (ad .ready) = some (mlist (rl.map .int)) := by
    rw [hs1.at_ .ready (by show (S.outs rl).ready ≠ none; rw [hr1]; exact Option.some_ne_none _)]
    show some (mlist (((S.outs rl).ready.getD []).map .int)) = _
    rw [hr1]; rfl
  refine WS_cons (WS1_expr (WE_bmeth PySem.F.plainAttrs_list PySem.F.slot_list_clear PySem.F.type_list_clear (WE_self hX hs1 hself (look_rdy hr1) ac_rdy rfl ⟨mlist_type hrd1, WL_nil (B_clear hrd1 hl1 ⟨rfl, ?_⟩)⟩)))
  have hp2 := hs1.put (S' := { S.outs rl with ready := some [] }) .ready (by show (S.outs rl).ready ≠ none; rw [hr1]; exact Option.some_ne_none _) (fun l => by cases l <;> simp [live, hr1]) (fun l' hl' _ => by
    cases l' <;> first | rfl | exact absurd rfl hl' | skip
    show mattrs (attrsOf _ _) = mattrs (attrsOf _ _)
    unfold attrsOf; rw [hr1])
  obtain ⟨hs2, hR2⟩ := hp2
  have hp3 := hs2.put (S' := { S.outs rl with ready := some [], passed := (S.outs rl).passed + rl.length }) .dict trivial (fun l => by cases l <;> simp [live]) (fun l' hl' _ => by
    cases l' <;> first | rfl | exact absurd rfl hl')
  obtain ⟨hs3, hR3⟩ := hp3
  have hpas : ∀ (ks : List Int) (S : SS), (S.outs ks).passed = S.passed := fun ks => by
    induction ks with
    | nil => intro S; rfl
    | cons k ks ih => intro S; exact ih (S.setNp k (-1))
  refine WS_cons (WS1_augattr (WE_name hself (V_attr hX (hs2.at_ .self trivial) (hs2.at_ .dict trivial) (mv := .int (S.outs rl).passed) rfl ac_npo (WE_callB (gl_len' hX) (WL_cons (WE_name hres (WL_nil (B_lenT hl1 (V_iadd (Set_attr hX (hs2.at_ .self trivial) (hs2.at_ .dict trivial) st_npo (by show 4 ≤ 100; decide) ?_))))))))))
  refine WS_cons (WS1_return (WE_name hres ?_))
  rw [setA_npo]
  refine h _ ?_ ?_
  · have := hs3
    simpa [SS.afterReady, descOf, hpas] using this
  · have e1 := Rest.trans (S := S) (S' := S.outs rl) hlv hR1 hR2
    have e2 := Rest.trans (S := S) (S' := { S.outs rl with ready := some [] }) (fun l => by rw [← hlv l]; cases l <;> simp [live, hr1]) e1 hR3
    simpa [descOf, hpas] using e2
end
end Mine
end
section
open PySem PySem.W PyProof.Rows PySem.Calls
set_option Elab.async false
set_option maxRecDepth 100000
set_option linter.unusedVariables false
set_option linter.unusedSimpArgs false
namespace Mine
section
variable {X : Cx} {A : Around} {env : Env} {φ : MEnv} {σ : MHeap} {F : Fz} {s : Shared} {Q : MF → MEnv → MHeap → Prop}
/-- d[k] = x = e -/
theorem WS1_assignD2 {o i value : Expr} {x : Str} {p tp pos : Pos}
    (h : WE X A env value φ σ (fun mv σ₁ => WE X A env o φ σ₁ (fun ov σ₂ => WE X A env i φ σ₂ (fun iv σ₃ => ∃ d kvs k, ov = .ref d ∧ iv = .int k ∧ σ₃ d = some (mdict X none kvs) ∧ kvs.length ≤ sizeLine ∧ Q .next ((x, mv) :: φ) (σ₃.put d (mdict X none (dput kvs k mv)))))))
    (hx : storable env x = true := by rfl)
    (he : (assignEach [.Subscript o i tp, .Name x p] env).map (·.2) = [assign (.Subscript o i tp) env, assign (.Name x p) env] := by rfl)
    (hw : swappedStores [.Subscript o i tp, .Name x p] value env = pure none := by rfl) :
    WS1 X A env (.Assign [.Subscript o i tp, .Name x p] value pos) φ σ Q := by
  intro B F s f
  refine wpAny_Assign_two (wpAny_mono (h F s f.st f.ev) ?_ fun _ _ x => x) he hw
  rintro v s₁ ⟨F₁, σ₁, mv, t₁, hv, h₁⟩
  rw [assign_Subscript]
  refine wpAny_bind (wpAny_holding (wpAny_mono (h₁ F₁ s₁ t₁.st (f.ev.step t₁.toSince)) ?_ fun _ _ x => x))
  rintro ov s₂ ⟨F₂, σ₂, mo, t₂, hov, h₂⟩
  have T2 := t₁.trans t₂
  refine wpAny_bind (wpAny_holding (wpAny_mono (h₂ F₂ s₂ t₂.st (f.ev.step T2.toSince)) ?_ fun _ _ x => x))
  rintro iv s₃ ⟨F₃, σ₃, mi, t₃, hiv, d, kvs, k, rfl, rfl, hd, hlen, hq⟩
  have hov := hov.mono t₃.mono
  simp only [MV.ref, VH] at hov hiv
  subst hov
  obtain ⟨t, rfl⟩ := hiv
  have hv := (hv.mono t₂.mono).mono t₃.mono
  obtain ⟨vs, hD, hk⟩ := t₃.st.dictAt hd
  refine wpAny_bind (wpAny_standAt ?_)
  refine wpAny_bind (wpAny_holding (wpAny_setItem_pairs (isInt_is k t) hD (fun h' hD' hs' => ?_) (by rw [hk.length]; exact hlen)))
  obtain ⟨o', ho', hi'⟩ := Heap.dictOf_iff.mp hD'
  have tr := Trans.mut (d' := mdict X none (dput kvs k mv)) (t := s₃.toks + 1) t₃.st hd hs'.extBut ho' ⟨⟨_, hi', hk.put hv⟩, fun _ h => nomatch h⟩
  refine wpAny_release ?_
  refine wpAny_assign_Name (wpAny_mono ((f.step ((T2.trans t₃).trans tr)).store hv hx) ?_ fun _ _ x => x)
  intro _ s₅ f₅
  exact ⟨_, _, _, .next, f₅, rfl, hq⟩
end
end Mine
end
section
open PySem PySem.W PyProof.Rows PySem.Calls
set_option Elab.async false
set_option maxRecDepth 100000
set_option linter.unusedVariables false
set_option linter.unusedSimpArgs false
namespace Mine
/-- the sorter's places after: the old ones, and such as were free -/
structure Grow (S : SS) (ad : Loc → Addr) (σ : MHeap) (S' : SS) (ad' : Loc → Addr) (σ' : MHeap) : Prop where
  rest : Rest S ad σ σ'
  old : ∀ l, live S l → live S' l ∧ ad' l = ad l
  new : ∀ l, live S' l → (live S l ∧ ad' l = ad l) ∨ σ (ad' l) = none
section
variable {X : Cx} {A : Around} {env : Env} {φ : MEnv} {σ σ' σ'' : MHeap} {Q : MV → MHeap → Prop} {ad ad' ad'' : Loc → Addr} {S S' S'' : SS}
theorem Grow.refl : Grow S ad σ S ad σ := ⟨fun _ _ _ => rfl, fun l h => ⟨h, rfl⟩, fun l h => .inl ⟨h, rfl⟩⟩
theorem Grow.of (hl : ∀ l, live S' l ↔ live S l) (h : Rest S ad σ σ') : Grow S ad σ S' ad σ' := ⟨h, fun l h => ⟨(hl l).mpr h, rfl⟩, fun l h => .inl ⟨(hl l).mp h, rfl⟩⟩
theorem Grow.trans (dom : ∀ x, σ x ≠ none → σ' x ≠ none) (a : Grow S ad σ S' ad' σ') (b : Grow S' ad' σ' S'' ad'' σ'') : Grow S ad σ S'' ad'' σ'' where
  rest := fun x hx n => by
    have e := a.rest x hx n
    have e2 := b.rest x (fun l hl => by
      rcases a.new l hl with ⟨h1, h2⟩ | h
      · rw [h2]; exact hx l h1
      · rintro rfl; exact n h) (by rw [e]; exact n)
    rw [e2, e]
  old := fun l h => by
    obtain ⟨h1, h2⟩ := a.old l h
    obtain ⟨h3, h4⟩ := b.old l h1
    exact ⟨h3, h4.trans h2⟩
  new := fun l h => by
    rcases b.new l h with ⟨h1, h2⟩ | h
    · rcases a.new l h1 with ⟨h3, h4⟩ | h3
      · exact .inl ⟨h3, h2.trans h4⟩
      · right; rw [h2]; exact h3
    · right
      cases q : σ (ad'' l) with
      | none => rfl
      | some d => exact absurd h (dom _ (by rw [q]; exact Option.some_ne_none _))
def SS.need (S : SS) (k : Int) : SS := if k ∈ S.order then S else { S with order := S.order ++ [k], np := fun j => if j = k then 0 else S.np j, succ := fun j => if j = k then [] else S.succ j }
end
end Mine
end
section
open PySem PySem.W PyProof.Rows PySem.Calls
set_option Elab.async false
set_option maxRecDepth 100000
set_option linter.unusedVariables false
set_option linter.unusedSimpArgs false
namespace Mine
section
variable {X : Cx} {A : Around} {env : Env} {φ : MEnv} {σ σ' σ'' : MHeap} {Q : MV → MHeap → Prop} {ad ad' ad'' : Loc → Addr} {S S' S'' : SS}
theorem Grow.dom (hs : SorterIs X σ' ad' S') (g : Grow S ad σ S' ad' σ') : ∀ x, σ x ≠ none → σ' x ≠ none := fun x n => by
  by_cases h : ∃ l, live S l ∧ x = ad l
  · obtain ⟨l, hl, rfl⟩ := h
    obtain ⟨h1, h2⟩ := g.old l hl
    rw [← h2, hs.at_ l h1]; exact Option.some_ne_none _
  · rw [g.rest x (fun l hl e => h ⟨l, hl, e⟩) n]; exact n
def adN (ad : Loc → Addr) (k : Int) (x dx nl : Addr) : Loc → Addr := fun l => if l = .nd k then x else if l = .ndx k then dx else if l = .nl k then nl else ad l
theorem dlook_none {f : Int → MV} : ∀ {l : List Int} {k : Int}, k ∉ l → dlook (l.map fun j => (j, f j)) k = none
  | [], k, h => rfl
  | j :: r, k, h => by
    have e : j ≠ k := fun e => h (by rw [e]; exact List.mem_cons_self)
    have ih := dlook_none (f := f) (l := r) (k := k) (fun q => h (List.mem_cons_of_mem _ q))
    unfold dlook at ih ⊢
    simp only [List.map_cons, List.find?_cons, e, decide_false]
    exact ih
theorem dput_none {f : Int → MV} {l : List Int} {k : Int} {m : MV} (h : k ∉ l) : dput (l.map fun j => (j, f j)) k m = (l.map fun j => (j, f j)) ++ [(k, m)] := by
  unfold dput
  rw [if_neg]
  intro q
  rw [List.any_eq_true] at q
  obtain ⟨y, hy, e⟩ := q
  rw [List.mem_map] at hy
  obtain ⟨j, hj, rfl⟩ := hy
  simp at e
  exact h (e ▸ hj)
theorem SorterIs.need (h : SorterIs X σ ad S) (hpin : S.pin = none) {k : Int} (hk : k ∉ S.order) {x dx nl : Addr} (fx : σ x = none) (fdx : σ dx = none) (fnl : σ nl = none) (n1 : x ≠ dx) (n2 : x ≠ nl) (n3 : dx ≠ nl)
    (ex : σ' x = some (nodeD dx k 0 nl)) (edx : σ' dx = some (mattrs [])) (enl : σ' nl = some (mlist []))
    (em : σ' (ad .map) = some (mdict X none (dput (S.order.map fun k => (k, .ref (ad (.nd k)))) k (.ref x)))) (eo : ∀ b, b ≠ x → b ≠ dx → b ≠ nl → b ≠ ad .map → σ' b = σ b) :
    SorterIs X σ' (adN ad k x dx nl) (S.need k) ∧ Grow S ad σ (S.need k) (adN ad k x dx nl) σ' := by
  have en : S.need k = { S with order := S.order ++ [k], np := fun j => if j = k then 0 else S.np j, succ := fun j => if j = k then [] else S.succ j } := if_neg hk
  have fr : ∀ l, live S l → ad l ≠ x ∧ ad l ≠ dx ∧ ad l ≠ nl := fun l hl => by
    have := h.at_ l hl
    refine ⟨?_, ?_, ?_⟩ <;> (intro e; rw [e] at this; simp_all)
  have ol : ∀ l, live S l → live (S.need k) l ∧ adN ad k x dx nl l = ad l := fun l hl => by
    rw [en]
    cases l with
    | self => exact ⟨trivial, rfl⟩
    | dict => exact ⟨trivial, rfl⟩
    | map => exact ⟨trivial, rfl⟩
    | ready => exact ⟨hl, rfl⟩
    | nd j => have e : j ≠ k := fun e => hk (e ▸ hl); exact ⟨List.mem_append_left _ hl, by simp [adN, e]⟩
    | ndx j => have e : j ≠ k := fun e => hk (e ▸ hl); exact ⟨List.mem_append_left _ hl, by simp [adN, e]⟩
    | nl j => have e : j ≠ k := fun e => hk (e ▸ hl); exact ⟨List.mem_append_left _ hl, by simp [adN, e]⟩
  have nw : ∀ l, live (S.need k) l → (live S l ∧ adN ad k x dx nl l = ad l) ∨ (l = .nd k ∨ l = .ndx k ∨ l = .nl k) := fun l hl => by
    rw [en] at hl
    cases l with
    | self => exact .inl ⟨trivial, rfl⟩
    | dict => exact .inl ⟨trivial, rfl⟩
    | map => exact .inl ⟨trivial, rfl⟩
    | ready => exact .inl ⟨hl, rfl⟩
    | nd j =>
      by_cases e : j = k
      · right; left; rw [e]
      · left; refine ⟨?_, by simp [adN, e]⟩; simpa [live, e] using hl
    | ndx j =>
      by_cases e : j = k
      · right; right; left; rw [e]
      · left; refine ⟨?_, by simp [adN, e]⟩; simpa [live, e] using hl
    | nl j =>
      by_cases e : j = k
      · right; right; right; rw [e]
      · left; refine ⟨?_, by simp [adN, e]⟩; simpa [live, e] using hl
  have a1 : adN ad k x dx nl (.nd k) = x := by simp [adN]
  have a2 : adN ad k x dx nl (.ndx k) = dx := by simp [adN]
  have a3 : adN ad k x dx nl (.nl k) = nl := by simp [adN]
  refine ⟨⟨fun l hl => ?_, fun l l' hl hl' e => ?_, h.sys⟩, fun b hb n => ?_, ol, fun l hl => ?_⟩
  · have keep : ∀ l, live S l → l ≠ .map → σ' (ad l) = σ (ad l) := fun l hl hm => by
      obtain ⟨q1, q2, q3⟩ := fr l hl
      exact eo _ q1 q2 q3 (fun e => hm (h.inj l .map hl trivial e))
    rcases nw l hl with ⟨h1, h2⟩ | rfl | rfl | rfl
    · rw [h2]
      by_cases hm : l = .map
      · subst hm
        rw [em, dput_none (f := fun k => .ref (ad (.nd k))) hk, en]
        show some (mdict X none _) = some (mdict X S.pin _)
        rw [hpin]
        congr 2
        rw [List.map_append]
        congr 1
        · apply List.map_congr_left
          intro j hj
          have := (ol (.nd j) hj).2
          rw [this]
        · simp [a1]
      · rw [keep l h1 hm, h.at_ l h1, en]
        cases l with
        | self => rfl
        | dict => rfl
        | map => exact absurd rfl hm
        | ready => rfl
        | nd j =>
          have e : j ≠ k := fun e => hk (e ▸ h1)
          show some (nodeD _ _ _ _) = some (nodeD _ _ _ _)
          simp [adN, e]
        | ndx j => rfl
        | nl j =>
          have e : j ≠ k := fun e => hk (e ▸ h1)
          show some (mlist _) = some (mlist _)
          simp [e]
    · rw [a1, ex, en]
      show some (nodeD _ _ _ _) = some (nodeD _ _ _ _)
      rw [a2, a3]; simp
    · rw [a2, edx, en]; rfl
    · rw [a3, enl, en]
      show some (mlist _) = some (mlist _)
      simp
  · rcases nw l hl with ⟨h1, h2⟩ | h1 <;> rcases nw l' hl' with ⟨h3, h4⟩ | h3
    · rw [h2, h4] at e; exact h.inj l l' h1 h3 e
    · obtain ⟨q1, q2, q3⟩ := fr l h1
      rw [h2] at e
      rcases h3 with rfl | rfl | rfl
      · rw [a1] at e; exact absurd e q1
      · rw [a2] at e; exact absurd e q2
      · rw [a3] at e; exact absurd e q3
    · obtain ⟨q1, q2, q3⟩ := fr l' h3
      rw [h4] at e
      rcases h1 with rfl | rfl | rfl
      · rw [a1] at e; exact absurd e.symm q1
      · rw [a2] at e; exact absurd e.symm q2
      · rw [a3] at e; exact absurd e.symm q3
    · rcases h1 with rfl | rfl | rfl <;> rcases h3 with rfl | rfl | rfl <;> first | rfl | (simp only [a1, a2, a3] at e; first | exact absurd e n1 | exact absurd e n2 | exact absurd e n3 | exact absurd e.symm n1 | exact absurd e.symm n2 | exact absurd e.symm n3)
  · exact eo b (by rintro rfl; exact n fx) (by rintro rfl; exact n fdx) (by rintro rfl; exact n fnl) (hb .map trivial)
  · rcases nw l hl with h1 | rfl | rfl | rfl
    · exact .inl h1
    · right; rw [a1]; exact fx
    · right; rw [a2]; exact fdx
    · right; rw [a3]; exact fnl
end
end Mine
end
section
open PySem PySem.W PyProof.Rows PySem.Calls
set_option Elab.async false
set_option maxRecDepth 100000
set_option linter.unusedVariables false
set_option linter.unusedSimpArgs false
namespace Mine
section
variable {X : Cx} {A : Around} {env : Env} {φ : MEnv} {σ σ' σ'' : MHeap} {Q : MV → MHeap → Prop} {ad ad' ad'' : Loc → Addr} {S S' S'' : SS}
theorem SorterIs.keep (hs : SorterIs X σ ad S) (h : ∀ l, live S l → σ' (ad l) = σ (ad l)) : SorterIs X σ' ad S := ⟨fun l hl => (h l hl).trans (hs.at_ l hl), hs.inj, hs.sys⟩
theorem nodeinfo_spec (hX : X.Ok) (hA : AOk 4 A) (hs : SorterIs X σ ad S) (hpin : S.pin = none) {k : Int} (hlen : S.order.length ≤ 1000)
    (h : ∀ σ' ad', SorterIs X σ' ad' (S.need k) → Grow S ad σ (S.need k) ad' σ' → Q (.ref (ad' (.nd k))) σ') : WCall X A 80 [.ref (ad .self), .int k] σ Q := by
  refine WCall_fn hX hA (fn_ts__get_nodeinfo hX) (ps := ["self", "node"]) (fun z => WBind_pure fun vs hl => ?_) (by decide) (fun z => by kernel_rfl) (fun z L => ?_)
  · match vs, hl with
    | [v, u], _ => kernel_rfl
  by_cases hk : k ∈ S.order
  · refine WS_cons (WS1_ifWalrus (WE_dget (WE_self hX hs rfl rfl ac_n2i rfl ⟨rfl, hs.at_ .map trivial, WE_name rfl ⟨k, rfl, hs.at_ .map trivial, hs.sys, ?_⟩⟩)))
    rw [dlook_map (α := Nat) (f := fun j => .ref (ad (.nd j))) hk]
    refine ⟨false, rfl, WS_nil ?_⟩
    refine WS_cons (WS1_return (WE_name rfl ?_))
    have e : S.need k = S := if_pos hk
    rw [e] at h
    exact h σ ad hs Grow.refl
  · refine WS_cons (WS1_ifWalrus (WE_dget (WE_self hX hs rfl rfl ac_n2i rfl ⟨rfl, hs.at_ .map trivial, WE_name rfl ⟨k, rfl, hs.at_ .map trivial, hs.sys, ?_⟩⟩)))
    rw [dlook_none (f := fun j => .ref (ad (.nd j))) hk]
    refine ⟨true, rfl, ?_⟩
    refine WS_cons (WS1_assignD2 (WE_new hX (gl_ni hX) kp_ni (WL_cons (WE_name rfl (WL_nil (WCall_new hX nc_ni (fun dx => mslots 40 dx []) ?hd (fun vs x dx fx fdx hne => nodeinit_spec hX (AOk.new (AOk.less (hA.deeper) (by decide))) (MHeap.put_self _ _ _) ?d0 hne (fun l hl => ⟨rfl, ?_⟩))))))))
    case hd => intro dx F; exact ⟨[], rfl, .nil⟩
    case d0 => rw [MHeap.put_ne (Ne.symm hne)]; exact MHeap.put_self _ _ _
    have hxl : l ≠ x := by rintro rfl; rw [MHeap.put_self] at hl; cases hl
    rw [MHeap.put_ne hxl] at hl
    have hdl : l ≠ dx := by rintro rfl; rw [MHeap.put_self] at hl; cases hl
    rw [MHeap.put_ne hdl] at hl
    have fr : ∀ l', live S l' → ad l' ≠ x ∧ ad l' ≠ dx ∧ ad l' ≠ l := fun l' hl' => by
      have := hs.at_ l' hl'
      refine ⟨?_, ?_, ?_⟩ <;> (intro e; rw [e] at this; simp_all)
    generalize hg : (((((σ.put dx (mattrs [])).put x (mslots 40 dx [])).put x (mslots 40 dx [some (.int k)])).put x (mslots 40 dx [some (.int k), some (.int 0)])).put l (mlist [])).put x (nodeD dx k 0 l) = σ1
    have keep : ∀ b, b ≠ x → b ≠ dx → b ≠ l → σ1 b = σ b := fun b h1 h2 h3 => by
      rw [← hg, MHeap.put_ne h1, MHeap.put_ne h3, MHeap.put_ne h1, MHeap.put_ne h1, MHeap.put_ne h1, MHeap.put_ne h2]
    have hs1 : SorterIs X σ1 ad S := hs.keep fun l' hl' => by
      obtain ⟨q1, q2, q3⟩ := fr l' hl'; exact keep _ q1 q2 q3
    have ex : σ1 x = some (nodeD dx k 0 l) := by rw [← hg]; exact MHeap.put_self _ _ _
    have el : σ1 l = some (mlist []) := by rw [← hg, MHeap.put_ne hxl]; exact MHeap.put_self _ _ _
    have ed : σ1 dx = some (mattrs []) := by
      rw [← hg, MHeap.put_ne (Ne.symm hne), MHeap.put_ne (Ne.symm hdl), MHeap.put_ne (Ne.symm hne), MHeap.put_ne (Ne.symm hne), MHeap.put_ne (Ne.symm hne)]; exact MHeap.put_self _ _ _
    obtain ⟨m1, m2, m3⟩ := fr .map trivial
    refine WE_self hX hs1 rfl rfl ac_n2i rfl (WE_name rfl ⟨_, S.order.map fun k => (k, .ref (ad (.nd k))), k, rfl, rfl, (by have := hs1.at_ .map trivial; rw [show descOf X ad S .map = mdict X S.pin (S.order.map fun k => (k, .ref (ad (.nd k)))) from rfl, hpin] at this; exact this), ?_, WS_nil ?_⟩)
    · rw [List.length_map]; have : (1000 : Nat) ≤ sizeLine := by decide
      exact Nat.le_trans hlen this
    refine WS_cons (WS1_return (WE_name rfl ?_))
    have hn := hs.need hpin (σ' := σ1.put (ad .map) (mdict X none (dput (S.order.map fun k => (k, .ref (ad (.nd k)))) k (.ref x)))) hk fx fdx hl hne (Ne.symm hxl) (Ne.symm hdl)
      (by rw [MHeap.put_ne (Ne.symm m1)]; exact ex) (by rw [MHeap.put_ne (Ne.symm m2)]; exact ed) (by rw [MHeap.put_ne (Ne.symm m3)]; exact el) (MHeap.put_self _ _ _)
      (fun b h1 h2 h3 h4 => by rw [MHeap.put_ne h4]; exact keep b h1 h2 h3)
    have := h _ _ hn.1 hn.2
    have a1 : adN ad k x dx l (.nd k) = x := by simp [adN]
    rw [a1] at this
    exact this
end
end Mine
end
section
open PySem PySem.W PyProof.Rows PySem.Calls
set_option Elab.async false
set_option maxRecDepth 100000
set_option linter.unusedVariables false
set_option linter.unusedSimpArgs false
namespace Mine
section
variable {X : Cx} {A : Around} {env : Env} {φ : MEnv} {σ σ' σ'' : MHeap} {Q : MV → MHeap → Prop} {ad ad' ad'' : Loc → Addr} {S S' S'' : SS}
theorem bind_add (z) (v u : Value) : ∀ rest : List Value, bindArgs (fdZ (meth 6 2) "TopologicalSorter.add" .none z) ⟨v :: u :: rest, []⟩ = (do let t ← newTuple rest; pure [("self", v), ("node", u), ("predecessors", t)])
  | [] => by kernel_rfl
  | a :: r => by kernel_rfl
theorem bind_done (z) (v : Value) : ∀ rest : List Value, bindArgs (fdZ (meth 6 7) "TopologicalSorter.done" .none z) ⟨v :: rest, []⟩ = (do let t ← newTuple rest; pure [("self", v), ("nodes", t)])
  | [] => by kernel_rfl
  | a :: r => by kernel_rfl
end
end Mine
end
section
open PySem PySem.W PyProof.Rows PySem.Calls
set_option Elab.async false
set_option maxRecDepth 100000
set_option linter.unusedVariables false
set_option linter.unusedSimpArgs false
namespace Mine
/-- a method taken as an object of its own (a call with a star) -/
structure BCls (X : Cx) (C : Addr) (name : Str) (f : Addr) : Prop where
  m : MethCls X C name f
  cls : (clsIn (KK X.w.params) C).any (·.hasDict) = true
  get : specialIn (KK X.w.params) (.ref f) "__get__" = some (some (.builtin "function.__get__"))
  takes : takesIn (KK X.w.params) (.ref f) = some false
  fnin : fnIn (KK X.w.params) f = true
  cop : copiedNames.contains name = false
theorem findObj_fn {K : Frag} {C f : Addr} {od : Option Obj} {name : Str} {cd : ClassData} {g : Value} (hc : clsIn K C = some cd) (hf : findIn K (.ref C) name = some (some (.ref f))) (hg : specialIn K (.ref f) "__get__" = some (some g)) (ht : takesIn K (.ref f) = some false)
    (ho : ownOf cd od name = some none) (hcop : copiedNames.contains name = false) : findObj K C od name = some (.bind g (.ref f)) := by
  unfold findObj
  rw [hc, Option.bind_some, hf, Option.bind_some]
  dsimp only
  rw [hg, Option.bind_some]
  dsimp only
  rw [ht, Option.bind_some]
  dsimp only
  rw [ho, Option.bind_some]
  dsimp only
  rw [hcop]
  rfl
section
variable {X : Cx} {A : Around} {env : Env} {φ : MEnv} {σ : MHeap} {Q : MV → MHeap → Prop} {F : Fz} {s : Shared}
/-- the arguments of a call -/
def WArgs (X : Cx) (A : Around) (env : Env) (pos : Pos) (args : List Expr) (φ : MEnv) (σ : MHeap) (Q : List MV → MHeap → Prop) : Prop :=
  ∀ f F s, St X F σ s → EnvOK env φ F σ s.heap → wpAny X.M A (evalArgs f true (backTo pos (starEach args env)) []) (fun a s' => ∃ F' σ' ms, Trans X F σ s F' σ' s' ∧ a.kw = [] ∧ VHs F' ms a.pos ∧ Q ms σ') noE s
def itemsOf : MV → Option (List MV)
  | .list xs => some xs
  | .tup xs => some xs
  | _ => none
theorem star_of {it : MV} {xs : List MV} {v : Value} (h : itemsOf it = some xs) (hlen : xs.length ≤ sizeLine) (st : St X F σ s) (hv : VH F it v) :
    StarOf X.M A noE v (fun vs s' => Trans X F σ s F σ s' ∧ VHs F xs vs) s := by
  unfold StarOf notIterableAtAll
  match it, h with
  | .list _, rfl =>
    obtain ⟨a, items, n, rfl, hf, hl, hx⟩ := hv.listAt st
    have ho := st.fz _ _ hf
    refine wpAny_bind (wpAny_specialOf (T := "list") ⟨_, ho, rfl⟩ PySem.F.slot_list_iter.lookup (wpAny_pure ⟨rfl, ?_⟩))
    refine wpAny_collect_seq a (.inl rfl) ho rfl rfl (fun h' hk => ⟨Trans.grown (t := s.toks) st hk, hx⟩) ?_
    have := hx.length; simp at this; omega
  | .tup _, rfl =>
    obtain ⟨a, items, n, rfl, hf, hl, hx⟩ := hv.tupAt st
    have ho := st.fz _ _ hf
    refine wpAny_bind (wpAny_specialOf (T := "tuple") ⟨_, ho, rfl⟩ PySem.F.slot_tuple_iter.lookup (wpAny_pure ⟨rfl, ?_⟩))
    refine wpAny_collect_seq a (.inr rfl) ho rfl rfl (fun h' hk => ⟨Trans.grown (t := s.toks) st hk, hx⟩) ?_
    have := hx.length; simp at this; omega
theorem WArgs_lone {e : Expr} {p pos : Pos} {Q : List MV → MHeap → Prop} (h : WE X A env e φ σ (fun it σ₁ => ∃ xs, itemsOf it = some xs ∧ xs.length ≤ sizeLine ∧ Q xs σ₁)) : WArgs X A env pos [.Starred e p] φ σ Q := by
  intro f F s st ev
  refine ks_lone (wpAny_mono (h F s st ev) ?_ fun _ _ x => x)
  rintro v s₁ ⟨F₁, σ₁, it, t₁, hv, xs, hi, hl, hq⟩
  have := star_of (A := A) hi hl t₁.st hv
  unfold StarOf at this ⊢
  refine wpAny_mono this ?_ fun _ _ x => x
  rintro b s₂ ⟨rfl, h₂⟩
  refine ⟨rfl, wpAny_mono h₂ ?_ fun _ _ x => x⟩
  rintro vs s₃ ⟨t₃, hx⟩
  exact ⟨F₁, σ₁, xs, t₁.trans t₃, rfl, hx, hq⟩
theorem WArgs_sp {pos : Pos} {args : List Expr} {Q : List MV → MHeap → Prop} (h : WL X A env pos args φ σ Q) (hn : loneStar (backTo pos (starEach args env)) = false := by rfl) : WArgs X A env pos args φ σ Q := by
  intro f F s st ev
  refine evalArgs_sp hn (wpAny_mono (h F s st ev) ?_ fun _ _ x => x)
  rintro vs s₁ ⟨F₁, σ₁, ms, t₁, hm, hq⟩
  exact ⟨F₁, σ₁, ms, t₁, rfl, hm, hq⟩
theorem WL_star {pos p : Pos} {e : Expr} {es : List Expr} {Q : List MV → MHeap → Prop} (h : WE X A env e φ σ (fun it σ₁ => ∃ xs, itemsOf it = some xs ∧ xs.length ≤ sizeLine ∧ WL X A env pos es φ σ₁ (fun ms σ₂ => Q (xs ++ ms) σ₂))) : WL X A env pos (.Starred e p :: es) φ σ Q := by
  intro F s st ev
  refine ks_spliced (rest := backTo pos (starEach es env)) (wpAny_mono (h F s st ev) ?_ fun _ _ x => x)
  rintro v s₁ ⟨F₁, σ₁, it, t₁, hv, xs, hi, hl, hq⟩
  have := star_of (A := A) hi hl t₁.st hv
  unfold StarOf at this ⊢
  refine wpAny_mono this ?_ fun _ _ x => x
  rintro b s₂ ⟨rfl, h₂⟩
  refine ⟨rfl, wpAny_mono h₂ ?_ fun _ _ x => x⟩
  rintro here s₃ ⟨t₃, hx⟩
  have T := t₁.trans t₃
  refine wpAny_mono (hq F₁ s₃ T.st (ev.step T.toSince)) ?_ fun _ _ x => x
  rintro vs s₄ ⟨F₄, σ₄, ms, t₄, hm, hq₄⟩
  exact ⟨F₄, σ₄, xs ++ ms, T.trans t₄, (hx.mono t₄.mono).append hm, hq₄⟩
/-- o.name(.., *args), a def of o's class -/
theorem WE_methS (hX : X.Ok) {o : Expr} {name : Str} {apos pos : Pos} {args : List Expr} {x dx C f : Addr} {as : List (Str × MV)} (hm : BCls X C name f)
    (h : WE X A env o φ σ (fun l σ₁ => l = .ref x ∧ σ₁ x = some (minst C dx) ∧ σ₁ dx = some (mattrs as) ∧ as.lookup name = none ∧ WArgs X A env pos args φ σ₁ (fun ms σ₂ => WCall X A f (.ref x :: ms) σ₂ Q)))
    (hst : (backTo pos (starEach args env)).any (·.1) = true := by rfl)
    (he : eval (.Call (.Attribute o name apos) args [] pos) env = (do
      let ov ← eval o env
      standAt apos.atName
      let (f, first) ← holding [ov] (do pure (← getAttr ov name true, []))
      let cp ← (pure pos : Sem Pos)
      callWith cp f first (backTo pos (starEach args env)) []) := by rfl) : WE X A env (.Call (.Attribute o name apos) args [] pos) φ σ Q := by
  intro F s st ev
  rw [he]
  refine wpAny_bind (wpAny_mono (h F s st ev) ?_ fun _ _ x => x)
  rintro v s₁ ⟨F₁, σ₁, l, t₁, hl, rfl, hx, hd, has, h₁⟩
  simp only [MV.ref, VH] at hl; subst hl
  refine wpAny_bind (wpAny_standAt (wpAny_bind (wpAny_holding (wpAny_bind ?_))))
  obtain ⟨es, n, I, ha, _⟩ := t₁.st.instAt hx hd
  obtain ⟨cd, hcd, hdict⟩ := any_some hm.cls
  have K := t₁.st.kin hX
  have hown : W.ownOf cd (some (dictOf es n)) name = some none := by
    unfold W.ownOf; rw [hdict]; exact lookIn_miss (n := n) ha has
  refine get_bind K I hm.m.ga (findObj_fn hcd hm.m.fn hm.get hm.takes hown hm.cop) hm.m.gattr (wpAny_call ?_)
  have K' : (KK X.w.params).In ({ s₁ with toks := s₁.toks + 1 } : Shared).heap := K
  refine fn_get (s := { s₁ with toks := s₁.toks + 1 }) K' hm.m.ty ?_
  show wpAny _ _ (handedOut (.ref s₁.heap.objs.size)) _ _ _
  rw [handedOut_of rfl]
  refine wpAny_pure (wpAny_pure (wpAny_bind (wpAny_pure ?_)))
  have tr := Trans.alloc t₁.st (methodObj (.ref f) (.ref x)) rfl (s₁.toks + 1)
  have T := t₁.trans tr
  refine ks_call (P := MethP (KK X.w.params) s₁.heap.objs.size f (.ref x)) hst (keeps_M hm.fnin) (wpAny_mono (h₁ _ _ _ tr.st (ev.step T.toSince)) ?_ fun _ _ x => x)
  rintro a s₂ ⟨F₂, σ₂, ms, t₂, hkw, hms, h₂⟩
  have hq : s₂.heap.get? s₁.heap.objs.size = some (methodObj (.ref f) (.ref x)) := t₂.st.fz _ _ (t₂.mono _ _ (Fz.put_self _ _ _))
  refine ⟨⟨hq, t₂.st.kin hX⟩, wpAny_call (method_call hq ?_)⟩
  rw [hkw]
  have hc := h₂ F₂ s₂ (.ref x :: a.pos) t₂.st (by simp only [VHs, VH]; exact ⟨_, _, rfl, rfl, hms⟩)
  refine codeAny_mono hc ?_
  rintro r s' ⟨v, rfl, hp⟩
  exact hp.trans (T.trans t₂)
theorem bc_add : BCls X 137 "add" 87 := ⟨mc_add, by kernel_rfl, by kernel_rfl, by kernel_rfl, by kernel_rfl, by kernel_rfl⟩
theorem bc_done : BCls X 137 "done" 120 := ⟨mc_done, by kernel_rfl, by kernel_rfl, by kernel_rfl, by kernel_rfl, by kernel_rfl⟩
end
end Mine
end
section
open PySem PySem.W PyProof.Rows PySem.Calls
set_option Elab.async false
set_option maxRecDepth 100000
set_option linter.unusedVariables false
set_option linter.unusedSimpArgs false
namespace Mine
def SS.addSucc (S : SS) (p k : Int) : SS := { S with succ := fun j => if j = p then S.succ p ++ [k] else S.succ j }
def SS.addPred (k : Int) (S : SS) (p : Int) : SS := (S.need p).addSucc p k
def SS.add (S : SS) (k : Int) (preds : List Int) : SS := preds.foldl (SS.addPred k) ((S.need k).setNp k ((S.need k).np k + preds.length))
theorem SS.need_mem (S : SS) (k : Int) : k ∈ (S.need k).order := by
  unfold SS.need; split
  · assumption
  · simp
theorem SS.need_len (S : SS) (k : Int) : (S.need k).order.length ≤ S.order.length + 1 := by
  unfold SS.need; split
  · omega
  · simp
theorem SS.need_pin (S : SS) (k : Int) : (S.need k).pin = S.pin := by
  unfold SS.need; split <;> rfl
theorem SS.need_ready (S : SS) (k : Int) : (S.need k).ready = S.ready := by
  unfold SS.need; split <;> rfl
section
variable {X : Cx} {A : Around} {env : Env} {φ : MEnv} {σ σ' σ'' : MHeap} {Q : MV → MHeap → Prop} {ad ad' ad'' : Loc → Addr} {S S' S'' : SS}
theorem SorterIs.addSucc (h : SorterIs X σ ad S) {p : Int} (k : Int) (hp : p ∈ S.order) : SorterIs X (σ.put (ad (.nl p)) (mlist ((S.succ p ++ [k]).map .int))) ad (S.addSucc p k) ∧ Rest S ad σ (σ.put (ad (.nl p)) (mlist ((S.succ p ++ [k]).map .int))) := by
  have := h.put (S' := S.addSucc p k) (.nl p) hp (fun l' => by cases l' <;> exact Iff.rfl) (fun l' hl' _ => by
    match l', hl' with
    | .self, _ => rfl
    | .dict, _ => rfl
    | .map, _ => rfl
    | .ready, _ => rfl
    | .ndx _, _ => rfl
    | .nd _, _ => rfl
    | .nl j, hl' =>
      have hj : j ≠ p := fun e => hl' (by rw [e])
      show mlist _ = mlist _
      simp [SS.addSucc, hj])
  have e : descOf X ad (S.addSucc p k) (.nl p) = mlist ((S.succ p ++ [k]).map .int) := by
    show mlist _ = _
    simp [SS.addSucc]
  rw [e] at this
  exact this
theorem attrs_none {name : Str} (h : (name == ("_node2info" : Str)) = false) (h2 : (name == ("_ready_nodes" : Str)) = false) (h3 : (name == ("_npassedout" : Str)) = false) (h4 : (name == ("_nfinished" : Str)) = false) : (attrsOf ad S).lookup name = none := by
  unfold attrsOf
  simp only [List.lookup_cons, h, h2, h3, h4]; rfl
theorem look_rdy0 (hr : S.ready = none) : (attrsOf ad S).lookup ("_ready_nodes" : Str) = some .none := by
  unfold attrsOf; rw [hr]; rfl
theorem bindStar {fd : FuncData} {A : Around} {pre : List MV} {rest : List MV} {ps : List Str} (hlen : rest.length ≤ sizeLine) (hb : ∀ (vs us : List Value), vs.length = pre.length → bindArgs fd ⟨vs ++ us, []⟩ = (newTuple us >>= fun t => pure (ps.zip (vs ++ [t])))) :
    WBind X A fd (pre ++ rest) ps (pre ++ [.tup rest]) σ := by
  intro F s vs st hv
  have split : ∀ (pre : List MV) (vs : List Value), VHs F (pre ++ rest) vs → ∃ as bs, vs = as ++ bs ∧ VHs F pre as ∧ VHs F rest bs := by
    intro pre
    induction pre with
    | nil => intro vs h; exact ⟨[], vs, rfl, by simp only [VHs], h⟩
    | cons m pre ih =>
      intro vs h
      simp only [List.cons_append, VHs] at h
      obtain ⟨v, r, rfl, h1, h2⟩ := h
      obtain ⟨as, bs, rfl, h3, h4⟩ := ih r h2
      exact ⟨v :: as, bs, rfl, by simp only [VHs]; exact ⟨v, as, rfl, h1, h3⟩, h4⟩
  obtain ⟨as, bs, rfl, h1, h2⟩ := split pre vs hv
  rw [hb as bs h1.length]
  refine wpAny_bind (wpAny_newTuple (wpAny_pure ?_) (by rw [h2.length]; exact hlen))
  have tr := Trans.alloc st (tobj bs.toArray 0) rfl s.toks
  refine ⟨_, as ++ [.ref s.heap.objs.size], tr, rfl, (h1.mono tr.mono).append ?_⟩
  simp only [VHs, VH]
  exact ⟨_, [], rfl, ⟨_, _, 0, rfl, Fz.put_self _ _ _, by simpa using h2.mono tr.mono⟩, rfl⟩
theorem add_spec (hX : X.Ok) (hA : AOk 5 A) (hs : SorterIs X σ ad S) (hpin : S.pin = none) {k : Int} {preds : List Int} (hr : S.ready = none) (hlen : S.order.length + preds.length + 1 ≤ 1000) (hsl : ∀ j, (S.succ j).length + preds.length ≤ 1000)
    (h : ∀ σ' ad', SorterIs X σ' ad' (S.add k preds) → Grow S ad σ (S.add k preds) ad' σ' → Q .none σ') : WCall X A 87 (.ref (ad .self) :: .int k :: preds.map .int) σ Q := by
  refine WCall_fn hX hA (fn_ts_add hX) (ps := ["self", "node", "predecessors"]) (args' := [.ref (ad .self), .int k, .tup (preds.map .int)]) (fun z => bindStar (pre := [.ref (ad .self), .int k]) ?bl fun vs us hl => ?_) (by decide) (fun z => by kernel_rfl) (fun z L => ?_)
  case bl =>
    rw [List.length_map]; have : (1000 : Nat) ≤ sizeLine := by decide
    omega
  · match vs, hl with
    | [v, u], _ => exact bind_add z v u us
  have hA1 := hA.deeper (env := fEnv (meth 6 2) "TopologicalSorter.add" .none 87 z L)
  refine WS_cons (WS1_if (WB_compare (WE_self hX hs rfl (look_rdy0 hr) ac_rdy rfl (WE_none (V_isNot (Tr_bool (WS_nil ?_)))))))
  refine WS_cons (WS1_assign (WE_meth hX mc_get (fn_ts__get_nodeinfo hX) (WE_name rfl ⟨rfl, hs.at_ .self trivial, hs.at_ .dict trivial, attrs_none (by decide) (by decide) (by decide) (by decide), WL_cons (WE_name rfl (WL_nil (nodeinfo_spec hX hA1 hs hpin (by omega) ?_)))⟩)))
  intro σ1 ad1 hs1 g1
  have hk1 := S.need_mem k
  have hn := hs1.setNp ((S.need k).np k + preds.length) hk1
  refine WS_cons (WS1_augattr (WE_name rfl (V_slot hX (hs1.at_ (.nd k) hk1) (hs1.at_ (.ndx k) hk1) (mv := .int ((S.need k).np k)) rfl sc_np (WE_callB (gl_len' hX) (WL_cons (WE_name rfl (WL_nil (B_lenT ?bl (V_iadd (Set_slot hX (hs1.at_ (.nd k) hk1) (hs1.at_ (.ndx k) hk1) sc_np ?_))))))))))
  case bl =>
    rw [List.length_map]; have : (1000 : Nat) ≤ sizeLine := by decide
    omega
  have g2 : Grow S ad σ ((S.need k).setNp k ((S.need k).np k + preds.length)) ad1 _ := Grow.trans (Grow.dom hs1 g1) g1 (Grow.of (fun l => by cases l <;> exact Iff.rfl) hn.2)
  have loop : ∀ (P : MF → MEnv → MHeap → Prop) (rest : List Int) (S' : SS) (σ' : MHeap) (ad' : Loc → Addr) (φ : MEnv), SorterIs X σ' ad' S' → S'.pin = none → Grow S ad σ S' ad' σ' → S'.order.length + rest.length ≤ 1000 → (∀ j, (S'.succ j).length + rest.length ≤ 1000) →
      φ.lookup ("self" : Str) = some (.ref (ad .self)) → φ.lookup ("node" : Str) = some (.int k) →
      (∀ σ'' ad'' φ'', SorterIs X σ'' ad'' (rest.foldl (SS.addPred k) S') → Grow S ad σ (rest.foldl (SS.addPred k) S') ad'' σ'' → P .next φ'' σ'') →
      LoopQ X (A.deeper (fEnv (meth 6 2) "TopologicalSorter.add" .none 87 z L)) (fEnv (meth 6 2) "TopologicalSorter.add" .none 87 z L) "pred" ((match (fBody (meth 6 2)).drop 3 with | .For _ _ b _ _ :: _ => b | _ => [])) (fun _ => True) P (rest.map .int) φ σ' := by
    intro P rest
    induction rest with
    | nil => intro S' σ' ad' φ hs' hpin' g' hl hsl h1 h2 hP; exact hP σ' ad' φ hs' g'
    | cons p rest ih =>
      intro S' σ' ad' φ hs' hpin' g' hl hsl h1 h2 hP
      have hself : ad' .self = ad .self := (g'.old .self trivial).2
      simp only [List.length_cons] at hl hsl
      refine WS_cons (WS1_assign (WE_meth hX mc_get (fn_ts__get_nodeinfo hX) (WE_name (mv := .ref (ad' .self)) (by rw [hself]; exact h1) ⟨rfl, hs'.at_ .self trivial, hs'.at_ .dict trivial, attrs_none (by decide) (by decide) (by decide) (by decide), WL_cons (WE_name lookup_cons_self (WL_nil (nodeinfo_spec hX hA1 hs' hpin' (by omega) ?_)))⟩)))
      intro σ2 ad2 hs2 g2
      have hp2 := S'.need_mem p
      have hn2 := hs2.addSucc k hp2
      have hsl' : ∀ j, ((S'.need p).succ j).length ≤ (S'.succ j).length := fun j => by
        unfold SS.need; split
        · exact Nat.le_refl _
        · show (if j = p then [] else S'.succ j).length ≤ _
          split <;> simp
      refine WS_cons (WS1_expr (WE_append (WE_attr (WE_name lookup_cons_self (V_slot hX (hs2.at_ (.nd p) hp2) (hs2.at_ (.ndx p) hp2) (mv := .ref (ad2 (.nl p))) rfl sc_succ ⟨_, _, rfl, hs2.at_ (.nl p) hp2, WE_name h2 ⟨_, hs2.at_ (.nl p) hp2, ?_, rfl, WS_nil ⟨trivial, ?_⟩⟩⟩)))))
      · rw [List.length_map]; have : (1000 : Nat) ≤ sizeLine := by decide
        have := hsl p; have := hsl' p
        omega
      have e1 : (((S'.need p).succ p).map MV.int ++ [.int k]) = (((S'.need p).succ p ++ [k]).map MV.int) := by simp
      rw [e1]
      have g3 : Grow S ad σ ((S'.need p).addSucc p k) ad2 _ := Grow.trans (Grow.dom hs' g') g' (Grow.trans (Grow.dom hs2 g2) g2 (Grow.of (fun l => by cases l <;> exact Iff.rfl) hn2.2))
      refine ih ((S'.need p).addSucc p k) _ ad2 _ hn2.1 ((S'.need_pin p).trans hpin') g3 ?_ ?_ h1 h2 hP
      · have := S'.need_len p
        show (S'.need p).order.length + rest.length ≤ 1000
        omega
      · intro j
        have h3 := hsl j; have h4 := hsl' j
        show (if j = p then (S'.need p).succ p ++ [k] else (S'.need p).succ j).length + rest.length ≤ 1000
        split
        · rename_i e; subst e; simp; omega
        · omega
  refine WS_cons (WS1_for (WE_name rfl ⟨_, _, iter_tup hA.handled, trivial, loop _ preds ((S.need k).setNp k ((S.need k).np k + preds.length)) _ ad1 _ ?_ ((S.need_pin k).trans hpin) ?_ ?_ ?_ rfl rfl ?_⟩))
  · rw [List.length_map]; exact hn.1
  · rw [List.length_map]; exact g2
  · have := S.need_len k
    show (S.need k).order.length + preds.length ≤ 1000
    omega
  · intro j
    have h3 := hsl j
    show ((S.need k).succ j).length + preds.length ≤ 1000
    have : ((S.need k).succ j).length ≤ (S.succ j).length := by
      unfold SS.need; split
      · exact Nat.le_refl _
      · show (if j = k then [] else S.succ j).length ≤ _
        split <;> simp
    omega
  · intro σ'' ad'' φ'' hs'' g''
    exact WS_nil (h σ'' ad'' hs'' g'')
end
end Mine
end
section
open PySem PySem.W PyProof.Rows PySem.Calls
set_option Elab.async false
set_option maxRecDepth 100000
set_option linter.unusedVariables false
set_option linter.unusedSimpArgs false
namespace Mine
def S0 : SS := ⟨[], fun _ => 0, fun _ => [], none, 0, 0, none⟩
def ad0 (x dx m : Addr) : Loc → Addr
  | .self => x
  | .dict => dx
  | .map => m
  | _ => 0
section
variable {X : Cx} {A : Around} {env : Env} {φ : MEnv} {σ σ' σ'' : MHeap} {Q : MV → MHeap → Prop} {ad ad' ad'' : Loc → Addr} {S S' S'' : SS}
theorem setA_1 {m : MV} : setA "_node2info" m [] = ([("_node2info", m)] : List (Str × MV)) := rfl
theorem setA_2 {m n : MV} : setA "_ready_nodes" n ([("_node2info", m)] : List (Str × MV)) = ([("_node2info", m), ("_ready_nodes", n)] : List (Str × MV)) := rfl
theorem setA_3 {m n o : MV} : setA "_npassedout" o ([("_node2info", m), ("_ready_nodes", n)] : List (Str × MV)) = ([("_node2info", m), ("_ready_nodes", n), ("_npassedout", o)] : List (Str × MV)) := rfl
theorem setA_4 {m n o p : MV} : setA "_nfinished" p ([("_node2info", m), ("_ready_nodes", n), ("_npassedout", o)] : List (Str × MV)) = ([("_node2info", m), ("_ready_nodes", n), ("_npassedout", o), ("_nfinished", p)] : List (Str × MV)) := rfl
theorem init_spec (hX : X.Ok) (hA : AOk 1 A) {x dx : Addr} (hx : σ x = some (minst 137 dx)) (hd : σ dx = some (mattrs [])) (hne : x ≠ dx)
    (h : ∀ m σ', σ m = none → (m == sysModules) = false → σ' dx = some (mattrs (attrsOf (ad0 x dx m) S0)) → σ' m = some (mdict X none []) → (∀ b, b ≠ dx → b ≠ m → σ' b = σ b) → Q .none σ') : WCall X A 73 [.ref x] σ Q := by
  refine WCall_fn hX hA (fn_ts_init hX) (ps := ["self", "graph"]) (args' := [.ref x, .none]) (fun z => ?_) (by decide) (fun z => by kernel_rfl) (fun z L => ?_)
  · intro F s vs st hv
    simp only [MV.ref, VHs, VH] at hv
    obtain ⟨_, _, rfl, rfl, rfl⟩ := hv
    have hp : ∀ S, peek (KK X.w.params) S (bindArgs (fdZ (meth 6 0) "TopologicalSorter.__init__" (.ref 66) z) ⟨[.ref x], []⟩) = some ([("self", .ref x), ("graph", .none)] : List (Str × Value)) := fun S => by kernel_rfl
    exact (Looks.of_peek (M := X.M) (st.kin hX) (hp _)).here ⟨F, [.ref x, .none], .refl st, rfl, by simp only [MV.ref, VHs, VH]; exact ⟨_, _, rfl, rfl, _, _, rfl, rfl, rfl⟩⟩
  refine WS_cons (WS1_setattr (WE_dict0 hX (fun m hm hsys => WE_name rfl ?_)))
  have hdm : dx ≠ m := by rintro rfl; rw [hd] at hm; cases hm
  have hxm : x ≠ m := by rintro rfl; rw [hx] at hm; cases hm
  have hxd : x ≠ dx := hne
  refine Set_attr hX (dx := dx) (as := []) (by rw [MHeap.put_ne hxm]; exact hx) (by rw [MHeap.put_ne hdm]; exact hd) st_n2i (by decide) ?_
  rw [setA_1]
  refine WS_cons (WS1_setattr (WE_none (WE_name rfl (Set_attr hX (dx := dx) (by rw [MHeap.put_ne hxd, MHeap.put_ne hxm]; exact hx) (MHeap.put_self _ _ _) st_rdy (by simp) ?_))))
  rw [setA_2, put_put]
  refine WS_cons (WS1_setattr (WE_int (WE_name rfl (Set_attr hX (dx := dx) (by rw [MHeap.put_ne hxd, MHeap.put_ne hxm]; exact hx) (MHeap.put_self _ _ _) st_npo (by simp) ?_))))
  rw [setA_3, put_put]
  refine WS_cons (WS1_setattr (WE_int (WE_name rfl (Set_attr hX (dx := dx) (by rw [MHeap.put_ne hxd, MHeap.put_ne hxm]; exact hx) (MHeap.put_self _ _ _) st_nf (by simp) ?_))))
  rw [setA_4, put_put]
  refine WS_cons (WS1_if (WB_compare (WE_name rfl (WE_none (V_isNot (Tr_bool (WS_nil (WS_nil ?_))))))))
  refine h m _ hm hsys (MHeap.put_self _ _ _) ?_ (fun b h1 h2 => ?_)
  · rw [MHeap.put_ne (Ne.symm hdm)]; exact MHeap.put_self _ _ _
  · rw [MHeap.put_ne h1, MHeap.put_ne h2]
/-- TopologicalSorter() -/
theorem new_spec (hX : X.Ok) (hA : AOk 2 A) (h : ∀ σ' ad, SorterIs X σ' ad S0 → (∀ b, σ b ≠ none → σ' b = σ b) → (∀ l, live S0 l → σ (ad l) = none) → Q (.ref (ad .self)) σ') : WCall X A 137 [] σ Q := by
  refine WCall_new hX nc_ts (fun dx => minst 137 dx) (fun dx F => rfl) (fun vs x dx fx fdx hne => init_spec hX hA.new (MHeap.put_self _ _ _) (by rw [MHeap.put_ne (Ne.symm hne)]; exact MHeap.put_self _ _ _) hne (fun m σ' hm hsys e1 e2 e3 => ⟨rfl, ?_⟩))
  have hmx : m ≠ x := by rintro rfl; rw [MHeap.put_self] at hm; cases hm
  rw [MHeap.put_ne hmx] at hm
  have hmd : m ≠ dx := by rintro rfl; rw [MHeap.put_self] at hm; cases hm
  rw [MHeap.put_ne hmd] at hm
  refine h σ' (ad0 x dx m) ⟨fun l hl => ?_, fun l l' hl hl' e => ?_, hsys⟩ (fun b hb => ?_) (fun l hl => ?_)
  · match l, hl with
    | .self, _ =>
      show σ' x = _
      rw [e3 x hne (Ne.symm hmx)]; exact MHeap.put_self _ _ _
    | .dict, _ => exact e1
    | .map, _ => exact e2
    | .ready, hl => exact absurd rfl hl
    | .nd k, hl => cases hl
    | .ndx k, hl => cases hl
    | .nl k, hl => cases hl
  · match l, l', hl, hl', e with
    | .self, .self, _, _, _ => rfl
    | .self, .dict, _, _, e => exact absurd e hne
    | .self, .map, _, _, e => exact absurd e (Ne.symm hmx)
    | .dict, .self, _, _, e => exact absurd e (Ne.symm hne)
    | .dict, .dict, _, _, _ => rfl
    | .dict, .map, _, _, e => exact absurd e (Ne.symm hmd)
    | .map, .self, _, _, e => exact absurd e hmx
    | .map, .dict, _, _, e => exact absurd e hmd
    | .map, .map, _, _, _ => rfl
    | .ready, _, hl, _, _ => exact absurd rfl hl
    | .nd k, _, hl, _, _ => cases hl
    | .ndx k, _, hl, _, _ => cases hl
    | .nl k, _, hl, _, _ => cases hl
    | _, .ready, _, hl, _ => exact absurd rfl hl
    | _, .nd k, _, hl, _ => cases hl
    | _, .ndx k, _, hl, _ => cases hl
    | _, .nl k, _, hl, _ => cases hl
  · have h1 : b ≠ dx := by rintro rfl; exact hb fdx
    have h2 : b ≠ m := by rintro rfl; exact hb hm
    have h3 : b ≠ x := by rintro rfl; exact hb fx
    rw [e3 b h1 h2, MHeap.put_ne h3, MHeap.put_ne h1]
  · match l, hl with
    | .self, _ => exact fx
    | .dict, _ => exact fdx
    | .map, _ => exact hm
    | .ready, hl => exact absurd rfl hl
    | .nd k, hl => cases hl
    | .ndx k, hl => cases hl
    | .nl k, hl => cases hl
end
end Mine
end
section
open PySem PySem.W PyProof.Rows PySem.Calls
set_option Elab.async false
set_option maxRecDepth 100000
set_option linter.unusedVariables false
set_option linter.unusedSimpArgs false
namespace Mine
def SS.push (S : SS) (j : Int) : SS := { S with ready := S.ready.map (· ++ [j]) }
def SS.dec (S : SS) (j : Int) : SS := if S.np j - 1 = 0 then (S.setNp j (S.np j - 1)).push j else S.setNp j (S.np j - 1)
def SS.setFin (S : SS) (n : Int) : SS := { S with fin := n }
def SS.done1 (S : SS) (k : Int) : SS := ((S.succ k).foldl SS.dec (S.setNp k (-2))).setFin (S.fin + 1)
theorem SS.dec_order (S : SS) (j : Int) : (S.dec j).order = S.order := by unfold SS.dec; split <;> rfl
theorem SS.dec_succ (S : SS) (j : Int) : (S.dec j).succ = S.succ := by unfold SS.dec; split <;> rfl
theorem SS.dec_fin (S : SS) (j : Int) : (S.dec j).fin = S.fin := by unfold SS.dec; split <;> rfl
theorem SS.dec_passed (S : SS) (j : Int) : (S.dec j).passed = S.passed := by unfold SS.dec; split <;> rfl
theorem SS.dec_some (S : SS) (j : Int) : (S.dec j).ready = none ↔ S.ready = none := by
  unfold SS.dec
  split
  · show Option.map _ S.ready = none ↔ _
    simp
  · exact Iff.rfl
theorem SS.decs_order : ∀ (js : List Int) (S : SS), (js.foldl SS.dec S).order = S.order
  | [], S => rfl
  | j :: js, S => (SS.decs_order js (S.dec j)).trans (S.dec_order j)
theorem SS.decs_succ : ∀ (js : List Int) (S : SS), (js.foldl SS.dec S).succ = S.succ
  | [], S => rfl
  | j :: js, S => (SS.decs_succ js (S.dec j)).trans (S.dec_succ j)
theorem SS.decs_fin : ∀ (js : List Int) (S : SS), (js.foldl SS.dec S).fin = S.fin
  | [], S => rfl
  | j :: js, S => (SS.decs_fin js (S.dec j)).trans (S.dec_fin j)
theorem SS.decs_passed : ∀ (js : List Int) (S : SS), (js.foldl SS.dec S).passed = S.passed
  | [], S => rfl
  | j :: js, S => (SS.decs_passed js (S.dec j)).trans (S.dec_passed j)
theorem SS.decs_some : ∀ (js : List Int) (S : SS), (js.foldl SS.dec S).ready = none ↔ S.ready = none
  | [], S => Iff.rfl
  | j :: js, S => (SS.decs_some js (S.dec j)).trans (S.dec_some j)
theorem SS.done1_order (S : SS) (k : Int) : (S.done1 k).order = S.order := SS.decs_order _ _
theorem SS.done1_succ (S : SS) (k : Int) : (S.done1 k).succ = S.succ := SS.decs_succ _ _
theorem SS.done1_some (S : SS) (k : Int) : (S.done1 k).ready = none ↔ S.ready = none := SS.decs_some _ _
theorem SS.done1_fin (S : SS) (k : Int) : (S.done1 k).fin = S.fin + 1 := rfl
theorem SS.done1_passed (S : SS) (k : Int) : (S.done1 k).passed = S.passed := SS.decs_passed _ _
def SS.rl (S : SS) : List Int := S.ready.getD []
theorem SS.dec_rl (S : SS) (j : Int) : (S.dec j).rl.length ≤ S.rl.length + 1 := by
  unfold SS.dec
  split
  · show ((S.ready.map (· ++ [j])).getD []).length ≤ (S.ready.getD []).length + 1
    cases S.ready <;> simp
  · show S.rl.length ≤ _
    omega
theorem live_same {S S' : SS} (ho : S'.order = S.order) (hr : S'.ready = none ↔ S.ready = none) : ∀ l, live S' l ↔ live S l := fun l => by
  cases l <;> simp [live, ho, hr]
section
variable {X : Cx} {A : Around} {env : Env} {φ : MEnv} {σ σ' σ'' : MHeap} {Q : MV → MHeap → Prop} {ad ad' ad'' : Loc → Addr} {S S' S'' : SS}
theorem SorterIs.push (h : SorterIs X σ ad S) (j : Int) (hr : S.ready ≠ none) : SorterIs X (σ.put (ad .ready) (mlist ((S.rl ++ [j]).map .int))) ad (S.push j) ∧ Rest S ad σ (σ.put (ad .ready) (mlist ((S.rl ++ [j]).map .int))) := by
  obtain ⟨rl, hrl⟩ := Option.ne_none_iff_exists'.mp hr
  have := h.put (S' := S.push j) .ready hr (live_same rfl (by simp [SS.push])) (fun l' hl' _ => by
    cases l' <;> first | rfl | exact absurd rfl hl' | skip
    show mattrs (attrsOf _ _) = mattrs (attrsOf _ _)
    unfold attrsOf SS.push; rw [hrl]; rfl)
  have e : descOf X ad (S.push j) .ready = mlist ((S.rl ++ [j]).map .int) := by
    show mlist _ = _
    unfold SS.push SS.rl; rw [hrl]; rfl
  rw [e] at this
  exact this
theorem SorterIs.setFin (h : SorterIs X σ ad S) (n : Int) : SorterIs X (σ.put (ad .dict) (mattrs (attrsOf ad (S.setFin n)))) ad (S.setFin n) ∧ Rest S ad σ (σ.put (ad .dict) (mattrs (attrsOf ad (S.setFin n)))) :=
  h.put (S' := S.setFin n) .dict trivial (live_same rfl Iff.rfl) (fun l' hl' _ => by cases l' <;> first | rfl | exact absurd rfl hl')
theorem setA_nf {n : Int} : setA "_nfinished" (.int n) (attrsOf ad S) = attrsOf ad (S.setFin n) := by
  unfold attrsOf; rfl
theorem look_rdy' (hr : S.ready ≠ none) : (attrsOf ad S).lookup ("_ready_nodes" : Str) = some (.ref (ad .ready)) := by
  obtain ⟨rl, hrl⟩ := Option.ne_none_iff_exists'.mp hr
  exact look_rdy hrl
/-- a list that may change, and does not while it is gone through -/
theorem iter_mlist {a : Addr} {xs : List MV} (hA : A.handled = none) (ha : σ a = some (mlist xs)) : IterOf X A (.ref a) σ (fun σ' => σ' a = some (mlist xs)) xs := by
  intro F s v st hv
  simp only [MV.ref, VH] at hv; subst hv
  obtain ⟨items, n, ho, hx⟩ := st.mlistAt ha
  refine wpAny_pyIter_list (l := a) (items := items) ⟨_, ho, rfl, n, rfl⟩ ⟨s.heap.objs.size, fun i h => h.IsListIter s.heap.objs.size a i, _, rfl, rfl, fun b o e => Heap.get?_push_of_some _ e, get?_ge (Nat.le_refl _), ⟨_, Heap.get?_push_size _ rfl, rfl, rfl⟩, ?_⟩
  refine ⟨fun i h h' x k => ListIter.keep x k, fun i h x => let ⟨o, ho, _⟩ := x; ⟨o, ho⟩, fun i h o x ho es n hd => (by obtain ⟨o', ho', _, hd'⟩ := x; rw [ho] at ho'; cases ho'; rw [hd] at hd'; cases hd'), ?_, ?_, fun i s' Q x q => wpAny_pyIter_listiter x q⟩
  · intro i F' σ' s' mv Q hi hle hok st' hit hq
    obtain ⟨items', n', ho', hx'⟩ := st'.mlistAt hok
    obtain ⟨v, hv, hvh⟩ := hx'.get hi
    exact wpAny_pyNext_list_item hit ⟨_, ho', rfl, n', rfl⟩ (getElem?_toList ▸ hv) fun h' h1 h2 => hq v h' s'.toks hvh h1 h2
  · intro F' σ' s' Q hle hok st' hit hq
    obtain ⟨items', n', ho', hx'⟩ := st'.mlistAt hok
    refine wpAny_pyNext_list_end hA hit (items := items') ⟨_, ho', rfl, n', rfl⟩ ?_ fun h' h1 => hq h' s'.toks h1
    have := hx'.length
    simp only [Array.length_toList] at this
    rw [← this]; simp
theorem gl_done (hX : X.Ok) : ∃ t, GlobIs X "_NODE_DONE" (.int (-2) t) := ⟨_, globK hX (v := .int (-2) _) (by with_unfolding_all rfl)⟩
end
/-- each of the nodes is out when its turn comes -/
def DoneOk : SS → List Int → Prop
  | _, [] => True
  | S, k :: r => k ∈ S.order ∧ S.np k = -1 ∧ (∀ j ∈ S.succ k, j ∈ S.order) ∧ S.rl.length + (S.succ k).length ≤ 1000 ∧ DoneOk (S.done1 k) r
end Mine
end
section
open PySem PySem.W PyProof.Rows PySem.Calls
set_option Elab.async false
set_option maxRecDepth 100000
set_option linter.unusedVariables false
set_option linter.unusedSimpArgs false
namespace Mine
section
variable {X : Cx} {A : Around} {env : Env} {φ : MEnv} {σ σ' σ'' : MHeap} {Q : MV → MHeap → Prop} {ad ad' ad'' : Loc → Addr} {S S' S'' : SS}
def dEnv (z : FnRest) (L : Addr) : Env := fEnv (meth 6 7) "TopologicalSorter.done" .none 120 z L
def dBody : List Stmt := match (fBody (meth 6 7)).drop 2 with | .For _ _ b _ _ :: _ => b | _ => []
def dBodyI : List Stmt := match dBody.drop 4 with | .For _ _ b _ _ :: _ => b | _ => []
theorem done_inner (hX : X.Ok) {z : FnRest} {L : Addr} {k : Int} {φk : Int} : ∀ (P : MF → MEnv → MHeap → Prop) (rest : List Int) (S' : SS) (σ' : MHeap) (φ : MEnv), SorterIs X σ' ad S' → S'.order = S.order → S'.succ = S.succ → (S'.ready = none ↔ S.ready = none) → S.ready ≠ none → k ∈ S.order →
      (∀ j ∈ rest, j ∈ S.order) → S'.rl.length + rest.length ≤ 1000 → Rest S ad σ σ' →
      φ.lookup ("n2i" : Str) = some (.ref (ad .map)) → φ.lookup ("self" : Str) = some (.ref (ad .self)) →
      (∀ σ'' φ'', SorterIs X σ'' ad (rest.foldl SS.dec S') → Rest S ad σ σ'' → φ''.lookup ("n2i" : Str) = some (.ref (ad .map)) → φ''.lookup ("self" : Str) = some (.ref (ad .self)) → P .next φ'' σ'') →
      LoopQ X (A.deeper (dEnv z L)) (dEnv z L) "successor" dBodyI (fun σ' => σ' (ad (.nl k)) = some (mlist ((S.succ k).map .int))) P (rest.map .int) φ σ' := by
  intro P rest
  induction rest with
  | nil => intro S' σ' φ hs' ho hsu hr hr0 hk hin hlen hR h1 h2 hP; exact hP σ' φ hs' hR h1 h2
  | cons j rest ih =>
    intro S' σ' φ hs' ho hsu hr hr0 hk hin hlen hR h1 h2 hP
    have hj : j ∈ S'.order := by rw [ho]; exact hin j List.mem_cons_self
    have hn := hs'.setNp (S'.np j - 1) hj
    have hr' : S'.ready ≠ none := fun e => hr0 (hr.mp e)
    refine WS_cons (WS1_assign (WE_item (WE_name h1 (WE_name lookup_cons_self (V_ditem (hs'.at_ .map trivial) (dlook_map (α := Nat) (f := fun j => .ref (ad (.nd j))) hj) ?_)))))
    refine WS_cons (WS1_augattr (WE_name lookup_cons_self (V_slot hX (hs'.at_ (.nd j) hj) (hs'.at_ (.ndx j) hj) (mv := .int (S'.np j)) rfl sc_np (WE_int (V_isub (Set_slot hX (hs'.at_ (.nd j) hj) (hs'.at_ (.ndx j) hj) sc_np ?_))))))
    have e1 : σ'.put (ad (.nd j)) (mslots 40 (ad (.ndx j)) (setS [some (.int j), some (.int (S'.np j)), some (.ref (ad (.nl j)))] 1 (.int (S'.np j - 1)))) = σ'.put (ad (.nd j)) (nodeD (ad (.ndx j)) j (S'.np j - 1) (ad (.nl j))) := rfl
    rw [e1]
    have hs2 := hn.1
    have hR2 : Rest S ad σ _ := Rest.trans (live_same ho hr) hR hn.2
    have hnp : (S'.setNp j (S'.np j - 1)).np j = S'.np j - 1 := by simp [SS.setNp]
    have hj2 : j ∈ (S'.setNp j (S'.np j - 1)).order := hj
    refine WS_cons (WS1_if (WB_compare (WE_attr (WE_name lookup_cons_self (V_slot hX (hs2.at_ (.nd j) hj2) (hs2.at_ (.ndx j) hj2) (mv := .int ((S'.setNp j (S'.np j - 1)).np j)) rfl sc_np (WE_int (V_eq (Tr_bool ?_))))))))
    rw [hnp]
    have okS : ∀ (S'' : SS) (σ'' : MHeap), SorterIs X σ'' ad S'' → S''.order = S'.order → S''.succ = S'.succ → σ'' (ad (.nl k)) = some (mlist ((S.succ k).map .int)) := fun S'' σ'' hs'' h1 h2 => by
      rw [hs''.at_ (.nl k) (by show k ∈ S''.order; rw [h1, ho]; exact hk)]
      show some (mlist ((S''.succ k).map .int)) = _
      rw [h2, hsu]
    cases hz : (S'.np j - 1 == 0) with
    | true =>
      have hz' : S'.np j - 1 = 0 := by simpa using hz
      have hp := hs2.push j hr'
      have hdec : S'.dec j = (S'.setNp j (S'.np j - 1)).push j := by unfold SS.dec; rw [if_pos hz']
      refine WS_cons (WS1_expr (WE_append (WE_self hX hs2 h2 (look_rdy' hr') ac_rdy rfl ⟨_, _, rfl, hs2.at_ .ready hr', WE_name rfl ⟨_, hs2.at_ .ready hr', ?_, rfl, WS_nil (WS_nil ⟨?_, ?_⟩)⟩⟩)))
      · rw [List.length_map]
        have : (1000 : Nat) ≤ sizeLine := by decide
        have h3 : ((S'.setNp j (S'.np j - 1)).ready.getD []).length = S'.rl.length := rfl
        simp only [List.length_cons] at hlen
        omega
      · have := okS _ _ hp.1 rfl rfl
        have e2 : ((((S'.setNp j (S'.np j - 1)).ready.getD []).map MV.int) ++ [.int j]) = (((S'.setNp j (S'.np j - 1)).rl ++ [j]).map MV.int) := by simp [SS.rl]
        rw [e2]; exact this
      · have e2 : ((((S'.setNp j (S'.np j - 1)).ready.getD []).map MV.int) ++ [.int j]) = (((S'.setNp j (S'.np j - 1)).rl ++ [j]).map MV.int) := by simp [SS.rl]
        rw [e2]
        refine ih (S'.dec j) _ _ (by rw [hdec]; exact hp.1) ((S'.dec_order j).trans ho) ((S'.dec_succ j).trans hsu) ((S'.dec_some j).trans hr) hr0 hk (fun i hi => hin i (List.mem_cons_of_mem _ hi)) ?_ ?_ h1 h2 hP
        · have := S'.dec_rl j
          simp only [List.length_cons] at hlen
          omega
        · exact Rest.trans (live_same ho hr) hR2 hp.2
    | false =>
      have hz' : S'.np j - 1 ≠ 0 := by simpa using hz
      have hdec : S'.dec j = S'.setNp j (S'.np j - 1) := by unfold SS.dec; rw [if_neg hz']
      refine WS_nil (WS_nil ⟨okS _ _ hs2 rfl rfl, ?_⟩)
      refine ih (S'.dec j) _ _ (by rw [hdec]; exact hs2) ((S'.dec_order j).trans ho) ((S'.dec_succ j).trans hsu) ((S'.dec_some j).trans hr) hr0 hk (fun i hi => hin i (List.mem_cons_of_mem _ hi)) ?_ hR2 h1 h2 hP
      have := S'.dec_rl j
      simp only [List.length_cons] at hlen
      omega
theorem done_outer (hX : X.Ok) (hA : A.handled = none) {z : FnRest} {L : Addr} : ∀ (P : MF → MEnv → MHeap → Prop) (rest : List Int) (S' : SS) (σ' : MHeap) (φ : MEnv), SorterIs X σ' ad S' → S'.order = S.order → S'.succ = S.succ → (S'.ready = none ↔ S.ready = none) → S.ready ≠ none →
      DoneOk S' rest → Rest S ad σ σ' →
      φ.lookup ("n2i" : Str) = some (.ref (ad .map)) → φ.lookup ("self" : Str) = some (.ref (ad .self)) →
      (∀ σ'' φ'', SorterIs X σ'' ad (rest.foldl SS.done1 S') → Rest S ad σ σ'' → P .next φ'' σ'') →
      LoopQ X (A.deeper (dEnv z L)) (dEnv z L) "node" dBody (fun _ => True) P (rest.map .int) φ σ' := by
  intro P rest
  obtain ⟨tk, hout⟩ := gl_out hX
  obtain ⟨tk2, hdn⟩ := gl_done hX
  induction rest with
  | nil => intro S' σ' φ hs' ho hsu hr hr0 hok hR h1 h2 hP; exact hP σ' φ hs' hR
  | cons k rest ih =>
    intro S' σ' φ hs' ho hsu hr hr0 hok hR h1 h2 hP
    obtain ⟨hk, hnp, hin, hlen, hok'⟩ := hok
    have hr' : S'.ready ≠ none := fun e => hr0 (hr.mp e)
    refine WS_cons (WS1_ifWalrus (WE_dget (WE_name h1 ⟨rfl, hs'.at_ .map trivial, WE_name lookup_cons_self ⟨k, rfl, hs'.at_ .map trivial, hs'.sys, ?_⟩⟩)))
    rw [dlook_map (α := Nat) (f := fun j => .ref (ad (.nd j))) hk]
    refine ⟨false, rfl, WS_nil ?_⟩
    refine WS_cons (WS1_assign (WE_attr (WE_name lookup_cons_self (V_slot hX (hs'.at_ (.nd k) hk) (hs'.at_ (.ndx k) hk) (mv := .int (-1)) (by rw [hnp]; rfl) sc_np ?_))))
    refine WS_cons (WS1_if (WB_compare (WE_name lookup_cons_self (WE_globInt hout (V_ne (Tr_bool ?_))))))
    refine WS_nil ?_
    have hn := hs'.setNp (-2) hk
    refine WS_cons (WS1_setattr (WE_globInt hdn (WE_name rfl (Set_slot hX (hs'.at_ (.nd k) hk) (hs'.at_ (.ndx k) hk) sc_np ?_))))
    have e1 : σ'.put (ad (.nd k)) (mslots 40 (ad (.ndx k)) (setS [some (.int k), some (.int (S'.np k)), some (.ref (ad (.nl k)))] 1 (.int (-2)))) = σ'.put (ad (.nd k)) (nodeD (ad (.ndx k)) k (-2) (ad (.nl k))) := rfl
    rw [e1]
    have hs2 := hn.1
    have hR2 : Rest S ad σ _ := Rest.trans (live_same ho hr) hR hn.2
    have hk2 : k ∈ (S'.setNp k (-2)).order := hk
    have hk3 : k ∈ S.order := by rw [← ho]; exact hk
    have hnl : (σ'.put (ad (.nd k)) (nodeD (ad (.ndx k)) k (-2) (ad (.nl k)))) (ad (.nl k)) = some (mlist ((S.succ k).map .int)) := by
      rw [hs2.at_ (.nl k) hk2]
      show some (mlist ((S'.succ k).map .int)) = _
      rw [hsu]
    refine WS_cons (WS1_for (WE_attr (WE_name rfl (V_slot hX (hs2.at_ (.nd k) hk2) (hs2.at_ (.ndx k) hk2) (mv := .ref (ad (.nl k))) rfl sc_succ ⟨_, _, iter_mlist hA hnl, hnl, done_inner hX (k := k) (φk := 0) (S := S) (σ := σ) _ (S.succ k) (S'.setNp k (-2)) _ _ hs2 ho hsu hr hr0 hk3 ?_ ?_ hR2 h1 h2 ?_⟩))))
    · intro j hj; rw [← ho]; rw [← hsu] at hj; exact hin j hj
    · rw [← hsu]; exact hlen
    · intro σ3 φ3 hs3 hR3 h1' h2'
      have hf := hs3.setFin (S'.fin + 1)
      have hfin : ((S.succ k).foldl SS.dec (S'.setNp k (-2))).fin = S'.fin := SS.decs_fin _ _
      have ho3 : ((S.succ k).foldl SS.dec (S'.setNp k (-2))).order = S.order := (SS.decs_order _ _).trans ho
      have hr3 : ((S.succ k).foldl SS.dec (S'.setNp k (-2))).ready = none ↔ S.ready = none := (SS.decs_some _ _).trans hr
      refine WS_cons (WS1_augattr (WE_name h2' (V_attr hX (hs3.at_ .self trivial) (hs3.at_ .dict trivial) (mv := .int (S'.fin)) (by rw [← hfin]; rfl) ac_nf (WE_int (V_iadd (Set_attr hX (hs3.at_ .self trivial) (hs3.at_ .dict trivial) st_nf (by show 4 ≤ 100; decide) ?_))))))
      rw [setA_nf]
      have e : S'.done1 k = ((S.succ k).foldl SS.dec (S'.setNp k (-2))).setFin (S'.fin + 1) := by unfold SS.done1; rw [hsu]
      refine WS_nil ⟨trivial, ih (S'.done1 k) _ _ (by rw [e]; exact hf.1) ((S'.done1_order k).trans ho) ((S'.done1_succ k).trans hsu) ((S'.done1_some k).trans hr) hr0 hok' ?_ h1' h2' hP⟩
      exact Rest.trans (live_same ho3 hr3) hR3 hf.2
theorem done_spec (hX : X.Ok) (hA : AOk 1 A) (hs : SorterIs X σ ad S) {ks : List Int} (hr : S.ready ≠ none) (hlen : ks.length ≤ 1000) (hok : DoneOk S ks)
    (h : ∀ σ', SorterIs X σ' ad (ks.foldl SS.done1 S) → Rest S ad σ σ' → Q .none σ') : WCall X A 120 (.ref (ad .self) :: ks.map .int) σ Q := by
  refine WCall_fn hX hA (fn_ts_done hX) (ps := ["self", "nodes"]) (args' := [.ref (ad .self), .tup (ks.map .int)]) (fun z => bindStar (pre := [.ref (ad .self)]) ?bl fun vs us hl => ?_) (by decide) (fun z => by kernel_rfl) (fun z L => ?_)
  case bl =>
    rw [List.length_map]; have : (1000 : Nat) ≤ sizeLine := by decide
    omega
  · match vs, hl with
    | [v], _ => exact bind_done z v us
  refine WS_cons (WS1_if (WB_compare (WE_self hX hs rfl (look_rdy' hr) ac_rdy rfl (WE_none (V_refIsNone (Tr_bool (WS_nil ?_)))))))
  refine WS_cons (WS1_assign (WE_self hX hs rfl rfl ac_n2i rfl ?_))
  refine WS_cons (WS1_for (WE_name rfl ⟨_, _, iter_tup hA.handled, trivial, done_outer hX hA.handled (S := S) (σ := σ) _ ks S σ _ hs rfl rfl Iff.rfl hr hok Rest.refl rfl rfl ?_⟩))
  intro σ'' φ'' hs'' hR''
  exact WS_nil (h σ'' hs'' hR'')
end
end Mine
end
section
open PySem PySem.W PyProof.Rows PySem.Calls
set_option Elab.async false
set_option maxRecDepth 100000
set_option linter.unusedVariables false
set_option linter.unusedSimpArgs false
namespace Mine
def Cx.addFr (X : Cx) (f : Addr) : Cx := { X with fr := f :: X.fr }
section
variable {X : Cx} {A : Around} {B : Base} {env : Env} {φ : MEnv} {σ σ' : MHeap} {F : Fz} {s : Shared} {Q : MF → MEnv → MHeap → Prop}
theorem St.addFr {L : Addr} {m : Str → Option Value} (st : St X F σ s) (hn : s.heap.Ns L m) (hF : F L = none) (hσ : σ L = none) : St (X.addFr L) F σ s :=
  ⟨st.top, st.fz, st.own, st.apart, st.gens, st.os, fun f hf => by
    rcases List.mem_cons.mp hf with rfl | hf
    · obtain ⟨o, es, ep, ho, hd, _⟩ := hn; exact ⟨⟨o, es, ep, ho, hd⟩, hF, hσ⟩
    · exact st.frs f hf⟩
theorem St.lessFr {L : Addr} (st : St (X.addFr L) F σ s) : St X F σ s := ⟨st.top, st.fz, st.own, st.apart, st.gens, st.os, fun f hf => st.frs f (List.mem_cons_of_mem _ hf)⟩
/-- the frame at hand is known -/
theorem WS.addFr {ss : List Stmt} (h : WS (X.addFr env.locals) A env ss φ σ Q) : WS X A env ss φ σ Q := by
  intro B F s f
  obtain ⟨m, hm⟩ := f.ev.ns
  refine wpAny_mono (h B F s ⟨f.st.addFr hm f.ev.locFree.2 f.ev.locFree.1, f.since, f.ev, f.apart, f.above⟩) ?_ fun _ _ x => x
  rintro fl s' ⟨F', σ', φ', mf, f', hfl, hq⟩
  exact ⟨F', σ', φ', mf, ⟨f'.st.lessFr, f'.since, f'.ev, f'.apart, f'.above⟩, hfl, hq⟩
theorem Fm.turn {a : Addr} {d d' : Desc} {o : Obj} (f : Fm X B env φ F σ s) (ha : σ a = some d) (ho : s.heap.get? a = some o) (hd : d'.p F o) : Fm X B env φ F (σ.put a d') s :=
  f.step (Trans.mut (t := s.toks) (h' := s.heap) f.st ha (fun b o _ e => e) ho hd)
/-- the dict's keys do not change from here on -/
theorem WS.pin {ss : List Stmt} {d : Addr} {kvs : List (Int × MV)} (hd : σ d = some (mdict X none kvs)) (h : ∀ ep, WS X A env ss φ (σ.put d (mdict X (some ep) kvs)) Q) : WS X A env ss φ σ Q := by
  intro B F s f
  obtain ⟨o, ho, ⟨vs, ⟨es, ep, h1, h2, h3⟩, h6⟩, _⟩ := f.st.own d _ hd
  exact h ep B F s (f.turn (d' := mdict X (some ep) kvs) hd ho ⟨⟨vs, ⟨es, ep, h1, h2, h3⟩, h6⟩, fun ep' e => by cases e; exact ⟨es, h2⟩⟩)
theorem WS1_while {test : Expr} {body orelse : List Stmt} {pos : Pos} (I : Nat → MEnv → MHeap → Prop)
    (turn : ∀ n φ σ, I n φ σ → WB X A env test φ σ (fun b σ₁ => match b with
      | true => WS X A env body φ σ₁ (fun mf φ' σ' => match mf with
          | .next => ∃ m, m < n ∧ I m φ' σ'
          | .cont => ∃ m, m < n ∧ I m φ' σ'
          | .brk => Q .next φ' σ'
          | .ret v => Q (.ret v) φ' σ')
      | false => WS X A env orelse φ σ₁ Q))
    (n : Nat) (h : I n φ σ) : WS1 X A env (.While test body orelse pos) φ σ Q := by
  intro B F s f
  refine wpAny_While (codeAny_whileLoop (fun n s => ∃ F φ σ, Fm X B env φ F σ s ∧ I n φ σ) ?_ n ⟨F, φ, σ, f, h⟩)
  rintro n s ⟨F, φ, σ, f, hI⟩
  refine noE_any (wpAny_mono (turn n φ σ hI F s f.st f.ev) ?_ fun _ _ x => x)
  rintro b s₂ ⟨F₂, σ₂, t₂, hb⟩
  have f₂ := f.step t₂
  cases b with
  | true =>
    simp only [if_true]
    refine noE_any (wpAny_mono (hb B F₂ s₂ f₂) ?_ fun _ _ x => x)
    rintro fl s₃ ⟨F₃, σ₃, φ₃, mf, f₃, hfl, hq⟩
    cases mf with
    | next => cases hfl; obtain ⟨m, hm, hi⟩ := hq; exact ⟨m, hm, F₃, φ₃, σ₃, f₃, hi⟩
    | cont => cases hfl; obtain ⟨m, hm, hi⟩ := hq; exact ⟨m, hm, F₃, φ₃, σ₃, f₃, hi⟩
    | brk => cases hfl; exact ⟨F₃, σ₃, φ₃, .next, f₃, rfl, hq⟩
    | ret v => obtain ⟨u, rfl, hu⟩ := hfl; exact ⟨F₃, σ₃, φ₃, .ret v, f₃, ⟨u, rfl, hu⟩, hq⟩
  | false =>
    simp only [Bool.false_eq_true, if_false]
    refine noE_any (wpAny_mono (hb B F₂ s₂ f₂) ?_ fun _ _ x => x)
    rintro fl s₃ p
    exact p
theorem Trans.kp' {h' : Heap} {t : Nat} (st : St X F σ s) (k : ∀ b o, s.heap.get? b = some o → ∃ o', h'.get? b = some o' ∧ Kp o o') (kx : ∀ b o, b ∉ X.fr → s.heap.get? b = some o → h'.get? b = some o) : Trans X F σ s F σ { s with heap := h', toks := t } where
  mono := Fz.le_refl _
  kp := fun b o e _ => k b o e
  dom := fun _ q => .inl q
  newS := fun _ q q' => absurd q q'
  newF := fun _ q _ q' => absurd q q'
  st := {
    top := st.top
    fz := fun b o e => kx b o (fun hb => by rw [(st.frs b hb).2.1] at e; cases e) (st.fz b o e)
    own := fun b d e => by
      obtain ⟨o, h1, h2⟩ := st.own b d e
      exact ⟨o, kx b o (fun hb => by rw [(st.frs b hb).2.2] at e; cases e) h1, h2⟩
    apart := st.apart
    gens := st.gens
    os := st.os
    frs := fun f hf => by
      obtain ⟨⟨x, es, n, hx, hd⟩, h2⟩ := st.frs f hf
      obtain ⟨o', h3, h4⟩ := k f x hx
      exact ⟨⟨o', es, n, h3, h4.data.trans hd⟩, h2⟩ }
/-- an exception just made, none of its frames noted -/
def ExcAt (h : Heap) (e : Addr) (T : String) : Prop := ∃ oe vs a0, h.get? e = some oe ∧ oe.cls = .type T ∧ oe.data = .fields vs ∧ vs[0]? = some a0 ∧ vs[1]? = some .none
/-- the frames on the stack are known -/
structure FramesOk (X : Cx) (A : Around) (env : Env) : Prop where
  stack : ∃ outer, A.frames = some (env :: outer) ∧ ∀ e ∈ env :: outer, e.scope.kind ≠ .module ∧ ∃ f ∈ X.fr, e.frame = some f
theorem noteFrame_first {M : Model} {E : Value → Shared → Prop} {base : Heap} {outer : List Env} {L e : Addr} {oe : Obj} {vs : Array Value} {a0 : Value} {Q : Unit → Shared → Prop}
    (hfr : A.frames = some (env :: outer)) (hl : s.heap.FunFrames base (env :: outer)) (hf : env.frame = some L)
    (he : s.heap.get? e = some oe) (hkb : base.StaysIn s.heap) (hen : base.get? e = none) (hd : oe.data = .fields vs) (h1 : vs[1]? = some .none) (h0 : vs[0]? = some a0)
    (h : ∀ h', Heap.NotedW base (env :: outer) e oe.cls a0 (rawInt L) s.heap h' → Q () { s with heap := h' }) : wpAny M A (noteFrame (.ref e) env) Q E s := by
  unfold noteFrame
  simp only [hf]
  refine wpAny_bind (wpAny_field he hd h1 ?_)
  rw [if_neg (by decide)]
  exact wpAny_entryW hfr hl hf he hkb hen hd (Array.getElem?_eq_some_iff.mp h1).1 h0 h
theorem funFrames_of {h base : Heap} : ∀ {l : List Env}, (∀ e ∈ l, e.scope.kind ≠ .module ∧ ∃ f o es n, e.frame = some f ∧ base.get? f = none ∧ h.get? f = some o ∧ o.data = .dict es n) → h.FunFrames base l
  | [], _ => trivial
  | e :: l, hl => by
    obtain ⟨hk, f, o, es, n, h1, h2, h3, h4⟩ := hl e List.mem_cons_self
    exact ⟨hk, ⟨f, o, h1, h2, h3, fun vs q => by rw [h4] at q; cases q⟩, funFrames_of fun x hx => hl x (List.mem_cons_of_mem _ hx)⟩
end
end Mine
end
section
open PySem PySem.W PyProof.Rows PySem.Calls
set_option Elab.async false
set_option maxRecDepth 100000
set_option linter.unusedVariables false
set_option linter.unusedSimpArgs false
namespace Mine
section
variable {X : Cx} {A : Around} {B : Base} {env : Env} {φ : MEnv} {σ σ' : MHeap} {F : Fz} {s : Shared} {Q : MF → MEnv → MHeap → Prop}
/-- try: .. except T: ..; the suite raises a new exception of T's, or does not fall through -/
theorem WS1_try {body : List Stmt} {b₀ : Stmt} {suite : List Stmt} {T : String} {x : Str} {np hpos pos : Pos} (hfr : FramesOk X A env) (hg : GlobIs X x (.type T))
    (hexc : isSubtype (.type T) (.type "BaseException") = pure true) (hnt : isSubtype (.type ((Manifest.find? T).elim "type" fun y => y.metatype)) (.type "tuple") = pure false) (hsub : isSubtype (.type T) (.type T) = pure true)
    (h : ∀ B F s, Fm X B env φ F σ s → wpAny X.M A (execs body env) (fun fl s' => fl ≠ .next ∧ PostS X B env Q fl s')
      (fun ev s' => ∃ e h₁ F' σ' φ', ev = .ref e ∧ Fm X B env φ' F' σ' { s' with heap := h₁ } ∧ h₁.get? e = none ∧ (∀ b o, h₁.get? b = some o → s'.heap.get? b = some o) ∧ ExcAt s'.heap e T ∧
        WS X (A.mark (some (.ref e))) env (b₀ :: suite) φ' σ' Q) s)
    (hk : env.kindOf x = some .globalImplicit := by rfl) (hd : (x == ("__debug__" : Str)) = false := by decide) :
    WS1 X A env (.Try body [.ExceptHandler (some (.Name x np)) none (b₀ :: suite) hpos] [] [] pos) φ σ Q := by
  intro B F s f
  refine wpAny_Try_except (wpAny_mono (h B F s f) ?_ ?_)
  · rintro fl s' ⟨hn, hp⟩
    cases fl with
    | next => exact absurd rfl hn
    | brk => exact hp
    | cont => exact hp
    | ret v => exact hp
  · rintro ev s₁ ⟨e, h₁, F', σ', φ', rfl, f₁, he, hk₁, ⟨oe, vs, a0, hoe, hcls, hdat, hv0, hv1⟩, hws⟩
    obtain ⟨outer, hst, hfs⟩ := hfr.stack
    -- the frames
    have hfa : ∀ env' ∈ env :: outer, ∃ f ∈ X.fr, env'.frame = some f := fun env' h' => (hfs env' h').2
    obtain ⟨L, hLfr, hL⟩ := hfa env List.mem_cons_self
    let as := e :: (env :: outer).filterMap (·.frame)
    have frIn : ∀ b, b ∈ (env :: outer).filterMap (·.frame) → b ∈ X.fr := fun b hb => by
      obtain ⟨env', he', hf'⟩ := List.mem_filterMap.mp hb
      obtain ⟨f, hf1, hf2⟩ := hfa env' he'
      rw [hf2] at hf'; cases hf'; exact hf1
    have hbase : (hideAll s₁.heap as).StaysIn s₁.heap := fun b o q => of_hideAll _ q
    have hfun : s₁.heap.FunFrames (hideAll s₁.heap as) (env :: outer) := funFrames_of fun env' he' => by
      obtain ⟨f, hf1, hf2⟩ := hfa env' he'
      obtain ⟨⟨o, es, n, ho, hd⟩, _⟩ := f₁.st.frs f hf1
      exact ⟨(hfs env' he').1, f, o, es, n, hf2, hideAll_none _ (List.mem_cons_of_mem _ (List.mem_filterMap.mpr ⟨env', he', hf2⟩)), hk₁ f o ho, hd⟩
    have hbe : (hideAll s₁.heap as).get? e = none := hideAll_none _ List.mem_cons_self
    refine noteFrame_first hst hfun hL hoe hbase hbe hdat hv1 hv0 fun h₂ hN => ?_
    obtain ⟨n1, n2, n3, n4⟩ := hN
    refine wpAny_setFlight_noneW (s := { s₁ with heap := h₂ }) n1 n2 n3 fun h₃ m1 m2 m3 m4 => ?_
    -- what is kept
    have kx : ∀ (h' : Heap), (hideAll s₁.heap as).StaysIn h' → ∀ b o, b ∉ X.fr → h₁.get? b = some o → h'.get? b = some o := fun h' hs b o hb ho => by
      refine hs b o (hideAll_get _ (hk₁ b o ho) fun hm => ?_)
      rcases List.mem_cons.mp hm with rfl | hm
      · rw [he] at ho; cases ho
      · exact hb (frIn b hm)
    have kd : ∀ b o es n, h₁.get? b = some o → o.data = .dict es n → ∃ sl, h₃.get? b = some { o with slots := sl } := fun b o es n ho hd => by
      obtain ⟨sl, h2⟩ := n4 b o (hk₁ b o ho) fun vs q => by rw [hd] at q; cases q
      exact ⟨sl, m4 b _ h2 fun vs q => by rw [show ({ o with slots := sl } : Obj).data = o.data from rfl, hd] at q; cases q⟩
    have k3 : ∀ b o, h₁.get? b = some o → ∃ o', h₃.get? b = some o' ∧ Kp o o' := fun b o ho => by
      by_cases hb : b ∈ X.fr
      · obtain ⟨⟨o', es, n, ho', hd⟩, _⟩ := f₁.st.frs b hb
        have e2 : some o' = some o := ho'.symm.trans ho
        cases e2
        obtain ⟨sl, h3⟩ := kd b o es n ho hd
        exact ⟨_, h3, .inr ⟨⟨es, n, hd⟩, sl, rfl⟩⟩
      · exact ⟨o, kx h₃ m1 b o hb ho, .refl o⟩
    have t3 : Trans X F' σ' { s₁ with heap := h₁ } F' σ' { s₁ with heap := h₃ } := Trans.kp' (t := s₁.toks) f₁.st k3 (kx h₃ m1)
    have f3 := f₁.step t3
    have htr3 := m3
    obtain ⟨ob, hob, hobc⟩ := m3.at.there
    refine wpAny_handleBy_builtin (X := T) (T := T) (b := true) hexc hnt hsub ?_
    refine Name_function_global f3.ev.kind hk (hg _ env _ _ _ f3.ev.glob f3.ev.bt f3.st.h₀ ⟨rfl, ⟨ob, hob, hobc.trans hcls⟩, ?_⟩) hd
    rw [if_pos rfl]
    refine wpAny_setFlight_noneW (s := { s₁ with heap := h₃ }) m1 m2 m3.at fun h₄ q1 q2 q3 q4 => ?_
    have k4 : ∀ b o, h₁.get? b = some o → ∃ o', h₄.get? b = some o' ∧ Kp o o' := fun b o ho => by
      by_cases hb : b ∈ X.fr
      · obtain ⟨⟨o', es, n, ho', hd⟩, _⟩ := f₁.st.frs b hb
        have e2 : some o' = some o := ho'.symm.trans ho
        cases e2
        obtain ⟨sl, h3⟩ := kd b o es n ho hd
        exact ⟨_, q4 b _ h3 (fun vs q => by rw [show ({ o with slots := sl } : Obj).data = o.data from rfl, hd] at q; cases q), .inr ⟨⟨es, n, hd⟩, sl, rfl⟩⟩
      · exact ⟨o, kx h₄ q1 b o hb ho, .refl o⟩
    have t4 : Trans X F' σ' { s₁ with heap := h₁ } F' σ' { s₁ with heap := h₄ } := Trans.kp' (t := s₁.toks) f₁.st k4 (kx h₄ q1)
    exact noE_any (hws B F' _ (f₁.step t4))
end
end Mine
end
section
open PySem PySem.W PyProof.Rows PySem.Calls
set_option Elab.async false
set_option maxRecDepth 100000
set_option linter.unusedVariables false
set_option linter.unusedSimpArgs false
namespace Mine
theorem sl_li_ga : Slot "list_iterator" "__getattribute__" "object.__getattribute__" :=
  .of (owner := "object") (n := "__getattribute__") (by rw [typeLookup_type, builtinLookup_eq_fast]; kernel_rfl) (by decide +kernel) (by decide +kernel) (by decide +kernel)
    (by first | exact .inl (by decide +kernel) | exact .inr (by decide +kernel)) (by rw [isSubtype_type]; kernel_rfl)
theorem ty_li_next : typeOf (.builtin "list_iterator.__next__") = pure (.type "wrapper_descriptor") := by kernel_rfl
theorem sl_wd_get : Slot "wrapper_descriptor" "__get__" "wrapper_descriptor.__get__" :=
  .of (owner := "wrapper_descriptor") (n := "__get__") (by rw [typeLookup_type, builtinLookup_eq_fast]; kernel_rfl) (by decide +kernel) (by decide +kernel) (by decide +kernel)
    (by first | exact .inl (by decide +kernel) | exact .inr (by decide +kernel)) (by rw [isSubtype_type]; kernel_rfl)
theorem en_wd_get : entryFor table "wrapper_descriptor.__get__" = some Builtin.«wrapper_descriptor.__get__» := entryFor_of_tree (by kernel_rfl)
theorem ar_wd_get (a b c : Value) : argsOk "wrapper_descriptor.__get__" ⟨[a, b, c], []⟩ := by unfold argsOk; kernel_rfl
theorem lk_wd_set : typeLookup (.type "wrapper_descriptor") "__set__" = pure none := by rw [typeLookup_type, builtinLookup_eq_fast]; kernel_rfl
theorem lk_wd_del : typeLookup (.type "wrapper_descriptor") "__delete__" = pure none := by rw [typeLookup_type, builtinLookup_eq_fast]; kernel_rfl
theorem sub_li : isSubtype (.type "list_iterator") (.type "list_iterator") = pure true := by rw [isSubtype_type]; kernel_rfl
theorem ow_li : (".".intercalate ("list_iterator.__next__".cutAt '.').dropLast) = "list_iterator" := by
  have e0 : "list_iterator.__next__".cutAt '.' = ["list_iterator", "__next__"] := by first | rfl | decide +kernel
  rw [e0]; decide +kernel
def wrapObj (I : Addr) : Obj := { cls := .type "method-wrapper", data := .fields #[.builtin "list_iterator.__next__", .ref I] }
section
variable {prog : Program} {w : World} {A : Around} {E : Value → Shared → Prop} {h : Heap} {g : Array GenState} {d : Drawn} {t : Nat} {os : OsState} {I : Addr} {o : Obj}
theorem nx_get {R : Result → Shared → Prop} (hx : h.get? I = some o) (hc : o.cls = .type "list_iterator") (hq : R (.ok (.ret (.ref h.objs.size))) ⟨h.push (wrapObj I), g, d, t, os⟩) :
    codeAny (model prog w) A (.call (.builtin "wrapper_descriptor.__get__") ⟨[.builtin "list_iterator.__next__", .ref I, .type "list_iterator"], []⟩) R ⟨h, g, d, t, os⟩ := by
  have hT : (⟨h, g, d, t, os⟩ : Shared).TypeIs (.ref I) "list_iterator" := ⟨_, hx, hc⟩
  have hT5 : (⟨h, g, d, t, os⟩ : Shared).TypeIs (.builtin "list_iterator.__next__") "wrapper_descriptor" := ty_li_next
  have f8 : isSubtype (.type "list_iterator") (.type (".".intercalate ("list_iterator.__next__".cutAt '.').dropLast)) = pure true := by rw [ow_li]; exact sub_li
  refine codeAny_call_builtin sl_wd_get.plain en_wd_get (sl_wd_get.check _ _ _ _ _ _ _ _ hT5 (ar_wd_get _ _ _) ?_)
  repeat (any_goals (first | assumption | wp_step))
theorem nx_entry {tk : Tok} {vs : Array Value} {Q : Fin → Shared → Prop} (hx : h.get? I = some { cls := .type "list_iterator", data := .fields vs }) (hq : Q (.done (.ret (.ref h.objs.size))) ⟨h.push (wrapObj I), g, d, t, os⟩) :
    wpAny (model prog w) A (Builtin.«object.__getattribute__» ⟨[.ref I, .str "__next__" tk], []⟩) Q E ⟨h, g, d, t, os⟩ := by
  have hT : (⟨h, g, d, t, os⟩ : Shared).TypeIs (.ref I) "list_iterator" := ⟨_, hx, rfl⟩
  have hT5 : (⟨h, g, d, t, os⟩ : Shared).TypeIs (.builtin "list_iterator.__next__") "wrapper_descriptor" := ty_li_next
  have f4 := slot_listiter_next.lookup
  have f5 := ty_li_next
  have f6 := sl_wd_get.lookup
  have f7 := lk_wd_set
  have f8 := lk_wd_del
  repeat (any_goals (first | assumption | wp_step))
  exact nx_get hx rfl (wpAny_pure hq)
theorem nx_call {tk : Tok} {vs : Array Value} {R : Result → Shared → Prop} (hx : h.get? I = some { cls := .type "list_iterator", data := .fields vs }) (hq : R (.ok (.ret (.ref h.objs.size))) ⟨h.push (wrapObj I), g, d, t, os⟩) :
    codeAny (model prog w) A (.call (.builtin "object.__getattribute__") ⟨[.ref I, .str "__next__" tk], []⟩) R ⟨h, g, d, t, os⟩ :=
  codeAny_call_builtin sl_li_ga.plain PySem.F.entry_object_getattribute (sl_li_ga.check _ _ _ _ _ _ _ _ (show (⟨h, g, d, t, os⟩ : Shared).TypeIs (.ref I) "list_iterator" from ⟨_, hx, rfl⟩) (PySem.F.args_object_getattribute_2 _ _) (nx_entry hx hq))
theorem nx_by {tk : Tok} {vs : Array Value} {fill expr : Bool} {Q : Value → Shared → Prop} (hx : h.get? I = some { cls := .type "list_iterator", data := .fields vs }) (hq : Q (.ref h.objs.size) ⟨h.push (wrapObj I), g, d, t, os⟩) :
    wpAny (model prog w) A (getAttrBy (.ref I) (.str "__next__" tk) fill expr) Q E ⟨h, g, d, t, os⟩ := by
  have hT : (⟨h, g, d, t, os⟩ : Shared).TypeIs (.ref I) "list_iterator" := ⟨_, hx, rfl⟩
  have f2 := sl_li_ga.lookup
  have f3 := sl_li_ga.bind (.ref I)
  have hx0 : (expr && onTheHeap (Value.builtin "object.__getattribute__")) = false := by cases expr <;> rfl
  repeat (any_goals (first | assumption | wp_step))
  refine nx_call hx ?_
  show wpAny _ _ (handedOut (.ref h.objs.size)) _ _ _
  rw [handedOut_of rfl]
  exact wpAny_pure hq
end
section
variable {prog : Program} {w : World} {A : Around} {E : Value → Shared → Prop} {s : Shared} {I : Addr}
theorem nx_attr {vs : Array Value} {expr : Bool} {Q : Value → Shared → Prop} (hx : s.heap.get? I = some { cls := .type "list_iterator", data := .fields vs }) (hq : Q (.ref s.heap.objs.size) { s with heap := s.heap.push (wrapObj I), toks := s.toks + 1 }) :
    wpAny (model prog w) A (getAttr (.ref I) "__next__" expr) Q E s := by
  unfold getAttr
  obtain ⟨h, g, d, t, os⟩ := s
  exact wpAny_bind (wpAny_mkText (nx_by hx hq))
theorem nx_check (I : Addr) : checkBoundCall "list_iterator.__next__" ⟨[.ref I], []⟩ = pure () := by
  first | rfl | kernel_rfl
theorem nx_run {R : Result → Shared → Prop} {W : Addr} (hw : s.heap.get? W = some (wrapObj I))
    (h : wpAny (model prog w) A.in1 (Builtin.«list_iterator.__next__» ⟨[.ref I], []⟩) (fun fin s' => match fin with | .done f => R (.ok f) s' | .again c' => c'.quiet = true ∧ codeAny (model prog w) A c' R s') (fun e s' => R (.error e) s') s) :
    codeAny (model prog w) A (.call (.ref W) ⟨[], []⟩) R s := by
  refine codeAny_of_tree ?_
  show wpAny _ _ (callAny (.ref W) ⟨[], []⟩) _ _ _
  unfold callAny
  refine wpAny_bind (wpAny_load hw ?_)
  show wpAny _ _ (checkBoundCall "list_iterator.__next__" ⟨[.ref I], []⟩ >>= fun _ => (again (.builtin "list_iterator.__next__" ⟨[.ref I], []⟩) >>= pure)) _ _ _
  rw [nx_check]
  refine wpAny_bind (wpAny_pure (wpAny_bind (wpAny_pure (wpAny_pure ⟨Code.quiet_builtin _ (by decide +kernel), codeAny_builtin entry_listiter_next ?_⟩))))
  exact h
end
end Mine
end
section
open PySem PySem.W PyProof.Rows PySem.Calls
set_option Elab.async false
set_option maxRecDepth 100000
set_option linter.unusedVariables false
set_option linter.unusedSimpArgs false
namespace Mine
def liObj (l : Addr) (i : Nat) : Obj := { cls := .type "list_iterator", data := .fields #[.ref l, .int i 0] }
def mliter (l : Addr) (i : Nat) : Desc := ⟨fun _ o => o = liObj l i, fun _ _ _ _ h => h⟩
def mwrap (I : Addr) : Desc := ⟨fun _ o => o = wrapObj I, fun _ _ _ _ h => h⟩
def many : Desc := ⟨fun _ _ => True, fun _ _ _ _ h => h⟩
theorem kd_iter : builtinKind "iter" = none := by decide +kernel
theorem pl_iter : plainId "iter" = true := by decide +kernel
theorem en_iter : entryFor table "iter" = some Builtin.«iter» := entryFor_of_tree (by kernel_rfl)
theorem ar_iter (a : Value) : argsOk "iter" ⟨[a], []⟩ := by unfold argsOk; kernel_rfl
section
variable {X : Cx} {A : Around} {B : Base} {env : Env} {φ : MEnv} {σ σ' : MHeap} {F : Fz} {s : Shared} {Q : MV → MHeap → Prop}
theorem B_iterM {a : Addr} {xs : List MV} (ha : σ a = some (mlist xs)) (h : ∀ I, σ I = none → Q (.ref I) (σ.put I (mliter a 0))) : WCv X A (.builtin "iter") [.ref a] σ Q := by
  rintro F s vs st hv
  simp only [MV.ref, VHs, VH] at hv
  obtain ⟨_, _, rfl, rfl, rfl⟩ := hv
  obtain ⟨items, n, ho, hx⟩ := st.mlistAt ha
  refine call_function_entry kd_iter pl_iter en_iter (ar_iter _) ?_
  show wpAny _ _ (pyIter (.ref a) >>= fun v => ret v) _ _ _
  refine wpAny_bind (wpAny_pyIter_list (l := a) (items := items) ⟨_, ho, rfl, n, rfl⟩ (wpAny_pure ⟨_, rfl, ?_⟩))
  have tr := Trans.allocM (d := mliter a 0) (o := liObj a 0) (t := s.toks) st rfl rfl
  exact ⟨F, _, .ref s.heap.objs.size, tr, by simp only [MV.ref, VH], h _ st.freshSize.2⟩
theorem V_nextAttr {I l : Addr} {i : Nat} {b : Bool} (hI : σ I = some (mliter l i)) (h : ∀ W, σ W = none → Q (.ref W) (σ.put W (mwrap I))) : WV1 X A (fun v => getAttr v "__next__" b) (.ref I) σ Q := by
  rintro F s v st hv
  simp only [MV.ref, VH] at hv; subst hv
  obtain ⟨o, ho, rfl⟩ := st.own I _ hI
  refine nx_attr ho ?_
  have tr := Trans.allocM (d := mwrap I) (o := wrapObj I) (t := s.toks + 1) st rfl rfl
  exact ⟨F, _, .ref s.heap.objs.size, tr, by simp only [MV.ref, VH], h _ st.freshSize.2⟩
theorem V_itemLast {value slice : Expr} {a : Addr} {pre : List MV} {x : MV} (ha : σ a = some (mlist (pre ++ [x]))) (hlen : pre.length ≤ 100000) (h : Q x σ) (hs : plainSub slice := by intro _ _; with_unfolding_all rfl) :
    WV2 X A (subscriptTail value slice) (.ref a) (.int (-1)) σ Q := by
  rintro F s v u st hv hu
  simp only [MV.ref, VH] at hv hu; obtain ⟨t, rfl⟩ := hu; subst hv
  obtain ⟨items, n, ho, hx⟩ := st.mlistAt ha
  have hsz : items.size = pre.length + 1 := by have := hx.length; simpa using this
  have hl : s.heap.IsList a items := ⟨_, ho, rfl, n, rfl⟩
  have hget : (pre ++ [x])[pre.length]? = some x := by simp
  obtain ⟨w, hw, hvw⟩ := hx.get hget
  refine tail_any hl.typeIs slot_list_getitem.lookup (wpAny_getItem_list_neg hl (by omega) (by omega) (by omega) (x := w) ?_ (.now st hvw h)) (hs _ _)
  have e : ((-1 : Int) + (items.size : Int)).toNat = pre.length := by omega
  rw [e]; exact getElem?_toList ▸ hw
end
section
variable {prog : Program} {w : World} {A : Around} {E : Value → Shared → Prop} {s : Shared} {I l : Addr} {i : Nat} {items : Array Value}
theorem nx_item {x : Value} {P : Fin → Shared → Prop} (hit : s.heap.IsListIter I l i) (hl : s.heap.IsList l items) (hx : items[i]? = some x)
    (hQ : P (.done (.ret x)) { s with heap := s.heap.update I (Obj.mapFields (·.setIfInBounds 1 (rawInt ((i : Int) + 1)))) }) : wpAny (model prog w) A (Builtin.«list_iterator.__next__» ⟨[.ref I], []⟩) P E s := by
  obtain ⟨o, ho, hc, hd⟩ := id hit
  obtain ⟨ol, hol, _, nl, hdl⟩ := hl
  show wpAny _ _ (field (.ref I) 0 >>= _) _ _ s
  refine wpAny_bind (wpAny_field ho hd (x := .ref l) rfl ?_)
  show wpAny _ _ (if (Value.ref l == Value.none) = true then _ else _) _ _ s
  rw [if_neg (show ¬ ((Value.ref l == Value.none) = true) from Bool.false_ne_true)]
  show wpAny _ _ (field (.ref I) 1 >>= _) _ _ s
  refine wpAny_bind (wpAny_field ho hd (x := .int i 0) rfl ?_)
  show wpAny _ _ (seqItems? (.ref l) >>= _) _ _ s
  refine wpAny_bind (wpAny_seqItems hol hdl ?_)
  simp only [Int.toNat_natCast, hx]
  exact wpAny_bind (wpAny_setField ho hd (by simp) (wpAny_pure hQ))
theorem nx_end {P : Fin → Shared → Prop} (hh : A.handled = none) (hit : s.heap.IsListIter I l i) (hl : s.heap.IsList l items) (hx : items[i]? = none)
    (hE : ∀ h', h' = s.heap.update I (Obj.mapFields (·.setIfInBounds 0 .none)) → ∀ t e : Obj, ExcAt ((h'.push t).push e) (h'.objs.size + 1) "StopIteration" → E (.ref (h'.objs.size + 1)) { s with heap := (h'.push t).push e }) : wpAny (model prog w) A (Builtin.«list_iterator.__next__» ⟨[.ref I], []⟩) P E s := by
  obtain ⟨o, ho, hc, hd⟩ := id hit
  obtain ⟨ol, hol, _, nl, hdl⟩ := hl
  show wpAny _ _ (field (.ref I) 0 >>= _) _ _ s
  refine wpAny_bind (wpAny_field ho hd (x := .ref l) rfl ?_)
  show wpAny _ _ (if (Value.ref l == Value.none) = true then _ else _) _ _ s
  rw [if_neg (show ¬ ((Value.ref l == Value.none) = true) from Bool.false_ne_true)]
  show wpAny _ _ (field (.ref I) 1 >>= _) _ _ s
  refine wpAny_bind (wpAny_field ho hd (x := .int i 0) rfl ?_)
  show wpAny _ _ (seqItems? (.ref l) >>= _) _ _ s
  refine wpAny_bind (wpAny_seqItems hol hdl ?_)
  simp only [Int.toNat_natCast, hx]
  refine wpAny_bind (wpAny_rule (wpAny_bind (wpAny_setField ho hd (by simp) ?_)))
  show wpAny _ _ (newExc (.type "StopIteration") [] >>= _) _ _ _
  refine wpAny_bind ?_
  simp only [newExc, newTuple]
  refine wpAny_bind (wpAny_newObj_type ?_ (by size_fits))
  refine wpAny_bind (m := firstArgMember _ _) (wpAny_of_eq (a := Value.none) (by first | rfl | (simp only [firstArgMember]; rfl)) ?_)
  refine wpAny_newObj_type ?_ (by size_fits)
  simp only [raiseNew]
  refine wpAny_bind (wpAny_handled ?_)
  first | rw [show A.in1.handled = none from hh] | rw [hh]
  refine wpAny_bind (wpAny_pure (wpAny_throw ?_))
  have e1 : ∀ (h : Heap) (t : Obj), (h.push t).objs.size = h.objs.size + 1 := fun h t => Heap.size_push ..
  rw [e1]
  have := fun (h : Heap) (t e : Obj) (he : e.isFreed = false) => Heap.get?_push_size (h := h.push t) (o := e) he
  simp only [e1] at this
  refine hE _ rfl _ _ ?_
  refine ⟨_, _, .ref (s.heap.update I (Obj.mapFields fun x => x.setIfInBounds 0 Value.none)).objs.size, this _ _ _ rfl, rfl, rfl, ?_, ?_⟩
  · rw [Array.getElem?_append_left (by simp)]; rfl
  · rw [Array.getElem?_append_left (by simp)]; rfl
end
end Mine
end
section
open PySem PySem.W PyProof.Rows PySem.Calls
set_option Elab.async false
set_option maxRecDepth 100000
set_option linter.unusedVariables false
set_option linter.unusedSimpArgs false
namespace Mine
section
variable {X : Cx} {A : Around} {B : Base} {env : Env} {φ : MEnv} {σ σ' : MHeap} {F : Fz} {s : Shared} {Q : MF → MEnv → MHeap → Prop}
theorem keeps_W {M : Model} {W I : Addr} (h : Heap) (hw : h.get? W = some (wrapObj I)) : ∃ k, (k = Keeper.frame ∨ k = Keeper.machine ∨ k = Keeper.boundFrame) ∧ Looks M h (keeperOf (.ref W)) k := by
  refine ⟨.machine, .inr (.inl rfl), (Looks.ld (part := none) hw).andThen ?_⟩
  simp only [wrapObj, show (Value.type "method-wrapper" != Value.type "method") = true by decide, show (Value.type "method-wrapper" == Value.type "builtin_function_or_method" || Value.type "method-wrapper" == Value.type "method-wrapper") = true by decide, if_true]
  exact .now
theorem gl_stop (hX : X.Ok) : GlobIs X "StopIteration" (.type "StopIteration") := globB hX (by kernel_rfl) (by kernel_rfl) (by decide)
theorem exc_stop : isSubtype (.type "StopIteration") (.type "BaseException") = pure true := by rw [isSubtype_type]; kernel_rfl
theorem nt_stop : isSubtype (.type ((Manifest.find? "StopIteration").elim "type" fun y => y.metatype)) (.type "tuple") = pure false := by
  have e : ((Manifest.find? "StopIteration").elim "type" fun y => y.metatype) = "type" := by decide +kernel
  rw [e, isSubtype_type]; kernel_rfl
theorem sub_stop : isSubtype (.type "StopIteration") (.type "StopIteration") = pure true := by rw [isSubtype_type]; kernel_rfl
theorem WS1_nextTry (hX : X.Ok) (hh : A.handled = none) (hfr : FramesOk X A env) {x itn : Str} {p1 p2 p3 p4 p5 p6 p7 p8 np hpos pos : Pos} {kk : Nat} {b₀ : Stmt} {suite : List Stmt} {ai W I l : Addr} {i : Nat} {pre xs : List MV}
    (hφ : φ.lookup itn = some (.ref ai)) (hai : σ ai = some (mlist (pre ++ [.ref W]))) (hlen : pre.length ≤ 100000) (hW : σ W = some (mwrap I)) (hI : σ I = some (mliter l i)) (hl : σ l = some (mlist xs))
    (hitem : ∀ mv, xs[i]? = some mv → Q .brk ((x, mv) :: φ) (σ.put I (mliter l (i + 1))))
    (hend : xs[i]? = none → ∀ e, WS X (A.mark (some (.ref e))) env (b₀ :: suite) φ (σ.put I many) Q)
    (hx : storable env x = true := by rfl) (hk : env.kindOf "StopIteration" = some .globalImplicit := by rfl) (hdb : (itn == ("__debug__" : Str)) = false := by decide) :
    WS1 X A env (.Try [.Assign [.Name x p1] (.Call (.Subscript (.Name itn p2) (.UnaryOp .USub (.Constant (.int 1) kk p3) p4) p5) [] [] p6) p7, .Break p8] [.ExceptHandler (some (.Name "StopIteration" np)) none (b₀ :: suite) hpos] [] [] pos) φ σ Q := by
  refine WS1_try hfr (gl_stop hX) exc_stop nt_stop sub_stop ?_ hk
  intro B F s f
  refine wpAny_execs_cons (wpAny_Assign_Name ?_ rfl)
  show wpAny _ A (eval (.Subscript (.Name itn p2) (.UnaryOp .USub (.Constant (.int 1) kk p3) p4) p5) env >>= fun g => callWith p6 g [] (backTo p6 (starEach [] env)) (backToKw p6 (keywordEach [] env))) _ _ s
  have hf : WE X A env (.Subscript (.Name itn p2) (.UnaryOp .USub (.Constant (.int 1) kk p3) p4) p5) φ σ (fun v σ₁ => v = .ref W ∧ σ₁ = σ) :=
    WE_item (WE_name hφ (EV.go (EV_neg EV_int) (V_itemLast hai hlen ⟨rfl, rfl⟩)) hdb)
  refine wpAny_bind (noE_any (wpAny_mono (hf F s f.st f.ev) ?_ fun _ _ x => x))
  rintro v s₁ ⟨F₁, σ₁, mv, t₁, hv, rfl, rfl⟩
  simp only [MV.ref, VH] at hv; subst hv
  have f₁ := f.step t₁
  obtain ⟨oW, hoW, rfl⟩ := t₁.st.own W _ hW
  obtain ⟨oI, hoI, rfl⟩ := t₁.st.own I _ hI
  obtain ⟨items, n, hol, hxs⟩ := t₁.st.mlistAt hl
  have hitr : s₁.heap.IsListIter I l i := ⟨_, hoI, rfl, rfl⟩
  have hls : s₁.heap.IsList l items := ⟨_, hol, rfl, n, rfl⟩
  have hsz : items.size = xs.length := by have := hxs.length; simpa using this
  refine callWith_of (P := fun h => h.get? W = some (wrapObj I)) rfl (fun h hp => keeps_W h hp) (evalArgs_nil3 ⟨hoW, ?_⟩)
  refine wpAny_call (nx_run hoW ?_)
  cases hxi : xs[i]? with
  | some mv =>
    obtain ⟨u, hu, hvu⟩ := hxs.get hxi
    refine nx_item hitr hls (x := u) (getElem?_toList ▸ hu) ?_
    have hup := Heap.get?_update_self (h := s₁.heap) (Obj.mapFields (·.setIfInBounds 1 (rawInt ((i : Int) + 1)))) hoI rfl
    have tr := Trans.mut (d' := mliter l (i + 1)) (t := s₁.toks) t₁.st hI (Heap.SameBut.update ..).extBut hup rfl
    refine noE_any (wpAny_mono (Fm.store (f₁.step tr) hvu hx) ?_ fun _ _ x => x)
    intro _ s₂ f₂
    refine wpAny_execs_cons (wpAny_Break ?_)
    exact ⟨(by intro q; cases q), F₁, _, _, .brk, f₂, rfl, hitem mv hxi⟩
  | none =>
    have hin : items[i]? = none := by
      rw [Array.getElem?_eq_none_iff, hsz]; simpa using hxi
    refine nx_end hh hitr hls hin fun h' hh' t e hexc => ?_
    have hup := Heap.get?_update_self (h := s₁.heap) (Obj.mapFields (·.setIfInBounds 0 Value.none)) hoI rfl
    have tr := Trans.mut (d' := many) (t := s₁.toks) (h' := h') t₁.st hI (by rw [hh']; exact (Heap.SameBut.update ..).extBut) (by rw [hh']; exact hup) trivial
    refine ⟨_, h', F₁, _, φ, rfl, f₁.step tr, get?_ge (Nat.le_succ _), fun b o ho => Heap.get?_push_of_some _ (Heap.get?_push_of_some _ ho), hexc, hend hxi _⟩
end
end Mine
end
section
open PySem PySem.W PyProof.Rows PySem.Calls
set_option Elab.async false
set_option maxRecDepth 100000
set_option linter.unusedVariables false
set_option linter.unusedSimpArgs false
namespace Mine
/-- a set of ints -/
def mset (X : Cx) (ns : List Int) : Desc := ⟨fun _ o => ∃ n, o.SetObjOf (intKind X.prog X.w) (fun k => decide (k ∈ ns)) n ∧ n ≤ ns.length, fun _ _ _ _ h => h⟩
def mview (d : Addr) : Desc := ⟨fun _ o => o = { cls := .type "dict_values", data := .fields #[.ref d] }, fun _ _ _ _ h => h⟩
theorem KVs.get {F : Fz} : ∀ {ms : List (Int × MV)} {vs : List (Int × Value)}, KVs F ms vs → ∀ {i : Nat} {k : Int} {m : MV}, ms[i]? = some (k, m) → ∃ v, vs[i]? = some (k, v) ∧ VH F m v
  | _, _, .nil, i, k, m, h => by simp at h
  | _, _, .cons (k := j) a b, 0, k, m, h => by simp at h; obtain ⟨rfl, rfl⟩ := h; exact ⟨_, rfl, a⟩
  | _, _, .cons a b, i + 1, k, m, h => by
    obtain ⟨v, h1, h2⟩ := b.get (i := i) (by simpa using h); exact ⟨v, by simpa using h1, h2⟩
theorem KVs.without {F : Fz} {k : Int} : ∀ {ms : List (Int × MV)} {vs : List (Int × Value)}, KVs F ms vs → KVs F (ms.filter fun kv => decide (kv.1 ≠ k)) (without vs k)
  | _, _, .nil => .nil
  | _, _, .cons (k := j) a b => by
    unfold PySem.without
    by_cases e : j = k
    · rw [List.filter_cons_of_neg (by simp [e]), List.filter_cons_of_neg (by simp [e])]; exact b.without
    · rw [List.filter_cons_of_pos (by simp [e]), List.filter_cons_of_pos (by simp [e])]; exact .cons a b.without
section
variable {X : Cx} {A : Around} {B : Base} {env : Env} {φ : MEnv} {σ σ' : MHeap} {F : Fz} {s : Shared} {Q : MV → MHeap → Prop}
theorem T_set0 (h : ∀ a, σ a = none → Q (.ref a) (σ.put a (mset X []))) : WCv X A (.type "set") [] σ Q := by
  rintro F s vs st hv
  simp only [VHs] at hv; subst hv
  refine call_set_0 fun led => ?_
  have tr := Trans.allocM (d := mset X []) (o := { cls := .type "set", dict := none, data := .set #[] 0 (.fresh 0 0 led) }) (t := s.toks) st rfl ⟨0, by have := setObjOf_fresh (knd := intKind X.prog X.w) led; simpa using this, Nat.le_refl _⟩
  exact ⟨F, _, .ref s.heap.objs.size, tr, by simp only [MV.ref, VH], h _ st.freshSize.2⟩
theorem St.setAt {a : Addr} {ns : List Int} (st : St X F σ s) (ha : σ a = some (mset X ns)) (hlen : ns.length < 4000) : ∃ n, s.heap.SetOf (intKind X.prog X.w) a (fun k => decide (k ∈ ns)) n ∧ n ≤ ns.length := by
  obtain ⟨o, ho, n, hs, hn⟩ := st.own a _ ha
  exact ⟨n, hs.setOf ho (by unfold scanBound; omega), hn⟩
theorem V_inSet {a : Addr} {ns : List Int} {k : Int} (ha : σ a = some (mset X ns)) (hlen : ns.length < 4000) (h : Q (.bool (decide (k ∈ ns))) σ) : WV2 X A (compareOp .In) (.int k) (.ref a) σ Q := by
  rintro F s v u st hv hu; simp only [MV.ref, VH] at hv hu; obtain ⟨t, rfl⟩ := hv; subst hu
  obtain ⟨n, hS, hn⟩ := st.setAt ha hlen
  exact wpAny_inSet_of (isInt_is k t) rfl hS (.tk st (by simp only [VH]) h)
theorem B_setAdd {a : Addr} {ns : List Int} {k : Int} (ha : σ a = some (mset X ns)) (hlen : ns.length < 3000) (h : Q .none (σ.put a (mset X (k :: ns)))) : WCv X A (.builtin "set.add") [.ref a, .int k] σ Q := by
  rintro F s vs st hv
  simp only [MV.ref, VHs, VH] at hv
  obtain ⟨_, _, rfl, rfl, _, _, rfl, ⟨t, rfl⟩, rfl⟩ := hv
  obtain ⟨n, hS, hn⟩ := st.setAt ha (by omega)
  refine call_set_add (isInt_is k t) rfl hS (by unfold scanBound; omega) fun h' hsb hS' => ?_
  obtain ⟨o', ho', hs'⟩ := hS'.objOf
  have e : (fun k' => decide (k' ∈ ns) || decide (k' = k)) = fun k' => decide (k' ∈ k :: ns) := by
    funext k'
    simp only [List.mem_cons]
    by_cases h1 : k' ∈ ns <;> by_cases h2 : k' = k <;> simp [h1, h2]
  rw [e] at hs'
  have tr := Trans.mut (d' := mset X (k :: ns)) (t := s.toks + 1) st ha hsb.extBut ho' ⟨_, hs', by split <;> simp <;> omega⟩
  exact ⟨F, _, .none, tr, by simp only [VH], h⟩
theorem mset_type {a : Addr} {ns : List Int} (hlen : ns.length < 4000) (ha : σ a = some (mset X ns)) : ∀ F s v, St X F σ s → VH F (.ref a) v → s.TypeIs v "set" ∧ ∀ b, v = .ref b → ∃ o, s.heap.get? b = some o ∧ o.dict = none := by
  intro F s v st hv
  simp only [MV.ref, VH] at hv; subst hv
  obtain ⟨n, hS, _⟩ := st.setAt ha hlen
  exact ⟨hS.typeIs, hS.noDict⟩
theorem V_inDict {d : Addr} {pn : Option Nat} {kvs : List (Int × MV)} {k : Int} (hd : σ d = some (mdict X pn kvs)) (lo : (d == sysModules) = false) (h : Q (.bool (dlook kvs k).isSome) σ) : WV2 X A (compareOp .In) (.int k) (.ref d) σ Q := by
  rintro F s v u st hv hu; simp only [MV.ref, VH] at hv hu; obtain ⟨t, rfl⟩ := hv; subst hu
  obtain ⟨vs, hD, hk⟩ := st.dictAt hd
  refine wpAny_in_of (isInt_is k t) lo hD.mapOf ?_
  have e : (valueAt vs k).isSome = (dlook kvs k).isSome := by
    cases q : dlook kvs k with
    | none => rw [(hk.look k).2 q]; rfl
    | some m => obtain ⟨w, hw, _⟩ := (hk.look k).1 m q; rw [hw]; rfl
  rw [e]
  exact .tk st (by simp only [VH]) h
theorem Tr_mlist {a : Addr} {xs : List MV} {Q : Bool → MHeap → Prop} (ha : σ a = some (mlist xs)) (hlen : xs.length ≤ 100000) (h : Q (!xs.isEmpty) σ) : WTr X A (.ref a) σ Q := by
  rintro F s v st hv; simp only [MV.ref, VH] at hv; subst hv
  obtain ⟨items, n, ho, hx⟩ := st.mlistAt ha
  have e : items.size = xs.length := by have := hx.length; simpa using this
  refine wpAny_truthy_list (items := items) ⟨_, ho, rfl, n, rfl⟩ (by omega) ?_
  have e2 : (!items.isEmpty) = !xs.isEmpty := by
    cases xs with
    | nil => simp at e; simp [e]
    | cons y ys =>
      have : items ≠ #[] := by rintro rfl; simp at e
      simp [this]
  rw [e2]
  exact ⟨F, σ, .tok st _, h⟩
theorem B_popM {a : Addr} {pre : List MV} {x : MV} (ha : σ a = some (mlist (pre ++ [x]))) (hlen : pre.length ≤ 100000) (h : Q x (σ.put a (mlist pre))) : WCv X A (.builtin "list.pop") [.ref a] σ Q := by
  rintro F s vs st hv
  simp only [MV.ref, VHs, VH] at hv
  obtain ⟨_, _, rfl, rfl, rfl⟩ := hv
  obtain ⟨items, n, ho, hx⟩ := st.mlistAt ha
  have hsz : items.size = pre.length + 1 := by have := hx.length; simpa using this
  have hget : (pre ++ [x])[pre.length]? = some x := by simp
  obtain ⟨w, hw, hvw⟩ := hx.get hget
  have hw' : items[items.size - 1]? = some w := by rw [hsz]; exact getElem?_toList ▸ hw
  have hsl : items.size ≤ sizeLine := by
    have : (100001 : Nat) ≤ sizeLine := by decide
    omega
  refine call_meets PySem.F.slot_list_pop ⟨_, ho, rfl⟩ PySem.F.entry_list_pop (PySem.F.args_list_pop_1 _) (MeetsSeq.list_pop_last a items n w hw' hsl) ⟨ho, ?_⟩
  have hk : ∃ k, Obj.mapSeq (fun xs => xs.eraseIdxIfInBounds (items.size - 1)) (lobj items n) = lobj (items.eraseIdxIfInBounds (items.size - 1)) k := ⟨_, rfl⟩
  obtain ⟨k, hk⟩ := hk
  have hup := Heap.get?_update_self (h := s.heap) (Obj.mapSeq fun xs => xs.eraseIdxIfInBounds (items.size - 1)) ho (by rw [hk]; rfl)
  rw [hk] at hup
  have hv2 : VHs F pre (items.eraseIdxIfInBounds (items.size - 1)).toList := by
    have e1 : (items.eraseIdxIfInBounds (items.size - 1)).toList = items.toList.take pre.length := by
      rw [Array.eraseIdxIfInBounds_eq, dif_pos (by omega), Array.toList_eraseIdx, List.eraseIdx_eq_take_drop_succ]
      rw [show items.size - 1 + 1 = items.toList.length by simp; omega, List.drop_length, List.append_nil, hsz]; rfl
    rw [e1]
    have takeV : ∀ (pre : List MV) (vs : List Value), VHs F (pre ++ [x]) vs → VHs F pre (vs.take pre.length) := by
      intro pre
      induction pre with
      | nil => intro vs _; simp [VHs]
      | cons m pre ih =>
        intro vs hv
        simp only [List.cons_append, VHs] at hv
        obtain ⟨v, r, rfl, h1, h2⟩ := hv
        simp only [List.length_cons, List.take_succ_cons, VHs]
        exact ⟨v, _, rfl, h1, ih r h2⟩
    exact takeV pre _ hx
  have tr := Trans.mut (d' := mlist pre) (t := s.toks) st ha (Heap.SameBut.update (a := a) (h := s.heap) (f := Obj.mapSeq fun xs => xs.eraseIdxIfInBounds (items.size - 1))).extBut hup ⟨_, k, rfl, hv2⟩
  exact ⟨F, _, x, tr, hvw, h⟩
theorem B_lenM {a : Addr} {xs : List MV} (ha : σ a = some (mlist xs)) (hlen : xs.length ≤ 100000) (h : Q (.int xs.length) σ) : WCv X A (.builtin "len") [.ref a] σ Q := by
  rintro F s vs st hv
  simp only [MV.ref, VHs, VH] at hv
  obtain ⟨_, _, rfl, rfl, rfl⟩ := hv
  obtain ⟨items, n, ho, hx⟩ := st.mlistAt ha
  have e : items.size = xs.length := by have := hx.length; simpa using this
  refine call_len_list (items := items) ⟨_, ho, rfl, n, rfl⟩ (by omega) (.tk st ?_ h)
  simp only [VH]; exact ⟨_, by rw [e]⟩
end
end Mine
end
section
open PySem PySem.W PyProof.Rows PySem.Calls
set_option Elab.async false
set_option maxRecDepth 100000
set_option linter.unusedVariables false
set_option linter.unusedSimpArgs false
namespace Mine
section
variable {X : Cx} {A : Around} {B : Base} {env : Env} {φ : MEnv} {σ σ' : MHeap} {F : Fz} {s : Shared}
/-- d[k] = e -/
theorem WS1_assignD {Q : MF → MEnv → MHeap → Prop} {o i value : Expr} {tp pos : Pos}
    (h : WE X A env value φ σ (fun mv σ₁ => WE X A env o φ σ₁ (fun ov σ₂ => WE X A env i φ σ₂ (fun iv σ₃ => ∃ d kvs k, ov = .ref d ∧ iv = .int k ∧ σ₃ d = some (mdict X none kvs) ∧ kvs.length ≤ sizeLine ∧ Q .next φ (σ₃.put d (mdict X none (dput kvs k mv)))))))
    (hs : swapsWith value (some (.Subscript o i tp)) pos.line env = pure false := by rfl) :
    WS1 X A env (.Assign [.Subscript o i tp] value pos) φ σ Q := by
  intro B F s f
  refine wpAny_Assign_Subscript (wpAny_mono (h F s f.st f.ev) ?_ fun _ _ x => x) hs
  rintro v s₁ ⟨F₁, σ₁, mv, t₁, hv, h₁⟩
  refine wpAny_mono (h₁ F₁ s₁ t₁.st (f.ev.step t₁.toSince)) ?_ fun _ _ x => x
  rintro ov s₂ ⟨F₂, σ₂, mo, t₂, hov, h₂⟩
  have T2 := t₁.trans t₂
  refine wpAny_mono (h₂ F₂ s₂ t₂.st (f.ev.step T2.toSince)) ?_ fun _ _ x => x
  rintro iv s₃ ⟨F₃, σ₃, mi, t₃, hiv, d, kvs, k, rfl, rfl, hd, hlen, hq⟩
  have hov := hov.mono t₃.mono
  simp only [MV.ref, VH] at hov hiv
  subst hov
  obtain ⟨t, rfl⟩ := hiv
  have hv := (hv.mono t₂.mono).mono t₃.mono
  obtain ⟨vs, hD, hk⟩ := t₃.st.dictAt hd
  refine wpAny_setItem_pairs (isInt_is k t) hD (fun h' hD' hs' => ?_) (by rw [hk.length]; exact hlen)
  obtain ⟨o', ho', hi'⟩ := Heap.dictOf_iff.mp hD'
  have tr := Trans.mut (d' := mdict X none (dput kvs k mv)) (t := s₃.toks + 1) t₃.st hd hs'.extBut ho' ⟨⟨_, hi', hk.put hv⟩, fun _ h => nomatch h⟩
  exact ⟨F₃, _, φ, .next, f.step ((T2.trans t₃).trans tr), rfl, hq⟩
def ddel (kvs : List (Int × MV)) (k : Int) : List (Int × MV) := kvs.filter fun kv => decide (kv.1 ≠ k)
/-- del d[e] -/
theorem WS1_delD {Q : MF → MEnv → MHeap → Prop} {o i : Expr} {tp pos : Pos}
    (h : WE X A env o φ σ (fun ov σ₂ => WE X A env i φ σ₂ (fun iv σ₃ => ∃ d kvs k, ov = .ref d ∧ iv = .int k ∧ σ₃ d = some (mdict X none kvs) ∧ kvs.length ≤ sizeLine ∧ (dlook kvs k).isSome = true ∧ Q .next φ (σ₃.put d (mdict X none (ddel kvs k)))))) :
    WS1 X A env (.Delete [.Subscript o i tp] pos) φ σ Q := by
  intro B F s f
  refine wpAny_Delete (wpAny_deleteEach_cons (delete_Subscript (wpAny_mono (h F s f.st f.ev) ?_ fun _ _ x => x)))
  rintro ov s₂ ⟨F₂, σ₂, mo, t₂, hov, h₂⟩
  refine wpAny_mono (h₂ F₂ s₂ t₂.st (f.ev.step t₂.toSince)) ?_ fun _ _ x => x
  rintro iv s₃ ⟨F₃, σ₃, mi, t₃, hiv, d, kvs, k, rfl, rfl, hd, hlen, hin, hq⟩
  have hov := hov.mono t₃.mono
  simp only [MV.ref, VH] at hov hiv
  subst hov
  obtain ⟨t, rfl⟩ := hiv
  obtain ⟨vs, hD, hk⟩ := t₃.st.dictAt hd
  have hin' : (valueAt vs k).isSome = true := by
    obtain ⟨m, hm⟩ := Option.isSome_iff_exists.mp hin
    obtain ⟨w, hw, _⟩ := (hk.look k).1 m hm
    rw [hw]; rfl
  unfold delItem
  try with_reducible refine wpAny_holding ?_
  refine wpAny_bind (wpAny_sequenceKey hD.typeIs (by decide) ?_)
  refine wpAny_bind (wpAny_callSpecial?_slot (name := Str.ofString "__delitem__") hD.typeIs PySem.F.slot_dict_delitem
    (call_meetsIn PySem.F.slot_dict_delitem hD.typeIs PySem.F.entry_dict_delitem (PySem.F.args_dict_delitem_2 _ _) (meets_dict_delitem_pairs (intKind X.prog X.w) d (isInt_is k t)) ⟨vs, hD, (by rw [hk.length]; exact hlen), hin', fun h' hmm hs => ?_⟩))
  obtain ⟨o', ho', hi'⟩ := Heap.dictOf_iff.mp hmm
  have tr := Trans.mut (d' := mdict X none (ddel kvs k)) (t := s₃.toks + 1) t₃.st hd hs.extBut ho' ⟨⟨_, hi', hk.without⟩, fun _ h => nomatch h⟩
  exact wpAny_pure (wpAny_deleteEach_nil ⟨F₃, _, φ, .next, f.step ((t₂.trans t₃).trans tr), rfl, hq⟩)
/-- the keys of a dict whose keys do not change -/
theorem iter_keys {d : Addr} {ep : Nat} {kvs : List (Int × MV)} (hA : A.handled = none) (lo : (d == sysModules) = false) (hd : σ d = some (mdict X (some ep) kvs)) :
    IterOf X A (.ref d) σ (fun σ' => σ' d = some (mdict X (some ep) kvs)) (kvs.map fun kv => .int kv.1) := by
  intro F s v st hv
  simp only [MV.ref, VH] at hv; subst hv
  obtain ⟨vs, hD, hk⟩ := st.dictAtE hd
  refine wpAny_pyIter_dict lo hD ⟨s.heap.objs.size, fun i h => h.IsKeyIter s.heap.objs.size d i kvs.length ep, _, rfl, rfl, fun b o e => Heap.get?_push_of_some _ e, get?_ge (Nat.le_refl _), ⟨_, Heap.get?_push_size _ rfl, rfl, by rw [hk.length]; rfl⟩, ?_⟩
  refine ⟨fun i h h' x k => let ⟨o, ho, r⟩ := x; ⟨o, k o ho, r⟩, fun i h x => let ⟨o, ho, _⟩ := x; ⟨o, ho⟩, fun i h o x ho es n hd => (by obtain ⟨o', ho', _, hd'⟩ := x; rw [ho] at ho'; cases ho'; rw [hd] at hd'; cases hd'), ?_, ?_, fun i s' Q x q => wpAny_pyIter_keyiter x q⟩
  · intro i F' σ' s' mv Q hi hle hok st' hit hq
    obtain ⟨vs', hD', hk'⟩ := st'.dictAtE hok
    rw [List.getElem?_map] at hi
    obtain ⟨⟨k, m⟩, hkm, rfl⟩ := Option.map_eq_some_iff.mp hi
    obtain ⟨v, hv, hvh⟩ := hk'.get hkm
    have hit' : s'.heap.IsKeyIter s.heap.objs.size d i vs'.length ep := by rw [hk'.length]; exact hit
    refine wpAny_pyNext_dict_item hit' hD' hv fun key h' hkey h1 h2 => hq key h' s'.toks ?_ (by rw [hk'.length] at h1; exact h1) h2
    simp only [VH]
    exact Value.isInt_shape hkey
  · intro F' σ' s' Q hle hok st' hit hq
    obtain ⟨vs', hD', hk'⟩ := st'.dictAtE hok
    rw [List.length_map] at hit
    have hit' : s'.heap.IsKeyIter s.heap.objs.size d kvs.length vs'.length ep := by rw [hk'.length]; exact hit
    exact wpAny_pyNext_dict_end hA hit' hD' (by rw [← hk'.length]; simp) fun h' h1 => hq h' s'.toks h1
theorem B_values {d : Addr} {ep : Nat} {kvs : List (Int × MV)} {Q : MV → MHeap → Prop} (lo : (d == sysModules) = false) (hd : σ d = some (mdict X (some ep) kvs)) (h : ∀ V, σ V = none → Q (.ref V) (σ.put V (mview d))) : WCv X A (.builtin "dict.values") [.ref d] σ Q := by
  rintro F s vs st hv
  simp only [MV.ref, VHs, VH] at hv
  obtain ⟨_, _, rfl, rfl, rfl⟩ := hv
  obtain ⟨vs, hD, hk⟩ := st.dictAt hd
  refine call_meetsIn PySem.F.slot_dict_values hD.typeIs PySem.F.entry_dict_values (PySem.F.args_dict_values_1 _) (meets_dict_values (intKind X.prog X.w) d lo) ⟨⟨_, hD⟩, ?_⟩
  have tr := Trans.allocM (d := mview d) (o := { cls := .type "dict_values", data := .fields #[.ref d] }) (t := s.toks) st rfl rfl
  exact ⟨F, _, .ref s.heap.objs.size, tr, by simp only [MV.ref, VH], h _ st.freshSize.2⟩
theorem iter_vals {V d : Addr} {ep : Nat} {kvs : List (Int × MV)} (hA : A.handled = none) (hV : σ V = some (mview d)) (hd : σ d = some (mdict X (some ep) kvs)) :
    IterOf X A (.ref V) σ (fun σ' => σ' d = some (mdict X (some ep) kvs)) (kvs.map fun kv => kv.2) := by
  intro F s v st hv
  simp only [MV.ref, VH] at hv; subst hv
  obtain ⟨vs, hD, hk⟩ := st.dictAtE hd
  obtain ⟨oV, hoV, rfl⟩ := st.own V _ hV
  refine wpAny_pyIter_values (v := V) (d := d) ⟨_, hoV, rfl, rfl⟩ hD ⟨s.heap.objs.size, fun i h => h.IsValIter s.heap.objs.size d i kvs.length ep, _, rfl, rfl, fun b o e => Heap.get?_push_of_some _ e, get?_ge (Nat.le_refl _), ⟨_, Heap.get?_push_size _ rfl, rfl, by rw [hk.length]; rfl⟩, ?_⟩
  refine ⟨fun i h h' x k => let ⟨o, ho, r⟩ := x; ⟨o, k o ho, r⟩, fun i h x => let ⟨o, ho, _⟩ := x; ⟨o, ho⟩, fun i h o x ho es n hd => (by obtain ⟨o', ho', _, hd'⟩ := x; rw [ho] at ho'; cases ho'; rw [hd] at hd'; cases hd'), ?_, ?_, fun i s' Q x q => wpAny_pyIter_valiter x q⟩
  · intro i F' σ' s' mv Q hi hle hok st' hit hq
    obtain ⟨vs', hD', hk'⟩ := st'.dictAtE hok
    rw [List.getElem?_map] at hi
    obtain ⟨⟨k, m⟩, hkm, rfl⟩ := Option.map_eq_some_iff.mp hi
    obtain ⟨v, hv, hvh⟩ := hk'.get hkm
    have hit' : s'.heap.IsValIter s.heap.objs.size d i vs'.length ep := by rw [hk'.length]; exact hit
    exact wpAny_pyNext_values_item hit' hD' hv fun h' h1 h2 => hq v h' s'.toks hvh (by rw [hk'.length] at h1; exact h1) h2
  · intro F' σ' s' Q hle hok st' hit hq
    obtain ⟨vs', hD', hk'⟩ := st'.dictAtE hok
    rw [List.length_map] at hit
    have hit' : s'.heap.IsValIter s.heap.objs.size d kvs.length vs'.length ep := by rw [hk'.length]; exact hit
    exact wpAny_pyNext_values_end hA hit' hD' (by rw [← hk'.length]; simp) fun h' h1 => hq h' s'.toks h1
theorem mdict_type {d : Addr} {pn : Option Nat} {kvs : List (Int × MV)} (hd : σ d = some (mdict X pn kvs)) : ∀ F s v, St X F σ s → VH F (.ref d) v → s.TypeIs v "dict" ∧ ∀ b, v = .ref b → ∃ o, s.heap.get? b = some o ∧ o.dict = none := by
  intro F s v st hv
  simp only [MV.ref, VH] at hv; subst hv
  obtain ⟨vs, hD, hk⟩ := st.dictAt hd
  exact ⟨hD.typeIs, hD.mapOf.noDict⟩
end
end Mine
end
section
open PySem PySem.W PyProof.Rows PySem.Calls
set_option Elab.async false
set_option maxRecDepth 100000
set_option linter.unusedVariables false
set_option linter.unusedSimpArgs false
namespace Mine
theorem dlook_out {kvs : List (Int × MV)} {k : Int} (h : k ∉ kvs.map (·.1)) : dlook kvs k = none := by
  unfold dlook
  rw [Option.map_eq_none_iff, List.find?_eq_none]
  intro x hx e
  exact h (List.mem_map.mpr ⟨x, hx, by simpa using e⟩)
theorem dlook_in {kvs : List (Int × MV)} {k : Int} (h : k ∈ kvs.map (·.1)) : (dlook kvs k).isSome = true := by
  unfold dlook
  rw [Option.isSome_map, List.find?_isSome]
  obtain ⟨x, hx, e⟩ := List.mem_map.mp h
  exact ⟨x, hx, by simpa using e⟩
theorem dput_new {kvs : List (Int × MV)} {k : Int} {m : MV} (h : k ∉ kvs.map (·.1)) : dput kvs k m = kvs ++ [(k, m)] := by
  unfold dput
  rw [if_neg]
  intro q
  obtain ⟨x, hx, e⟩ := List.any_eq_true.mp q
  exact h (List.mem_map.mpr ⟨x, hx, by simpa using e⟩)
theorem ddel_keys {kvs : List (Int × MV)} {k : Int} : (ddel kvs k).map (·.1) = (kvs.map (·.1)).filter fun j => decide (j ≠ k) := by
  unfold ddel
  rw [List.filter_map]; rfl
theorem filter_last {l : List Int} {k : Int} (h : k ∉ l) : (l ++ [k]).filter (fun j => decide (j ≠ k)) = l := by
  rw [List.filter_append, List.filter_eq_self.mpr (fun j hj => by have e : j ≠ k := fun e => h (e ▸ hj); simpa using e)]
  simp
structure Ent where
  k : Int
  w : Addr
  I : Addr
  i : Nat
def Ent.addrs (e : Ent) : List Addr := [e.w, e.I]
/-- what is left to do -/
def msU (S : SS) (seen : List Int) : Nat := ((S.order.filter fun k => decide (k ∉ seen)).map fun k => 2 + (S.succ k).length).sum
def msV (S : SS) (ents : List Ent) : Nat := (ents.map fun e => 1 + ((S.succ e.k).length - e.i)).sum
theorem ms_filter {f : Int → Nat} {seen : List Int} {k : Int} (hk : k ∉ seen) : ∀ (l : List Int), (((l.filter fun j => decide (j ∉ k :: seen)).map f).sum + if k ∈ l then f k else 0) ≤ ((l.filter fun j => decide (j ∉ seen)).map f).sum
  | [] => by simp
  | j :: l => by
    have ih := ms_filter (f := f) hk l
    by_cases e : j = k
    · subst e
      rw [List.filter_cons_of_neg (by simp), List.filter_cons_of_pos (by simpa using hk)]
      simp only [List.map_cons, List.sum_cons]
      have : (if j ∈ j :: l then f j else 0) = f j := by simp
      rw [this]
      split at ih <;> omega
    · have e2 : (if k ∈ j :: l then f k else 0) = if k ∈ l then f k else 0 := by
        have : (k ∈ j :: l) ↔ k ∈ l := by
          simp only [List.mem_cons]
          constructor
          · rintro (h | h)
            · exact absurd h.symm e
            · exact h
          · exact .inr
        simp only [this]
      rw [e2]
      by_cases hs : j ∈ seen
      · rw [List.filter_cons_of_neg (by simp [hs]), List.filter_cons_of_neg (by simp [hs])]; exact ih
      · rw [List.filter_cons_of_pos (by simp [hs, e]), List.filter_cons_of_pos (by simp [hs])]
        simp only [List.map_cons, List.sum_cons]; omega
theorem msU_push {S : SS} {seen : List Int} {k : Int} (hk : k ∉ seen) (ho : k ∈ S.order) : msU S (k :: seen) + (2 + (S.succ k).length) ≤ msU S seen := by
  have := ms_filter (f := fun k => 2 + (S.succ k).length) hk S.order
  rw [if_pos ho] at this
  exact this
theorem msV_push {S : SS} {ents : List Ent} {e : Ent} (h : e.i = 0) : msV S (ents ++ [e]) = msV S ents + 1 + (S.succ e.k).length := by
  unfold msV
  simp [h]; omega
theorem msV_last {S : SS} {pre : List Ent} {e : Ent} : msV S (pre ++ [e]) = msV S pre + (1 + ((S.succ e.k).length - e.i)) := by
  unfold msV
  simp
/-- the search's own things on the small heap -/
structure DF (X : Cx) (ad : Loc → Addr) (σ₀ : MHeap) (as ai an ak : Addr) (ents : List Ent) (seen : List Int) (σ : MHeap) : Prop where
  stack : σ as = some (mlist (ents.map fun e => .int e.k))
  its : σ ai = some (mlist (ents.map fun e => .ref e.w))
  seen : σ an = some (mset X seen)
  pos : ∃ kvs, σ ak = some (mdict X none kvs) ∧ kvs.map (·.1) = ents.map (·.k)
  ent : ∀ e ∈ ents, σ e.w = some (mwrap e.I) ∧ σ e.I = some (mliter (ad (.nl e.k)) e.i)
  nd : (as :: ai :: an :: ak :: ents.flatMap Ent.addrs).Nodup
  new : ∀ a ∈ as :: ai :: an :: ak :: ents.flatMap Ent.addrs, σ₀ a = none
  keep : ∀ b, σ₀ b ≠ none → σ b = σ₀ b
/-- the search's plain side -/
structure DP (S : SS) (r : Int → Nat) (ents : List Ent) (seen : List Int) : Prop where
  mem : ∀ e ∈ ents, e.k ∈ S.order ∧ e.k ∈ seen ∧ e.i ≤ (S.succ e.k).length
  chain : ents.Pairwise fun a b => r a.k < r b.k
  len : ents.length ≤ seen.length
section
variable {X : Cx} {ad : Loc → Addr} {σ₀ σ : MHeap} {as ai an ak : Addr} {ents : List Ent} {seen : List Int} {S : SS} {r : Int → Nat}
theorem DF.live (h : DF X ad σ₀ as ai an ak ents seen σ) : ∀ a ∈ as :: ai :: an :: ak :: ents.flatMap Ent.addrs, σ a ≠ none := by
  intro a ha
  simp only [List.mem_cons, List.mem_flatMap] at ha
  rcases ha with rfl | rfl | rfl | rfl | ⟨e, he, hae⟩
  · rw [h.stack]; exact Option.some_ne_none _
  · rw [h.its]; exact Option.some_ne_none _
  · rw [h.seen]; exact Option.some_ne_none _
  · obtain ⟨kvs, hk, _⟩ := h.pos; rw [hk]; exact Option.some_ne_none _
  · obtain ⟨h1, h2⟩ := h.ent e he
    simp only [Ent.addrs, List.mem_cons, List.not_mem_nil, or_false] at hae
    rcases hae with rfl | rfl
    · rw [h1]; exact Option.some_ne_none _
    · rw [h2]; exact Option.some_ne_none _
end
end Mine
end
section
open PySem PySem.W PyProof.Rows PySem.Calls
set_option Elab.async false
set_option maxRecDepth 100000
set_option linter.unusedVariables false
set_option linter.unusedSimpArgs false
namespace Mine
section
variable {X : Cx} {ad : Loc → Addr} {σ₀ σ : MHeap} {as ai an ak : Addr} {ents pre : List Ent} {seen : List Int} {S : SS} {r : Int → Nat} {e : Ent}
structure Apart (as ai an ak : Addr) (pre : List Ent) (e : Ent) : Prop where
  a1 : as ≠ ai ∧ as ≠ an ∧ as ≠ ak ∧ ai ≠ an ∧ ai ≠ ak ∧ an ≠ ak
  w : e.w ≠ as ∧ e.w ≠ ai ∧ e.w ≠ an ∧ e.w ≠ ak
  i : e.I ≠ as ∧ e.I ≠ ai ∧ e.I ≠ an ∧ e.I ≠ ak
  wi : e.w ≠ e.I
  p : ∀ x ∈ pre, (x.w ≠ as ∧ x.w ≠ ai ∧ x.w ≠ an ∧ x.w ≠ ak) ∧ (x.I ≠ as ∧ x.I ≠ ai ∧ x.I ≠ an ∧ x.I ≠ ak) ∧ x.w ≠ e.w ∧ x.w ≠ e.I ∧ x.I ≠ e.w ∧ x.I ≠ e.I
theorem apart_of (h : (as :: ai :: an :: ak :: (pre ++ [e]).flatMap Ent.addrs).Nodup) : Apart as ai an ak pre e := by
  have m1 : ∀ x ∈ pre, x.w ∈ (pre ++ [e]).flatMap Ent.addrs ∧ x.I ∈ (pre ++ [e]).flatMap Ent.addrs := fun x hx => ⟨List.mem_flatMap.mpr ⟨x, List.mem_append_left _ hx, by simp [Ent.addrs]⟩, List.mem_flatMap.mpr ⟨x, List.mem_append_left _ hx, by simp [Ent.addrs]⟩⟩
  have m2 : e.w ∈ (pre ++ [e]).flatMap Ent.addrs ∧ e.I ∈ (pre ++ [e]).flatMap Ent.addrs := ⟨List.mem_flatMap.mpr ⟨e, by simp, by simp [Ent.addrs]⟩, List.mem_flatMap.mpr ⟨e, by simp, by simp [Ent.addrs]⟩⟩
  simp only [List.nodup_cons, List.mem_cons, not_or] at h
  obtain ⟨⟨h1, h2, h3, h4⟩, ⟨h5, h6, h7⟩, ⟨h8, h9⟩, h10, h11⟩ := h
  have ne : ∀ {a b : Addr} {l : List Addr}, a ∉ l → b ∈ l → b ≠ a := fun ha hb e => ha (e ▸ hb)
  rw [List.flatMap_append, List.nodup_append] at h11
  obtain ⟨h12, h13, h14⟩ := h11
  have h15 : e.w ≠ e.I := by simpa [Ent.addrs] using h13
  have hin : ∀ x ∈ pre, x.w ∈ pre.flatMap Ent.addrs ∧ x.I ∈ pre.flatMap Ent.addrs := fun x hx => ⟨List.mem_flatMap.mpr ⟨x, hx, by simp [Ent.addrs]⟩, List.mem_flatMap.mpr ⟨x, hx, by simp [Ent.addrs]⟩⟩
  have hw : e.w ∈ [e].flatMap Ent.addrs := by simp [Ent.addrs]
  have hI : e.I ∈ [e].flatMap Ent.addrs := by simp [Ent.addrs]
  exact ⟨⟨h1, h2, h3, h5, h6, h8⟩, ⟨ne h4 m2.1, ne h7 m2.1, ne h9 m2.1, ne h10 m2.1⟩, ⟨ne h4 m2.2, ne h7 m2.2, ne h9 m2.2, ne h10 m2.2⟩, h15, fun x hx =>
    ⟨⟨ne h4 (m1 x hx).1, ne h7 (m1 x hx).1, ne h9 (m1 x hx).1, ne h10 (m1 x hx).1⟩, ⟨ne h4 (m1 x hx).2, ne h7 (m1 x hx).2, ne h9 (m1 x hx).2, ne h10 (m1 x hx).2⟩,
      h14 _ (hin x hx).1 _ hw, h14 _ (hin x hx).1 _ hI, h14 _ (hin x hx).2 _ hw, h14 _ (hin x hx).2 _ hI⟩⟩
/-- the top's next one is taken -/
theorem DF.next (h : DF X ad σ₀ as ai an ak (pre ++ [e]) seen σ) : DF X ad σ₀ as ai an ak (pre ++ [{ e with i := e.i + 1 }]) seen (σ.put e.I (mliter (ad (.nl e.k)) (e.i + 1))) := by
  have ap := apart_of h.nd
  have eq : (pre ++ [{ e with i := e.i + 1 }]).flatMap Ent.addrs = (pre ++ [e]).flatMap Ent.addrs := by simp [List.flatMap_append, Ent.addrs]
  refine ⟨?_, ?_, ?_, ?_, ?_, by rw [eq]; exact h.nd, by rw [eq]; exact h.new, ?_⟩
  · rw [MHeap.put_ne (Ne.symm ap.i.1), h.stack]; simp
  · rw [MHeap.put_ne (Ne.symm ap.i.2.1), h.its]; simp
  · rw [MHeap.put_ne (Ne.symm ap.i.2.2.1), h.seen]
  · obtain ⟨kvs, h1, h2⟩ := h.pos
    refine ⟨kvs, ?_, by rw [h2]; simp⟩
    rw [MHeap.put_ne (Ne.symm ap.i.2.2.2), h1]
  · intro x hx
    rcases List.mem_append.mp hx with hx | hx
    · obtain ⟨h1, h2⟩ := h.ent x (List.mem_append_left _ hx)
      obtain ⟨_, _, _, p2, _, p4⟩ := ap.p x hx
      rw [MHeap.put_ne p2, MHeap.put_ne p4]; exact ⟨h1, h2⟩
    · simp only [List.mem_singleton] at hx; subst hx
      refine ⟨?_, MHeap.put_self _ _ _⟩
      rw [MHeap.put_ne ap.wi]
      exact (h.ent e (by simp)).1
  · intro b hb
    have : b ≠ e.I := by
      rintro rfl
      exact hb (h.new _ (by simp [List.flatMap_append, Ent.addrs]))
    rw [MHeap.put_ne this]; exact h.keep b hb
/-- the top goes -/
theorem DF.pop {kvs : List (Int × MV)} (h : DF X ad σ₀ as ai an ak (pre ++ [e]) seen σ) (hk : kvs.map (·.1) = (pre ++ [e]).map (·.k)) (hn : e.k ∉ pre.map (·.k)) {d₁ : Desc} :
    DF X ad σ₀ as ai an ak pre seen ((((σ.put e.I d₁).put as (mlist (pre.map fun e => .int e.k))).put ak (mdict X none (ddel kvs e.k))).put ai (mlist (pre.map fun e => .ref e.w))) := by
  have ap := apart_of h.nd
  obtain ⟨q1, q2, q3, q4, q5, q6⟩ := ap.a1
  have sub : ∀ a, a ∈ as :: ai :: an :: ak :: pre.flatMap Ent.addrs → a ∈ as :: ai :: an :: ak :: (pre ++ [e]).flatMap Ent.addrs := fun a ha => by
    simp only [List.mem_cons, List.flatMap_append, List.mem_append] at ha ⊢
    rcases ha with h | h | h | h | h
    · exact .inl h
    · exact .inr (.inl h)
    · exact .inr (.inr (.inl h))
    · exact .inr (.inr (.inr (.inl h)))
    · exact .inr (.inr (.inr (.inr (.inl h))))
  refine ⟨?_, MHeap.put_self _ _ _, ?_, ⟨ddel kvs e.k, ?_, ?_⟩, ?_, ?_, fun a ha => h.new a (sub a ha), ?_⟩
  · rw [MHeap.put_ne q1, MHeap.put_ne q3]; exact MHeap.put_self _ _ _
  · rw [MHeap.put_ne (Ne.symm q4), MHeap.put_ne q6, MHeap.put_ne (Ne.symm q2), MHeap.put_ne (Ne.symm ap.i.2.2.1)]; exact h.seen
  · rw [MHeap.put_ne (Ne.symm q5)]; exact MHeap.put_self _ _ _
  · rw [ddel_keys, hk, List.map_append]
    exact filter_last hn
  · intro x hx
    obtain ⟨h1, h2⟩ := h.ent x (List.mem_append_left _ hx)
    obtain ⟨⟨w1, w2, w3, w4⟩, ⟨i1, i2, i3, i4⟩, _, p2, _, p4⟩ := ap.p x hx
    rw [MHeap.put_ne w2, MHeap.put_ne w4, MHeap.put_ne w1, MHeap.put_ne p2, MHeap.put_ne i2, MHeap.put_ne i4, MHeap.put_ne i1, MHeap.put_ne p4]
    exact ⟨h1, h2⟩
  · have nd := h.nd
    rw [List.flatMap_append] at nd
    have e2 : as :: ai :: an :: ak :: (pre.flatMap Ent.addrs ++ [e].flatMap Ent.addrs) = (as :: ai :: an :: ak :: pre.flatMap Ent.addrs) ++ [e].flatMap Ent.addrs := by simp
    rw [e2] at nd
    exact (List.nodup_append.mp nd).1
  · intro b hb
    have nn : ∀ a ∈ as :: ai :: an :: ak :: (pre ++ [e]).flatMap Ent.addrs, b ≠ a := fun a ha => by rintro rfl; exact hb (h.new _ ha)
    rw [MHeap.put_ne (nn ai (by simp)), MHeap.put_ne (nn ak (by simp)), MHeap.put_ne (nn as (by simp)), MHeap.put_ne (nn e.I (by simp [List.flatMap_append, Ent.addrs]))]
    exact h.keep b hb
/-- a new one lies on the stack -/
theorem DF.push {kvs : List (Int × MV)} {k : Int} {W I : Addr} {m : MV} (h : DF X ad σ₀ as ai an ak ents seen σ) (hk : kvs.map (·.1) = ents.map (·.k)) (hn : k ∉ ents.map (·.k))
    (hI : (σ.put an (mset X (k :: seen))) I = none) (hW : ((σ.put an (mset X (k :: seen))).put I (mliter (ad (.nl k)) 0)) W = none) :
    DF X ad σ₀ as ai an ak (ents ++ [⟨k, W, I, 0⟩]) (k :: seen)
      ((((((σ.put an (mset X (k :: seen))).put I (mliter (ad (.nl k)) 0)).put W (mwrap I)).put ai (mlist ((ents.map fun e => .ref e.w) ++ [.ref W]))).put ak (mdict X none (dput kvs k m))).put as (mlist ((ents.map fun e => .int e.k) ++ [.int k]))) := by
  have hWI : W ≠ I := by rintro rfl; rw [MHeap.put_self] at hW; cases hW
  rw [MHeap.put_ne hWI] at hW
  have liv : ∀ a ∈ as :: ai :: an :: ak :: ents.flatMap Ent.addrs, (σ.put an (mset X (k :: seen))) a ≠ none := fun a ha => by
    by_cases e : a = an
    · subst e; rw [MHeap.put_self]; exact Option.some_ne_none _
    · rw [MHeap.put_ne e]; exact h.live a ha
  have nI : ∀ a ∈ as :: ai :: an :: ak :: ents.flatMap Ent.addrs, a ≠ I := fun a ha => by rintro rfl; exact liv _ ha hI
  have nW : ∀ a ∈ as :: ai :: an :: ak :: ents.flatMap Ent.addrs, a ≠ W := fun a ha => by rintro rfl; exact liv _ ha hW
  have hIan : I ≠ an := by rintro rfl; rw [MHeap.put_self] at hI; cases hI
  have hWan : W ≠ an := by rintro rfl; rw [MHeap.put_self] at hW; cases hW
  have σI : σ I = none := by rw [MHeap.put_ne hIan] at hI; exact hI
  have σW : σ W = none := by rw [MHeap.put_ne hWan] at hW; exact hW
  have z0 : ∀ a, σ a = none → σ₀ a = none := fun a ha => by
    cases q : σ₀ a with
    | none => rfl
    | some d => have := h.keep a (by rw [q]; exact Option.some_ne_none _); rw [ha, q] at this; cases this
  have nd : (as :: ai :: an :: ak :: (ents ++ [(⟨k, W, I, 0⟩ : Ent)]).flatMap Ent.addrs).Nodup := by
    rw [List.flatMap_append]
    have e2 : as :: ai :: an :: ak :: (ents.flatMap Ent.addrs ++ [(⟨k, W, I, 0⟩ : Ent)].flatMap Ent.addrs) = (as :: ai :: an :: ak :: ents.flatMap Ent.addrs) ++ [W, I] := by simp [Ent.addrs]
    rw [e2, List.nodup_append]
    refine ⟨h.nd, by simpa using hWI, fun a ha b hb => ?_⟩
    simp only [List.mem_cons, List.not_mem_nil, or_false] at hb
    rcases hb with rfl | rfl
    · exact nW a ha
    · exact nI a ha
  have ap := apart_of nd
  obtain ⟨q1, q2, q3, q4, q5, q6⟩ := ap.a1
  obtain ⟨w1, w2, w3, w4⟩ := ap.w
  obtain ⟨i1, i2, i3, i4⟩ := ap.i
  try dsimp only at w1 w2 w3 w4 i1 i2 i3 i4
  refine ⟨?_, ?_, ?_, ⟨dput kvs k m, ?_, ?_⟩, ?_, nd, ?_, ?_⟩
  · rw [MHeap.put_self]; simp
  · rw [MHeap.put_ne (Ne.symm q1), MHeap.put_ne q5, MHeap.put_self]; simp
  · rw [MHeap.put_ne (Ne.symm q2), MHeap.put_ne q6, MHeap.put_ne (Ne.symm q4), MHeap.put_ne (Ne.symm w3), MHeap.put_ne (Ne.symm i3)]; exact MHeap.put_self _ _ _
  · rw [MHeap.put_ne (Ne.symm q3)]; exact MHeap.put_self _ _ _
  · rw [dput_new (by rw [hk]; exact hn), List.map_append, hk]; simp
  · intro x hx
    rcases List.mem_append.mp hx with hx | hx
    · obtain ⟨h1, h2⟩ := h.ent x hx
      obtain ⟨⟨x1, x2, x3, x4⟩, ⟨y1, y2, y3, y4⟩, p1, p2, p3, p4⟩ := ap.p x hx
      dsimp only at p1 p2 p3 p4
      rw [MHeap.put_ne x1, MHeap.put_ne x4, MHeap.put_ne x2, MHeap.put_ne p1, MHeap.put_ne p2, MHeap.put_ne x3, MHeap.put_ne y1, MHeap.put_ne y4, MHeap.put_ne y2, MHeap.put_ne p3, MHeap.put_ne p4, MHeap.put_ne y3]
      exact ⟨h1, h2⟩
    · simp only [List.mem_singleton] at hx; subst hx
      dsimp only
      refine ⟨?_, ?_⟩
      · rw [MHeap.put_ne w1, MHeap.put_ne w4, MHeap.put_ne w2]; exact MHeap.put_self _ _ _
      · rw [MHeap.put_ne i1, MHeap.put_ne i4, MHeap.put_ne i2, MHeap.put_ne (Ne.symm hWI)]; exact MHeap.put_self _ _ _
  · intro a ha
    rw [List.flatMap_append] at ha
    have e2 : as :: ai :: an :: ak :: (ents.flatMap Ent.addrs ++ [(⟨k, W, I, 0⟩ : Ent)].flatMap Ent.addrs) = (as :: ai :: an :: ak :: ents.flatMap Ent.addrs) ++ [W, I] := by simp [Ent.addrs]
    rw [e2] at ha
    rcases List.mem_append.mp ha with ha | ha
    · exact h.new a ha
    · simp only [List.mem_cons, List.not_mem_nil, or_false] at ha
      rcases ha with rfl | rfl
      · exact z0 _ σW
      · exact z0 _ σI
  · intro b hb
    have nn : ∀ a ∈ as :: ai :: an :: ak :: ents.flatMap Ent.addrs, b ≠ a := fun a ha => by rintro rfl; exact hb (h.new _ ha)
    have bI : b ≠ I := by rintro rfl; exact hb (z0 _ σI)
    have bW : b ≠ W := by rintro rfl; exact hb (z0 _ σW)
    rw [MHeap.put_ne (nn as (by simp)), MHeap.put_ne (nn ak (by simp)), MHeap.put_ne (nn ai (by simp)), MHeap.put_ne bW, MHeap.put_ne bI, MHeap.put_ne (nn an (by simp))]
    exact h.keep b hb
end
end Mine
end
section
open PySem PySem.W PyProof.Rows PySem.Calls
set_option Elab.async false
set_option maxRecDepth 100000
set_option linter.unusedVariables false
set_option linter.unusedSimpArgs false
namespace Mine
section
variable {X : Cx} {A : Around} {B : Base} {env : Env} {φ : MEnv} {σ₀ σ σ' : MHeap} {F : Fz} {s : Shared} {ad : Loc → Addr} {S : SS} {r : Int → Nat} {as ai an ak : Addr} {N : Nat}
theorem WS1_exprAny {Q : MF → MEnv → MHeap → Prop} {e : Expr} {pos : Pos} (h : WE X A env e φ σ (fun mv σ₁ => Q .next φ σ₁)) (hi : interactive env = false := by rfl) (hs : swapsWith e none pos.line env = pure false := by rfl) :
    WS1 X A env (.Expr e pos) φ σ Q := by
  intro B F s f
  rw [exec_Expr env e pos hi hs]
  refine wpAny_bind (wpAny_standAt (wpAny_bind (wpAny_mono (h F s f.st f.ev) ?_ fun _ _ x => x)))
  rintro v s₁ ⟨F₁, σ₁, mv, t₁, hv, hq⟩
  exact wpAny_dropValue ⟨F₁, σ₁, φ, .next, f.step t₁, rfl, hq⟩
def yEnv (z : FnRest) (L : Addr) : Env := fEnv (meth 6 8) "TopologicalSorter._find_cycle" .none 127 z L
def yFor : List Stmt := match (fBody (meth 6 8)).drop 5 with | .For _ _ b _ _ :: _ => b | _ => []
def yWh : List Stmt := match yFor.drop 1 with | .While _ b _ _ :: _ => b | _ => []
def yIn : Stmt := yWh.getD 1 (.Pass ⟨0, 0, 0, 0⟩)
structure Names (ad : Loc → Addr) (as ai an ak : Addr) (φ : MEnv) : Prop where
  n2i : φ.lookup ("n2i" : Str) = some (.ref (ad .map))
  st : φ.lookup ("stack" : Str) = some (.ref as)
  its : φ.lookup ("itstack" : Str) = some (.ref ai)
  sn : φ.lookup ("seen" : Str) = some (.ref an)
  ps : φ.lookup ("node2stacki" : Str) = some (.ref ak)
theorem Names.node {φ : MEnv} (h : Names ad as ai an ak φ) {mv : MV} : Names ad as ai an ak (("node", mv) :: φ) := ⟨h.n2i, h.st, h.its, h.sn, h.ps⟩
theorem DF.sorter {ents : List Ent} {seen : List Int} (h : DF X ad σ₀ as ai an ak ents seen σ) (hs : SorterIs X σ₀ ad S) : SorterIs X σ ad S := hs.keep fun l hl => h.keep _ (by rw [hs.at_ l hl]; exact Option.some_ne_none _)
theorem DP.notin {pre : List Ent} {e : Ent} {seen : List Int} (h : DP S r (pre ++ [e]) seen) : e.k ∉ pre.map (·.k) := by
  intro hm
  obtain ⟨x, hx, hk⟩ := List.mem_map.mp hm
  have := (List.pairwise_append.mp h.chain).2.2 x hx e (by simp)
  rw [hk] at this; omega
theorem lasts {ents : List Ent} (h : ents ≠ []) : ∃ pre e, ents = pre ++ [e] := ⟨ents.dropLast, ents.getLast h, (List.dropLast_concat_getLast h).symm⟩
theorem getElem?_ints {l : List Int} {i : Nat} {mv : MV} (h : (l.map MV.int)[i]? = some mv) : ∃ j, l[i]? = some j ∧ mv = .int j := by
  rw [List.getElem?_map] at h
  obtain ⟨j, h1, h2⟩ := Option.map_eq_some_iff.mp h
  exact ⟨j, h1, h2.symm⟩
structure Graph (S : SS) (r : Int → Nat) : Prop where
  up : ∀ k ∈ S.order, ∀ j ∈ S.succ k, j ∈ S.order ∧ r k < r j
theorem cy_inner (hX : X.Ok) (hh : A.handled = none) {z : FnRest} {L : Addr} (hfr : FramesOk X A (yEnv z L)) (hs : SorterIs X σ₀ ad S) (hg : Graph S r) (hN : N ≤ 2000) (hsl : ∀ k, (S.succ k).length ≤ 1000) {seen : List Int} {m₀ : Nat} {P : MF → MEnv → MHeap → Prop}
    (hbrk : ∀ φ' σ' ents' node, Names ad as ai an ak φ' → φ'.lookup ("node" : Str) = some (.int node) → DF X ad σ₀ as ai an ak ents' seen σ' → DP S r ents' seen → node ∈ S.order → (∀ e ∈ ents', r e.k < r node) → msU S seen + msV S ents' < m₀ → P .next φ' σ')
    (hend : ∀ φ' σ', Names ad as ai an ak φ' → DF X ad σ₀ as ai an ak [] seen σ' → P .brk φ' σ')
    {ents : List Ent} (hn : Names ad as ai an ak φ) (hd : DF X ad σ₀ as ai an ak ents seen σ) (hp : DP S r ents seen) (hm : msU S seen + msV S ents ≤ m₀) (hb : seen.length ≤ N) : WS1 X A (yEnv z L) yIn φ σ P := by
  refine WS1_while (fun m φ σ => ∃ ents, m = msU S seen + msV S ents ∧ m ≤ m₀ ∧ Names ad as ai an ak φ ∧ DF X ad σ₀ as ai an ak ents seen σ ∧ DP S r ents seen) ?_ (msU S seen + msV S ents) ⟨ents, rfl, hm, hn, hd, hp⟩
  rintro m φ σ ⟨ents, rfl, hm, hn, hd, hp⟩
  have hlen : ents.length ≤ 2000 := by have := hp.len; omega
  refine WB_value (WE_name hn.st (Tr_mlist hd.stack (by simp; omega) ?_))
  by_cases he : ents = []
  · subst he
    exact WS_cons (WS1_break (hend φ σ hn hd))
  · obtain ⟨pre, e, rfl⟩ := lasts he
    have hemp : (!((pre ++ [e]).map fun e => MV.int e.k).isEmpty) = true := by simp
    rw [hemp]
    have hsort := hd.sorter hs
    obtain ⟨mo, ms, mi⟩ := hp.mem e (by simp)
    have hl := hsort.at_ (.nl e.k) mo
    have hl' : σ (ad (.nl e.k)) = some (mlist ((S.succ e.k).map .int)) := hl
    obtain ⟨hW, hI⟩ := hd.ent e (by simp)
    have hits : σ ai = some (mlist ((pre.map fun e => .ref e.w) ++ [.ref e.w])) := by rw [hd.its]; simp
    refine WS_cons (WS1_nextTry hX hh hfr hn.its hits (by simp at hlen ⊢; omega) hW hI hl' ?_ ?_)
    · intro mv hmv
      obtain ⟨j, hj, rfl⟩ := getElem?_ints hmv
      have hij : e.i < (S.succ e.k).length := (List.getElem?_eq_some_iff.mp hj).1
      obtain ⟨j1, j2⟩ := hg.up e.k mo j (List.mem_of_getElem? hj)
      refine hbrk _ _ (pre ++ [{ e with i := e.i + 1 }]) j hn.node lookup_cons_self hd.next ?_ j1 ?_ ?_
      · refine ⟨fun x hx => ?_, ?_, by simpa using hp.len⟩
        · rcases List.mem_append.mp hx with hx | hx
          · exact hp.mem x (List.mem_append_left _ hx)
          · simp only [List.mem_singleton] at hx; subst hx; exact ⟨mo, ms, hij⟩
        · have := hp.chain
          rw [List.pairwise_append] at this ⊢
          refine ⟨this.1, by simp, fun a ha b hb => ?_⟩
          simp only [List.mem_singleton] at hb; subst hb
          exact this.2.2 a ha e (by simp)
      · intro x hx
        rcases List.mem_append.mp hx with hx | hx
        · have := (List.pairwise_append.mp hp.chain).2.2 x hx e (by simp)
          omega
        · simp only [List.mem_singleton] at hx; subst hx; exact j2
      · rw [msV_last] at hm ⊢
        simp only at hm ⊢
        omega
    · intro hend' ee
      obtain ⟨kvs, hk1, hk2⟩ := hd.pos
      have ap := apart_of hd.nd
      obtain ⟨q1, q2, q3, q4, q5, q6⟩ := ap.a1
      have hst : (σ.put e.I many) as = some (mlist ((pre.map fun e => .int e.k) ++ [.int e.k])) := by
        rw [MHeap.put_ne (Ne.symm ap.i.1), hd.stack]; simp
      have hkl : kvs.length = pre.length + 1 := by have := congrArg List.length hk2; simpa using this
      have hsl1 : kvs.length ≤ sizeLine := by
        have : (2000 : Nat) ≤ sizeLine := by decide
        simp at hlen; omega
      refine WS_cons (WS1_delD (WE_name hn.ps (WE_bmeth PySem.F.plainAttrs_list PySem.F.slot_list_pop PySem.F.type_list_pop (WE_name hn.st ⟨mlist_type hst, WL_nil (B_popM hst (by simp at hlen ⊢; omega) ⟨ak, kvs, e.k, rfl, rfl, ?_, hsl1, dlook_in (by rw [hk2]; simp), ?_⟩)⟩))))
      · rw [MHeap.put_ne (Ne.symm q3), MHeap.put_ne (Ne.symm ap.i.2.2.2)]; exact hk1
      · have hit2 : (((σ.put e.I many).put as (mlist (pre.map fun e => .int e.k))).put ak (mdict X none (ddel kvs e.k))) ai = some (mlist ((pre.map fun e => .ref e.w) ++ [.ref e.w])) := by
          rw [MHeap.put_ne q5, MHeap.put_ne (Ne.symm q1), MHeap.put_ne (Ne.symm ap.i.2.1)]; exact hits
        refine WS_cons (WS1_exprAny (WE_bmeth PySem.F.plainAttrs_list PySem.F.slot_list_pop PySem.F.type_list_pop (WE_name hn.its ⟨mlist_type hit2, WL_nil (B_popM hit2 (by simp at hlen ⊢; omega) ?_)⟩)))
        refine WS_nil (WS_nil ?_)
        refine ⟨msU S seen + msV S pre, ?_, pre, rfl, ?_, hn, hd.pop hk2 hp.notin, ?_⟩
        · rw [msV_last]; omega
        · rw [msV_last] at hm; omega
        · refine ⟨fun x hx => hp.mem x (List.mem_append_left _ hx), (List.pairwise_append.mp hp.chain).1, ?_⟩
          have := hp.len
          simp at this; omega
end
end Mine
end
section
open PySem PySem.W PyProof.Rows PySem.Calls
set_option Elab.async false
set_option maxRecDepth 100000
set_option linter.unusedVariables false
set_option linter.unusedSimpArgs false
namespace Mine
section
variable {X : Cx} {A : Around} {env : Env} {φ : MEnv} {σ₀ σ σ' : MHeap} {ad : Loc → Addr} {S : SS} {r : Int → Nat} {as ai an ak : Addr} {N : Nat}
theorem gl_iter (hX : X.Ok) : GlobIs X "iter" (.builtin "iter") := globB hX (by kernel_rfl) (by kernel_rfl) (by decide)
theorem gl_set (hX : X.Ok) : GlobIs X "set" (.type "set") := globB hX (by kernel_rfl) (by kernel_rfl) (by decide)
def yIf : Stmt := yWh.getD 0 (.Pass ⟨0, 0, 0, 0⟩)
/-- the first statement in the endless loop -/
theorem cy_if (hX : X.Ok) {z : FnRest} {L : Addr} (hs : SorterIs X σ₀ ad S) (hsys : (ak == sysModules) = false) (hN : N ≤ 2000) {P : MF → MEnv → MHeap → Prop} {ents : List Ent} {seen : List Int} {node : Int}
    (hn : Names ad as ai an ak φ) (hnode : φ.lookup ("node" : Str) = some (.int node)) (hd : DF X ad σ₀ as ai an ak ents seen σ) (hp : DP S r ents seen) (ho : node ∈ S.order) (hr : ∀ e ∈ ents, r e.k < r node) (hb : seen.length + (msU S seen + msV S ents) ≤ N)
    (h : ∀ σ' ents' seen', DF X ad σ₀ as ai an ak ents' seen' σ' → DP S r ents' seen' → msU S seen' + msV S ents' ≤ msU S seen + msV S ents → seen'.length + (msU S seen' + msV S ents') ≤ N → P .next φ σ') : WS1 X A (yEnv z L) yIf φ σ P := by
  have hni : node ∉ ents.map (·.k) := by
    intro hm
    obtain ⟨x, hx, hk⟩ := List.mem_map.mp hm
    have := hr x hx
    rw [hk] at this; omega
  have hel : ents.length ≤ 2000 := by have := hp.len; omega
  have hsz : (2000 : Nat) ≤ sizeLine := by decide
  obtain ⟨kvs, hk1, hk2⟩ := hd.pos
  have hkl : kvs.length = ents.length := by have := congrArg List.length hk2; simpa using this
  refine WS1_if (WB_compare (WE_name hnode (WE_name hn.sn (V_inSet hd.seen (by omega) (Tr_bool ?_)))))
  by_cases hin : node ∈ seen
  · rw [decide_eq_true hin]
    refine WS_cons (WS1_if (WB_compare (WE_name hnode (WE_name hn.ps (V_inDict hk1 hsys (Tr_bool ?_))))))
    rw [dlook_out (by rw [hk2]; exact hni)]
    exact WS_nil (WS_nil (h σ ents seen hd hp (Nat.le_refl _) hb))
  · rw [decide_eq_false hin]
    have ap : as ≠ ai ∧ as ≠ an ∧ as ≠ ak ∧ ai ≠ an ∧ ai ≠ ak ∧ an ≠ ak := by
      have := hd.nd
      simp only [List.nodup_cons, List.mem_cons, not_or] at this
      obtain ⟨⟨h1, h2, h3, h4⟩, ⟨h5, h6, h7⟩, ⟨h8, h9⟩, h10, h11⟩ := this
      exact ⟨h1, h2, h3, h5, h6, h8⟩
    obtain ⟨q1, q2, q3, q4, q5, q6⟩ := ap
    refine WS_cons (WS1_expr (WE_bmeth PySem.F.plainAttrs_set PySem.F.slot_set_add PySem.F.type_set_add (WE_name hn.sn ⟨mset_type (by omega) hd.seen, WL_cons (WE_name hnode (WL_nil (B_setAdd hd.seen (by omega) ⟨rfl, ?_⟩)))⟩)))
    have hs1 : SorterIs X (σ.put an (mset X (node :: seen))) ad S := hs.keep fun l hl => by
      have hne : σ₀ (ad l) ≠ none := by rw [hs.at_ l hl]; exact Option.some_ne_none _
      rw [MHeap.put_ne (by rintro e; exact hne (e ▸ hd.new an (by simp)))]
      exact hd.keep _ hne
    have hits : (σ.put an (mset X (node :: seen))) ai = some (mlist (ents.map fun e => .ref e.w)) := by rw [MHeap.put_ne q4]; exact hd.its
    refine WS_cons (WS1_expr (WE_append (WE_name hn.its ⟨ai, _, rfl, hits, ?_⟩)))
    refine WE_attr (WE_callB (gl_iter hX) (WL_cons (WE_attr (WE_item (WE_name hn.n2i (WE_name hnode (V_ditem (hs1.at_ .map trivial) (dlook_map (α := Nat) (f := fun j => .ref (ad (.nd j))) ho) (V_slot hX (hs1.at_ (.nd node) ho) (hs1.at_ (.ndx node) ho) (mv := .ref (ad (.nl node))) rfl sc_succ (WL_nil (B_iterM (hs1.at_ (.nl node) ho) (fun I hI => V_nextAttr (MHeap.put_self _ _ _) (fun W hW => ?_))))))))))))
    have hWI : W ≠ I := by rintro rfl; rw [MHeap.put_self] at hW; cases hW
    have hIai : ai ≠ I := by rintro rfl; rw [hits] at hI; cases hI
    have hWai : ai ≠ W := by rintro rfl; rw [MHeap.put_ne hIai, hits] at hW; cases hW
    refine ⟨_, (by rw [MHeap.put_ne hWai, MHeap.put_ne hIai]; exact hits), (by rw [List.length_map]; omega), rfl, ?_⟩
    have hst1 : (σ.put an (mset X (node :: seen))) as = some (mlist (ents.map fun e => .int e.k)) := by rw [MHeap.put_ne q2]; exact hd.stack
    have hIas : as ≠ I := by rintro rfl; rw [hst1] at hI; cases hI
    have hWas : as ≠ W := by rintro rfl; rw [MHeap.put_ne hIas, hst1] at hW; cases hW
    have hk1' : (σ.put an (mset X (node :: seen))) ak = some (mdict X none kvs) := by rw [MHeap.put_ne (Ne.symm q6)]; exact hk1
    have hIak : ak ≠ I := by rintro rfl; rw [hk1'] at hI; cases hI
    have hWak : ak ≠ W := by rintro rfl; rw [MHeap.put_ne hIak, hk1'] at hW; cases hW
    have hst2 : ((((σ.put an (mset X (node :: seen))).put I (mliter (ad (.nl node)) 0)).put W (mwrap I)).put ai (mlist ((ents.map fun e => .ref e.w) ++ [.ref W]))) as = some (mlist (ents.map fun e => .int e.k)) := by
      rw [MHeap.put_ne q1, MHeap.put_ne hWas, MHeap.put_ne hIas]; exact hst1
    refine WS_cons (WS1_assignD (WE_callB (gl_len' hX) (WL_cons (WE_name hn.st (WL_nil (B_lenM hst2 (by rw [List.length_map]; omega) (WE_name hn.ps (WE_name hnode ⟨ak, kvs, node, rfl, rfl, ?_, ?_, ?_⟩))))))))
    · rw [MHeap.put_ne (Ne.symm q5), MHeap.put_ne hWak, MHeap.put_ne hIak]; exact hk1'
    · have : (2000 : Nat) ≤ sizeLine := by decide
      omega
    refine WS_cons (WS1_expr (WE_append (WE_name hn.st ⟨as, ents.map (fun e => .int e.k), rfl, ?_, WE_name hnode ⟨ents.map (fun e => .int e.k), ?_, ?_, rfl, WS_nil ?_⟩⟩)))
    · rw [MHeap.put_ne q3]; exact hst2
    · rw [MHeap.put_ne q3]; exact hst2
    · rw [List.length_map]; omega
    have hpush := hd.push (m := .int ((ents.map fun e => MV.int e.k).length : Nat)) hk2 hni hI hW
    have hU := msU_push hin ho
    have hV := msV_push (S := S) (ents := ents) (e := ⟨node, W, I, 0⟩) rfl
    dsimp only at hV
    refine h _ (ents ++ [⟨node, W, I, 0⟩]) (node :: seen) hpush ?_ (by omega) (by simp only [List.length_cons]; omega)
    refine ⟨fun x hx => ?_, ?_, ?_⟩
    · rcases List.mem_append.mp hx with hx | hx
      · obtain ⟨h1, h2, h3⟩ := hp.mem x hx
        exact ⟨h1, List.mem_cons_of_mem _ h2, h3⟩
      · simp only [List.mem_singleton] at hx; subst hx
        exact ⟨ho, List.mem_cons_self, Nat.zero_le _⟩
    · rw [List.pairwise_append]
      refine ⟨hp.chain, by simp, fun a ha b hb => ?_⟩
      simp only [List.mem_singleton] at hb; subst hb
      exact hr a ha
    · have := hp.len
      simp; omega
end
end Mine
end
section
open PySem PySem.W PyProof.Rows PySem.Calls
set_option Elab.async false
set_option maxRecDepth 100000
set_option linter.unusedVariables false
set_option linter.unusedSimpArgs false
namespace Mine
section
variable {X : Cx} {A : Around} {env : Env} {φ : MEnv} {σ₀ σ σ' : MHeap} {ad : Loc → Addr} {S : SS} {r : Int → Nat} {as ai an ak : Addr} {N : Nat}
def yWhile : Stmt := yFor.getD 1 (.Pass ⟨0, 0, 0, 0⟩)
theorem DP.nil {seen : List Int} : DP S r [] seen := ⟨by simp, by simp, by simp⟩
theorem cy_while (hX : X.Ok) (hh : A.handled = none) {z : FnRest} {L : Addr} (hfr : FramesOk X A (yEnv z L)) (hs : SorterIs X σ₀ ad S) (hsys : (ak == sysModules) = false) (hg : Graph S r) (hN : N ≤ 2000) (hsl : ∀ k, (S.succ k).length ≤ 1000) {P : MF → MEnv → MHeap → Prop} {seen : List Int} {node : Int}
    (hn : Names ad as ai an ak φ) (hnode : φ.lookup ("node" : Str) = some (.int node)) (hd : DF X ad σ₀ as ai an ak [] seen σ) (ho : node ∈ S.order) (hb : seen.length + msU S seen ≤ N)
    (h : ∀ φ' σ' seen', Names ad as ai an ak φ' → DF X ad σ₀ as ai an ak [] seen' σ' → seen'.length + msU S seen' ≤ N → P .next φ' σ') : WS1 X A (yEnv z L) yWhile φ σ P := by
  refine WS1_while (fun n φ σ => ∃ ents seen node, n = msU S seen + msV S ents ∧ Names ad as ai an ak φ ∧ φ.lookup ("node" : Str) = some (.int node) ∧ DF X ad σ₀ as ai an ak ents seen σ ∧ DP S r ents seen ∧ node ∈ S.order ∧ (∀ e ∈ ents, r e.k < r node) ∧ seen.length + n ≤ N) ?_ (msU S seen) ⟨[], seen, node, by simp [msV], hn, hnode, hd, .nil, ho, by simp, hb⟩
  rintro n φ σ ⟨ents, seen, node, rfl, hn, hnode, hd, hp, ho, hr, hb⟩
  refine WB_value (WE_bool (Tr_bool ?_))
  refine WS_cons (cy_if hX hs hsys hN hn hnode hd hp ho hr hb fun σ' ents' seen' hd' hp' hm' hb' => ?_)
  refine WS_cons (cy_inner (m₀ := msU S seen' + msV S ents') hX hh hfr hs hg hN hsl ?_ ?_ hn hd' hp' (Nat.le_refl _) (by omega))
  · intro φ'' σ'' ents'' node'' hn'' hno'' hd'' hp'' ho'' hr'' hm''
    refine WS_nil ?_
    exact ⟨_, Nat.lt_of_lt_of_le hm'' hm', ents'', seen', node'', rfl, hn'', hno'', hd'', hp'', ho'', hr'', by omega⟩
  · intro φ'' σ'' hn'' hd''
    exact h φ'' σ'' seen' hn'' hd'' (by omega)
theorem cy_for (hX : X.Ok) (hh : A.handled = none) {z : FnRest} {L : Addr} (hfr : FramesOk X A (yEnv z L)) (hs : SorterIs X σ₀ ad S) {ep : Nat} (hpin : S.pin = some ep) (hsys : (ak == sysModules) = false) (hg : Graph S r) (hN : N ≤ 2000) (hsl : ∀ k, (S.succ k).length ≤ 1000) {P : MF → MEnv → MHeap → Prop}
    (h : ∀ φ' σ' seen', DF X ad σ₀ as ai an ak [] seen' σ' → P .next φ' σ') : ∀ (rest : List Int) (φ : MEnv) (σ : MHeap) (seen : List Int), (∀ k ∈ rest, k ∈ S.order) → Names ad as ai an ak φ → DF X ad σ₀ as ai an ak [] seen σ → seen.length + msU S seen ≤ N →
      LoopQ X A (yEnv z L) "node" yFor (fun σ' => σ' (ad .map) = some (mdict X (some ep) (S.order.map fun k => (k, .ref (ad (.nd k)))))) P (rest.map .int) φ σ := by
  have okm : ∀ {seen : List Int} {σ : MHeap}, DF X ad σ₀ as ai an ak [] seen σ → σ (ad .map) = some (mdict X (some ep) (S.order.map fun k => (k, .ref (ad (.nd k))))) := fun hd => by
    have := (hd.sorter hs).at_ .map trivial
    rw [show descOf X ad S .map = mdict X S.pin (S.order.map fun k => (k, .ref (ad (.nd k)))) from rfl, hpin] at this
    exact this
  intro rest
  induction rest with
  | nil => intro φ σ seen _ hn hd hb; exact h φ σ seen hd
  | cons k rest ih =>
    intro φ σ seen hin hn hd hb
    refine WS_cons (WS1_if (WB_compare (WE_name lookup_cons_self (WE_name hn.sn (V_inSet hd.seen (by omega) (Tr_bool ?_))))))
    by_cases hk : k ∈ seen
    · rw [decide_eq_true hk]
      exact WS_cons (WS1_continue ⟨okm hd, ih _ σ seen (fun j hj => hin j (List.mem_cons_of_mem _ hj)) hn.node hd hb⟩)
    · rw [decide_eq_false hk]
      refine WS_nil (WS_cons (cy_while hX hh hfr hs hsys hg hN hsl hn.node lookup_cons_self hd (hin k List.mem_cons_self) hb ?_))
      intro φ' σ' seen' hn' hd' hb'
      exact WS_nil ⟨okm hd', ih φ' σ' seen' (fun j hj => hin j (List.mem_cons_of_mem _ hj)) hn' hd' hb'⟩
/-- the frames below are known -/
def Below' (X : Cx) (A : Around) : Prop := ∃ outer, A.frames = some outer ∧ ∀ e ∈ outer, e.scope.kind ≠ .module ∧ ∃ f ∈ X.fr, e.frame = some f
theorem Below'.push {st : Stmt} {q : Str} {d : Value} {a : Addr} {z : FnRest} {L : Addr} (h : Below' X A) (hk : (fScope st).kind = .function) : Below' (X.addFr (fEnv st q d a z L).locals) (A.deeper (fEnv st q d a z L)) := by
  obtain ⟨outer, h1, h2⟩ := h
  refine ⟨fEnv st q d a z L :: outer, Around.frames_deeper h1, fun e he => ?_⟩
  rcases List.mem_cons.mp he with rfl | he
  · exact ⟨by show (fScope st).kind ≠ _; rw [hk]; decide, (fEnv st q d a z L).locals, List.mem_cons_self, rfl⟩
  · obtain ⟨h3, f, h4, h5⟩ := h2 e he
    exact ⟨h3, f, List.mem_cons_of_mem _ h4, h5⟩
theorem Below'.frames {st : Stmt} {q : Str} {d : Value} {a : Addr} {z : FnRest} {L : Addr} (h : Below' X A) (hk : (fScope st).kind = .function) : FramesOk (X.addFr (fEnv st q d a z L).locals) (A.deeper (fEnv st q d a z L)) (fEnv st q d a z L) := by
  obtain ⟨outer, h1, h2⟩ := h
  refine ⟨outer, Around.frames_deeper h1, fun e he => ?_⟩
  rcases List.mem_cons.mp he with rfl | he
  · exact ⟨by show (fScope st).kind ≠ _; rw [hk]; decide, (fEnv st q d a z L).locals, List.mem_cons_self, rfl⟩
  · obtain ⟨h3, f, h4, h5⟩ := h2 e he
    exact ⟨h3, f, List.mem_cons_of_mem _ h4, h5⟩
theorem Cx.Ok.addFr (hX : X.Ok) (L : Addr) : (X.addFr L).Ok := ⟨hX.kin, hX.top⟩
theorem SorterIs.addFr (hs : SorterIs X σ ad S) (L : Addr) : SorterIs (X.addFr L) σ ad S := ⟨fun l hl => by have := hs.at_ l hl; cases l <;> exact this, hs.inj, hs.sys⟩
theorem SorterIs.lessFr {L : Addr} (hs : SorterIs (X.addFr L) σ ad S) : SorterIs X σ ad S := ⟨fun l hl => by have := hs.at_ l hl; cases l <;> exact this, hs.inj, hs.sys⟩
theorem cycle_spec {Q : MV → MHeap → Prop} (hX : X.Ok) (hA : AOk 1 A) (hbl : Below' X A) (hs : SorterIs X σ ad S) {ep : Nat} (hpin : S.pin = some ep) (hg : Graph S r) (hN : msU S [] ≤ 2000) (hsl : ∀ k, (S.succ k).length ≤ 1000)
    (h : ∀ σ', (∀ b, σ b ≠ none → σ' b = σ b) → Q .none σ') : WCall X A 127 [.ref (ad .self)] σ Q := by
  refine WCall1 hX hA "self" (fn_ts__find_cycle hX) (fun z v => by kernel_rfl) (fun z => by kernel_rfl) (fun z L => ?_)
  refine WS.addFr ?_
  have hX' := hX.addFr (fEnv (meth 6 8) "TopologicalSorter._find_cycle" .none 127 z L).locals
  have hs' := hs.addFr (fEnv (meth 6 8) "TopologicalSorter._find_cycle" .none 127 z L).locals
  have hfr := hbl.frames (st := meth 6 8) (q := "TopologicalSorter._find_cycle") (d := .none) (a := 127) (z := z) (L := L) rfl
  refine WS_cons (WS1_assign (WE_self hX' hs' rfl rfl ac_n2i rfl ?_))
  refine WS_cons (WS1_assign (WE_listM (WL_nil ⟨by decide, fun as has => ?_⟩)))
  refine WS_cons (WS1_assign (WE_listM (WL_nil ⟨by decide, fun ai hai => ?_⟩)))
  refine WS_cons (WS1_assign (WE_callT (gl_set hX') (WL_nil (T_set0 (fun an han => ?_)))))
  refine WS_cons (WS1_assign (WE_dict0 hX' (fun ak hak hsys => ?_)))
  have e1 : ai ≠ as := by rintro rfl; rw [MHeap.put_self] at hai; cases hai
  rw [MHeap.put_ne e1] at hai
  have e2 : an ≠ ai := by rintro rfl; rw [MHeap.put_self] at han; cases han
  rw [MHeap.put_ne e2] at han
  have e3 : an ≠ as := by rintro rfl; rw [MHeap.put_self] at han; cases han
  rw [MHeap.put_ne e3] at han
  have e4 : ak ≠ an := by rintro rfl; rw [MHeap.put_self] at hak; cases hak
  rw [MHeap.put_ne e4] at hak
  have e5 : ak ≠ ai := by rintro rfl; rw [MHeap.put_self] at hak; cases hak
  rw [MHeap.put_ne e5] at hak
  have e6 : ak ≠ as := by rintro rfl; rw [MHeap.put_self] at hak; cases hak
  rw [MHeap.put_ne e6] at hak
  have hd : DF (X.addFr (fEnv (meth 6 8) "TopologicalSorter._find_cycle" .none 127 z L).locals) ad σ as ai an ak [] [] ((((σ.put as (mlist [])).put ai (mlist [])).put an (mset (X.addFr (fEnv (meth 6 8) "TopologicalSorter._find_cycle" .none 127 z L).locals) [])).put ak (mdict (X.addFr (fEnv (meth 6 8) "TopologicalSorter._find_cycle" .none 127 z L).locals) none [])) := by
    refine ⟨?_, ?_, ?_, ⟨[], MHeap.put_self _ _ _, rfl⟩, by simp, ?_, ?_, ?_⟩
    · rw [MHeap.put_ne (Ne.symm e6), MHeap.put_ne (Ne.symm e3), MHeap.put_ne (Ne.symm e1)]; exact MHeap.put_self _ _ _
    · rw [MHeap.put_ne (Ne.symm e5), MHeap.put_ne (Ne.symm e2)]; exact MHeap.put_self _ _ _
    · rw [MHeap.put_ne (Ne.symm e4)]; exact MHeap.put_self _ _ _
    · simp [Ne.symm e1, Ne.symm e2, Ne.symm e3, Ne.symm e4, Ne.symm e5, Ne.symm e6]
    · intro a ha
      simp only [List.flatMap_nil, List.mem_cons, List.not_mem_nil, or_false] at ha
      rcases ha with rfl | rfl | rfl | rfl <;> assumption
    · intro b hb
      rw [MHeap.put_ne (by rintro rfl; exact hb hak), MHeap.put_ne (by rintro rfl; exact hb han), MHeap.put_ne (by rintro rfl; exact hb hai), MHeap.put_ne (by rintro rfl; exact hb has)]
  have hsd := hd.sorter hs'
  have hmap : ((((σ.put as (mlist [])).put ai (mlist [])).put an (mset (X.addFr (fEnv (meth 6 8) "TopologicalSorter._find_cycle" .none 127 z L).locals) [])).put ak (mdict (X.addFr (fEnv (meth 6 8) "TopologicalSorter._find_cycle" .none 127 z L).locals) none [])) (ad .map) = some (mdict (X.addFr (fEnv (meth 6 8) "TopologicalSorter._find_cycle" .none 127 z L).locals) (some ep) (S.order.map fun k => (k, .ref (ad (.nd k))))) := by
    have := hsd.at_ .map trivial
    rw [show descOf (X.addFr (fEnv (meth 6 8) "TopologicalSorter._find_cycle" .none 127 z L).locals) ad S .map = mdict (X.addFr (fEnv (meth 6 8) "TopologicalSorter._find_cycle" .none 127 z L).locals) S.pin (S.order.map fun k => (k, .ref (ad (.nd k)))) from rfl, hpin] at this
    exact this
  have hkeys : ((S.order.map fun k => (k, MV.ref (ad (.nd k)))).map fun kv => MV.int kv.1) = S.order.map .int := by
    rw [List.map_map]; rfl
  have hit := iter_keys (X := X.addFr (fEnv (meth 6 8) "TopologicalSorter._find_cycle" .none 127 z L).locals) (A := A.deeper (fEnv (meth 6 8) "TopologicalSorter._find_cycle" .none 127 z L)) hA.handled hsd.sys hmap
  rw [hkeys] at hit
  refine WS_cons (WS1_for (WE_name rfl ⟨_, _, hit, hmap, cy_for (A := A.deeper (fEnv (meth 6 8) "TopologicalSorter._find_cycle" .none 127 z L)) (z := z) (L := L) (N := 2000) hX' hA.handled hfr hs' hpin hsys hg (Nat.le_refl _) hsl ?_ S.order _ _ [] (fun k hk => hk) ⟨rfl, rfl, rfl, rfl, rfl⟩ hd (by simpa using hN)⟩))
  intro φ' σ' seen' hd'
  exact WS_cons (WS1_return (WE_none (h σ' hd'.keep)))
end
end Mine
end
section
open PySem PySem.W PyProof.Rows PySem.Calls
set_option Elab.async false
set_option maxRecDepth 100000
set_option linter.unusedVariables false
set_option linter.unusedSimpArgs false
namespace Mine
section
variable {X : Cx} {A : Around} {B : Base} {env : Env} {φ : MEnv} {σ : MHeap} {Q : MV → MHeap → Prop} {F F' : Fz} {s s₀ : Shared}
theorem Trans.claim {F₀ : Fz} {σ₀ : MHeap} {s' : Shared} {D : Addr} {o : Obj} {d : Desc} (t : Trans X F₀ σ₀ s₀ F σ s') (ho : s'.heap.get? D = some o) (hF : F D = none) (hσ : σ D = none) (h0 : s₀.heap.get? D = none) (hd : d.p F o) (nd : ∀ es n, o.data ≠ .dict es n := by intro _ _ h; cases h) : Trans X F₀ σ₀ s₀ F (σ.put D d) s' where
  mono := t.mono
  kp := t.kp
  dom := fun b h => by
    rcases t.dom b h with h | h
    · left
      by_cases e : b = D
      · subst e; rw [MHeap.put_self]; exact Option.some_ne_none _
      · rw [MHeap.put_ne e]; exact h
    · exact .inr h
  newS := fun b q q' => by
    by_cases e : b = D
    · subst e; exact h0
    · rw [MHeap.put_ne e] at q'; exact t.newS b q q'
  newF := t.newF
  st := {
    top := t.st.top
    fz := t.st.fz
    own := fun b x e => by
      by_cases q : b = D
      · subst q; rw [MHeap.put_self] at e; cases e; exact ⟨o, ho, hd⟩
      · rw [MHeap.put_ne q] at e; exact t.st.own b x e
    apart := fun b q => by
      by_cases e : b = D
      · subst e; exact hF
      · rw [MHeap.put_ne e] at q; exact t.st.apart b q
    gens := t.st.gens
    os := t.st.os
    frs := fun f hf => by
      obtain ⟨⟨x, es, n, hx, hdt⟩, h1, h2⟩ := t.st.frs f hf
      refine ⟨⟨x, es, n, hx, hdt⟩, h1, ?_⟩
      rw [MHeap.put_ne (by rintro rfl; rw [ho] at hx; cases hx; exact nd es n hdt)]; exact h2 }
/-- a comprehension whose list may change behind it -/
theorem WE_compM {elt iter : Expr} {x : Str} {px : Pos} {ifs : List Expr} {scope : Scope} {pos : Pos} (ψ : MEnv) (f : MV → Option MV)
    (h : WE X A env iter φ σ (fun it σ₁ => ∃ xs ok, IterOf X A it σ₁ ok xs ∧ ok σ₁ ∧ xs.length ≤ sizeLine ∧ (∀ C, ∀ mv ∈ xs, Elem X A (cEnv scope env C) ifs elt ((x, mv) :: ψ) σ₁ (f mv)) ∧ ∀ D, σ₁ D = none → Q (.ref D) (σ₁.put D (mlist (xs.filterMap f))))) (hψ : SubEnv φ scope env ψ)
    (hc : CompOk env scope x := by exact ⟨by rfl, by rfl, by rfl, by rfl⟩) (hs : ∀ x, foldedSetIterable iter env x = pure x := by intro _; rfl) : WE X A env (.ListComp elt [⟨.Name x px, iter, ifs, 0⟩] scope pos) φ σ Q := by
  intro F s st ev
  rw [eval_ListComp]
  refine wpAny_comprehension_free (use := none) rfl hs (closureFor_ok hc.clos) hc.kind (namesOk_of hc.names) (wpAny_mono (h F s st ev) ?_ fun _ _ x => x)
  rintro v s₁ ⟨F₁, σ₁, it, t₁, hv, xs, ok, hit, hok, hlen, hel, hq⟩
  refine comp_core (RR := fun acc C => compPost X.M A noE none (PostE X F σ s Q) acc C) t₁.st (ev.step t₁.toSince) hit hok hv hlen hc.kind hc.clos hc.tgt hψ hel ?_
  intro D C F' s' items n m hD hV hFD hσD h0D h0C hDC hFC hσC hns tr hfrC
  refine ⟨m, hns, fun h' hs' => ?_⟩
  have ext := hs'.extBut
  have tr2 : Trans X F₁ σ₁ s₁ F' σ₁ { s' with heap := h' } := ⟨tr.toSince.ext (t := s'.toks) ext h0C, tr.st.ext (t := s'.toks) ext hFC hσC hfrC⟩
  have tr3 := tr2.claim (d := mlist (xs.filterMap f)) (ext D _ hDC hD) hFD hσD h0D ⟨items, n, rfl, hV⟩
  exact ⟨_, _, .ref D, t₁.trans tr3, by simp only [MV.ref, VH], hq D hσD⟩
theorem Tr_none {Q : Bool → MHeap → Prop} (h : Q false σ) : WTr X A .none σ Q := by
  rintro F s v st hv; simp only [VH] at hv; subst hv
  exact wpAny_pure ⟨F, σ, .refl st, h⟩
end
end Mine
end
section
open PySem PySem.W PyProof.Rows PySem.Calls
set_option Elab.async false
set_option maxRecDepth 100000
set_option linter.unusedVariables false
set_option linter.unusedSimpArgs false
namespace Mine
def SS.zero (S : SS) : List Int := S.order.filter fun k => decide (S.np k = 0)
def SS.prep (S : SS) (ep : Nat) : SS := { S with ready := some S.zero, pin := some ep }
def adR (ad : Loc → Addr) (D : Addr) : Loc → Addr := fun l => if l = .ready then D else ad l
section
variable {X : Cx} {A : Around} {env : Env} {φ : MEnv} {σ σ' : MHeap} {Q : MV → MHeap → Prop} {ad : Loc → Addr} {S : SS} {r : Int → Nat}
def fZero (ad : Loc → Addr) (S : SS) : MV → Option MV
  | .raw (.ref a) => (S.order.find? fun k => ad (.nd k) == a).bind fun k => if S.np k = 0 then some (.int k) else none
  | _ => none
theorem fZero_at (inj : ∀ l l', live S l → live S l' → ad l = ad l' → l = l') {k : Int} (hk : k ∈ S.order) : fZero ad S (.ref (ad (.nd k))) = if S.np k = 0 then some (.int k) else none := by
  have hf : (S.order.find? fun j => ad (.nd j) == ad (.nd k)) = some k := by
    have h1 : (S.order.find? fun j => ad (.nd j) == ad (.nd k)).isSome = true := by
      rw [List.find?_isSome]; exact ⟨k, hk, by simp⟩
    obtain ⟨j, hj⟩ := Option.isSome_iff_exists.mp h1
    have h2 := List.find?_some hj
    have h3 := List.mem_of_find?_eq_some hj
    have h4 := inj (.nd j) (.nd k) h3 hk (by simpa using h2)
    cases h4; exact hj
  show ((S.order.find? fun j => ad (.nd j) == ad (.nd k)).bind fun k => if S.np k = 0 then some (MV.int k) else none) = _
  rw [hf]; rfl
theorem fZero_map (inj : ∀ l l', live S l → live S l' → ad l = ad l' → l = l') : ((S.order.map fun k => (k, MV.ref (ad (.nd k)))).map fun kv => kv.2).filterMap (fZero ad S) = S.zero.map .int := by
  rw [List.map_map, List.filterMap_map]
  unfold SS.zero
  have : ∀ l : List Int, (∀ k ∈ l, k ∈ S.order) → l.filterMap (fZero ad S ∘ ((fun kv : Int × MV => kv.2) ∘ fun k => (k, MV.ref (ad (.nd k))))) = (l.filter fun k => decide (S.np k = 0)).map .int := by
    intro l
    induction l with
    | nil => intro _; rfl
    | cons k l ih =>
      intro hl
      have e := fZero_at inj (hl k List.mem_cons_self)
      have e' : (fZero ad S ∘ ((fun kv : Int × MV => kv.2) ∘ fun k => (k, MV.ref (ad (.nd k))))) k = if S.np k = 0 then some (MV.int k) else none := e
      rw [List.filterMap_cons, e', ih fun j hj => hl j (List.mem_cons_of_mem _ hj)]
      by_cases h0 : S.np k = 0
      · rw [if_pos h0, List.filter_cons_of_pos (by simpa using h0)]; rfl
      · rw [if_neg h0, List.filter_cons_of_neg (by simpa using h0)]
  exact this S.order fun k hk => hk
theorem setA_rdy {D : Addr} {ep : Nat} (hr : S.ready = none) : setA "_ready_nodes" (.ref D) (attrsOf ad S) = attrsOf (adR ad D) (S.prep ep) := by
  unfold attrsOf SS.prep
  rw [hr]
  rfl
theorem SorterIs.prep (h : SorterIs X σ ad S) (hr : S.ready = none) {ep : Nat} {D : Addr} (hD : σ D = none)
    (e1 : σ' (ad .map) = some (mdict X (some ep) (S.order.map fun k => (k, .ref (ad (.nd k)))))) (e2 : σ' (ad .dict) = some (mattrs (attrsOf (adR ad D) (S.prep ep)))) (e3 : σ' D = some (mlist (S.zero.map .int)))
    (e4 : ∀ b, σ b ≠ none → b ≠ ad .map → b ≠ ad .dict → b ≠ D → σ' b = σ b) : SorterIs X σ' (adR ad D) (S.prep ep) ∧ Grow S ad σ (S.prep ep) (adR ad D) σ' := by
  have lv : ∀ l, live (S.prep ep) l → l = .ready ∨ (live S l ∧ adR ad D l = ad l) := fun l hl => by
    cases l with
    | ready => exact .inl rfl
    | self => exact .inr ⟨trivial, rfl⟩
    | dict => exact .inr ⟨trivial, rfl⟩
    | map => exact .inr ⟨trivial, rfl⟩
    | nd k => exact .inr ⟨hl, rfl⟩
    | ndx k => exact .inr ⟨hl, rfl⟩
    | nl k => exact .inr ⟨hl, rfl⟩
  have ol : ∀ l, live S l → live (S.prep ep) l ∧ adR ad D l = ad l := fun l hl => by
    cases l with
    | ready => exact absurd hr hl
    | self => exact ⟨trivial, rfl⟩
    | dict => exact ⟨trivial, rfl⟩
    | map => exact ⟨trivial, rfl⟩
    | nd k => exact ⟨hl, rfl⟩
    | ndx k => exact ⟨hl, rfl⟩
    | nl k => exact ⟨hl, rfl⟩
  have nD : ∀ l, live S l → ad l ≠ D := fun l hl e => by have := h.at_ l hl; rw [e, hD] at this; cases this
  have adr : adR ad D .ready = D := rfl
  refine ⟨⟨fun l hl => ?_, fun l l' hl hl' e => ?_, h.sys⟩, fun b hb n => ?_, ol, fun l hl => ?_⟩
  · rcases lv l hl with rfl | ⟨h1, h2⟩
    · rw [adr, e3]; rfl
    · rw [h2]
      have ne : σ (ad l) ≠ none := by rw [h.at_ l h1]; exact Option.some_ne_none _
      by_cases m1 : l = .map
      · subst m1; exact e1
      · by_cases m2 : l = .dict
        · subst m2; exact e2
        · rw [e4 _ ne (fun e => m1 (h.inj l .map h1 trivial e)) (fun e => m2 (h.inj l .dict h1 trivial e)) (nD l h1), h.at_ l h1]
          cases l with
          | ready => exact absurd hr h1
          | self => rfl
          | dict => exact absurd rfl m2
          | map => exact absurd rfl m1
          | nd k => rfl
          | ndx k => rfl
          | nl k => rfl
  · rcases lv l hl with rfl | ⟨h1, h2⟩ <;> rcases lv l' hl' with rfl | ⟨h3, h4⟩
    · rfl
    · rw [adr, h4] at e; exact absurd e.symm (nD l' h3)
    · rw [adr, h2] at e; exact absurd e (nD l h1)
    · rw [h2, h4] at e; exact h.inj l l' h1 h3 e
  · exact e4 b n (hb .map trivial) (hb .dict trivial) (by rintro rfl; exact n hD)
  · rcases lv l hl with rfl | h1
    · exact .inr hD
    · exact .inl h1
theorem prepare_spec (hX : X.Ok) (hA : AOk 2 A) (hbl : Below' X A) (hs : SorterIs X σ ad S) (hr : S.ready = none) (hpin : S.pin = none) (hg : Graph S r) (hN : msU S [] ≤ 2000) (hsl : ∀ k, (S.succ k).length ≤ 1000) (hol : S.order.length ≤ 1000)
    (h : ∀ σ' ad' ep, SorterIs X σ' ad' (S.prep ep) → Grow S ad σ (S.prep ep) ad' σ' → Q .none σ') : WCall X A 92 [.ref (ad .self)] σ Q := by
  refine WCall1 hX hA "self" (fn_ts_prepare hX) (fun z v => by kernel_rfl) (fun z => by kernel_rfl) (fun z L => ?_)
  refine WS.addFr ?_
  have hX' := hX.addFr (fEnv (meth 6 3) "TopologicalSorter.prepare" .none 92 z L).locals
  have hs' := hs.addFr (fEnv (meth 6 3) "TopologicalSorter.prepare" .none 92 z L).locals
  have hbl' := hbl.push (st := meth 6 3) (q := "TopologicalSorter.prepare") (d := .none) (a := 92) (z := z) (L := L) rfl
  have hback : ∀ {σ : MHeap} {ad : Loc → Addr} {S : SS}, SorterIs (X.addFr (fEnv (meth 6 3) "TopologicalSorter.prepare" .none 92 z L).locals) σ ad S → SorterIs X σ ad S := fun hs => hs.lessFr
  generalize X.addFr (fEnv (meth 6 3) "TopologicalSorter.prepare" .none 92 z L).locals = Y at hX' hs' hbl' hback ⊢
  refine WS_cons (WS1_if (WB_compare (WE_self hX' hs' rfl (look_rdy0 hr) ac_rdy rfl (WE_none (V_isNot (Tr_bool (WS_nil ?_)))))))
  have hm0 : σ (ad .map) = some (mdict Y none (S.order.map fun k => (k, .ref (ad (.nd k))))) := by
    have := hs'.at_ .map trivial
    rw [show descOf Y ad S .map = mdict Y S.pin (S.order.map fun k => (k, .ref (ad (.nd k)))) from rfl, hpin] at this
    exact this
  refine WS.pin hm0 fun ep => ?_
  have hp1 := hs'.put (S' := { S with pin := some ep }) .map trivial (fun l => by cases l <;> exact Iff.rfl) (fun l' hl' _ => by cases l' <;> first | rfl | exact absurd rfl hl')
  obtain ⟨hs1, hR1⟩ := hp1
  have e0 : descOf Y ad { S with pin := some ep } .map = mdict Y (some ep) (S.order.map fun k => (k, .ref (ad (.nd k)))) := rfl
  rw [e0] at hs1 hR1
  have hm1 : (σ.put (ad .map) (mdict Y (some ep) (S.order.map fun k => (k, .ref (ad (.nd k)))))) (ad .map) = some (mdict Y (some ep) (S.order.map fun k => (k, .ref (ad (.nd k))))) := MHeap.put_self _ _ _
  refine WS_cons (WS1_setattr (WE_compM [] (fZero ad S) ?_ trivial))
  refine WE_bmeth PySem.F.plainAttrs_dict PySem.F.slot_dict_values PySem.F.type_dict_values (WE_self hX' hs1 rfl rfl ac_n2i rfl ⟨mdict_type hm1, WL_nil (B_values hs1.sys hm1 (fun V hV => ?_))⟩)
  have nV : ∀ l, live S l → ad l ≠ V := fun l hl e => by
    have := hs1.at_ l hl; rw [e, hV] at this; cases this
  have hs2 : SorterIs Y ((σ.put (ad .map) (mdict Y (some ep) (S.order.map fun k => (k, .ref (ad (.nd k)))))).put V (mview (ad .map))) ad { S with pin := some ep } := hs1.keep fun l hl => MHeap.put_ne (nV l hl)
  have hm2 : ((σ.put (ad .map) (mdict Y (some ep) (S.order.map fun k => (k, .ref (ad (.nd k)))))).put V (mview (ad .map))) (ad .map) = some (mdict Y (some ep) (S.order.map fun k => (k, .ref (ad (.nd k))))) := by rw [MHeap.put_ne (nV .map trivial)]; exact hm1
  refine ⟨_, _, iter_vals hA.handled (MHeap.put_self _ _ _) hm2, hm2, ?_, ?_, fun D hD => ?_⟩
  · rw [List.length_map, List.length_map]
    have : (1000 : Nat) ≤ sizeLine := by decide
    omega
  · intro C mv hmv
    obtain ⟨kv, hkv, rfl⟩ := List.mem_map.mp hmv
    obtain ⟨k, hk, rfl⟩ := List.mem_map.mp hkv
    have hk2 : live { S with pin := some ep } (.nd k) := hk
    refine WB_compare (WE_attr (WE_name lookup_cons_self (V_slot hX' (hs2.at_ (.nd k) hk2) (hs2.at_ (.ndx k) hk2) (mv := .int (S.np k)) rfl sc_np (WE_int (V_eq (Tr_bool ⟨rfl, ?_⟩))))))
    show match (S.np k == 0) with | true => _ | false => _
    dsimp only
    rw [fZero_at hs.inj hk]
    by_cases h0 : S.np k = 0
    · have : (S.np k == 0) = true := by simpa using h0
      rw [this, if_pos h0]
      exact ⟨_, rfl, WE_attr (WE_name lookup_cons_self (V_slot hX' (hs2.at_ (.nd k) hk2) (hs2.at_ (.ndx k) hk2) (mv := .int k) rfl sc_node ⟨rfl, rfl⟩))⟩
    · have : (S.np k == 0) = false := by simpa using h0
      rw [this, if_neg h0]
  · rw [fZero_map hs.inj]
    have nD : ∀ l, live S l → ad l ≠ D := fun l hl e => by
      have := hs2.at_ l hl; rw [e, hD] at this; cases this
    have hs3 : SorterIs Y ((((σ.put (ad .map) (mdict Y (some ep) (S.order.map fun k => (k, .ref (ad (.nd k)))))).put V (mview (ad .map)))).put D (mlist (S.zero.map .int))) ad { S with pin := some ep } := hs2.keep fun l hl => MHeap.put_ne (nD l hl)
    refine WE_name rfl (Set_attr hX' (hs3.at_ .self trivial) (hs3.at_ .dict trivial) st_rdy (by show 4 ≤ 100; decide) ?_)
    have ea : setA "_ready_nodes" (.ref D) (attrsOf ad { S with pin := some ep }) = attrsOf (adR ad D) (S.prep ep) := setA_rdy (S := S) hr
    show thenS _ _ _ _ _ .next _ ((((σ.put (ad .map) (mdict Y (some ep) (S.order.map fun k => (k, .ref (ad (.nd k)))))).put V (mview (ad .map))).put D (mlist (S.zero.map .int))).put (ad .dict) (mattrs (setA "_ready_nodes" (.ref D) (attrsOf ad { S with pin := some ep }))))
    rw [ea]
    have hDV : D ≠ V := by rintro rfl; rw [MHeap.put_self] at hD; cases hD
    have hDσ : σ D = none := by
      rw [MHeap.put_ne hDV, MHeap.put_ne (Ne.symm (nD .map trivial))] at hD; exact hD
    have hVσ : σ V = none := by
      rw [MHeap.put_ne (Ne.symm (nV .map trivial))] at hV; exact hV
    have mdne : ad .map ≠ ad .dict := fun e => by have := hs.inj .map .dict trivial trivial e; cases this
    have fin := hs'.prep (σ' := ((((σ.put (ad .map) (mdict Y (some ep) (S.order.map fun k => (k, .ref (ad (.nd k)))))).put V (mview (ad .map))).put D (mlist (S.zero.map .int))).put (ad .dict) (mattrs (attrsOf (adR ad D) (S.prep ep))))) hr (ep := ep) hDσ
      (by rw [MHeap.put_ne mdne, MHeap.put_ne (nD .map trivial), MHeap.put_ne (nV .map trivial)]; exact MHeap.put_self _ _ _) (MHeap.put_self _ _ _)
      (by rw [MHeap.put_ne (Ne.symm (nD .dict trivial))]; exact MHeap.put_self _ _ _)
      (fun b hb h1 h2 h3 => by rw [MHeap.put_ne h2, MHeap.put_ne h3, MHeap.put_ne (by rintro rfl; exact hb hVσ), MHeap.put_ne h1])
    obtain ⟨fs, fg⟩ := fin
    refine WS_cons (WS1_assign (WE_meth hX' mc_cycle (fn_ts__find_cycle hX') (x := adR ad D .self) (WE_name rfl ⟨rfl, fs.at_ .self trivial, fs.at_ .dict trivial, attrs_none (by decide) (by decide) (by decide) (by decide), WL_nil (cycle_spec hX' (hA.deeper) hbl' fs rfl (r := r) ⟨hg.up⟩ hN hsl ?_)⟩)))
    intro σ'' hk
    have fs' := fs.keep (σ' := σ'') fun l hl => hk _ (by rw [fs.at_ l hl]; exact Option.some_ne_none _)
    refine WS_cons (WS1_if (WB_value (WE_name rfl (Tr_none (WS_nil (WS_nil ?_))))))
    refine h σ'' (adR ad D) ep (hback fs') ?_
    refine ⟨fun b hb n => ?_, fg.old, fg.new⟩
    have e1 := fg.rest b hb n
    rw [hk b (by rw [e1]; exact n), e1]
end
end Mine
end
section
open PySem PySem.W PyProof.Rows PySem.Calls PyProof.V PySem.SeqAt
set_option Elab.async false
set_option maxRecDepth 100000
set_option linter.unusedVariables false
set_option linter.unusedSimpArgs false
namespace Mine
section
variable {X : Cx} {A : Around} {B : Base} {env : Env} {φ : MEnv} {σ : MHeap} {Q : MV → MHeap → Prop} {F : Fz} {s : Shared}
theorem tup_reads {h : Heap} {a : Addr} {vs : List Value} {ns : List Int} (hl : IsTup h a vs.toArray) (hi : IntsAre vs ns) : Reads h (.ref a) (.tuple (ns.map PyData.int)) [] := by
  obtain ⟨o, ho, hc, n, hd⟩ := hl
  exact Reads.tuple ho hc hd (by simpa using readsAll_of_ints hi)
theorem tup_shaped (ns : List Int) : shaped (.tuple (ns.map PyData.int)) = true := by
  have h1 := W.depthAll_ints ns
  have h2 : PyData.depth (.tuple (ns.map PyData.int)) ≤ 64 := by simp only [PyData.depth]; omega
  show (PyData.canLay0 (.tuple (ns.map PyData.int)) && decide (PyData.depth (.tuple (ns.map PyData.int)) ≤ 64)) = true
  rw [Bool.and_eq_true]
  exact ⟨by simp only [PyData.canLay0]; exact canLayAll0_ints ns, decide_eq_true h2⟩
theorem V_neTup {ns ms : List Int} (hu : A.units + 64 < cLine) (h : Q (.bool (!decide (ns = ms))) σ) : WV2 X A (compareOp .NotEq) (.tup (ns.map .int)) (.tup (ms.map .int)) σ Q := by
  rintro F s v u st hv hv'
  obtain ⟨a, items, n, rfl, hf, hl, hx⟩ := hv.tupAt st
  obtain ⟨b, items2, n2, rfl, hf2, hl2, hx2⟩ := hv'.tupAt st
  refine ne_dataH_same (tup_reads (vs := items.toList) (by simpa using hl) hx.ints) (tup_reads (vs := items2.toList) (by simpa using hl2) hx2.ints) (tup_shaped ns) (tup_shaped ms) hu (by simp only [noMix]; exact noMix_ints ns ms) (by simp only [PySem.Spec.same]; rw [same_ints]; exact .now st (by simp only [VH]) h)
theorem V_eqTup {ns ms : List Int} (hu : A.units + 64 < cLine) (h : Q (.bool (decide (ns = ms))) σ) : WV2 X A (compareOp .Eq) (.tup (ns.map .int)) (.tup (ms.map .int)) σ Q := by
  rintro F s v u st hv hv'
  obtain ⟨a, items, n, rfl, hf, hl, hx⟩ := hv.tupAt st
  obtain ⟨b, items2, n2, rfl, hf2, hl2, hx2⟩ := hv'.tupAt st
  refine eq_dataH_same (tup_reads (vs := items.toList) (by simpa using hl) hx.ints) (tup_reads (vs := items2.toList) (by simpa using hl2) hx2.ints) (tup_shaped ns) (tup_shaped ms) hu (by simp only [noMix]; exact noMix_ints ns ms) (by simp only [PySem.Spec.same]; rw [same_ints]; exact .now st (by simp only [VH]) h)
theorem V_neInts {ns ms : List Int} (hu : A.units + 64 < cLine) (h : Q (.bool (!decide (ns = ms))) σ) : WV2 X A (compareOp .NotEq) (intsMV ns) (intsMV ms) σ Q := by
  rintro F s v u st hv hv'
  obtain ⟨a, items, n, rfl, hf, hl, hx⟩ := VH.listAt st hv
  obtain ⟨b, items2, n2, rfl, hf2, hl2, hx2⟩ := VH.listAt st hv'
  exact ne_intsK (vs := items.toList) (us := items2.toList) (by simpa using hl) hx.ints (by simpa using hl2) hx2.ints hu (.now st (by simp only [VH]) h)
/-- lists of lists of ints -/
def PD (rs : List (List Int)) : List PyData := rs.map fun r => .list (r.map .int)
theorem rows_reads : ∀ {rs : List (List Int)} {vs : List Value}, St X F σ s → VHs F (rs.map intsMV) vs → ∃ as, ReadsAll s.heap vs (PD rs) as
  | [], vs, st, hv => by simp only [List.map_nil, VHs] at hv; subst hv; exact ⟨_, .nil⟩
  | r :: rs, vs, st, hv => by
    simp only [List.map_cons, VHs] at hv
    obtain ⟨v, w, rfl, h1, h2⟩ := hv
    obtain ⟨a, items, n, rfl, hf, hl, hx⟩ := VH.listAt st h1
    obtain ⟨as, h3⟩ := rows_reads st h2
    exact ⟨_, .cons (reads_of_ints (vs := items.toList) (by simpa using hl) hx.ints) h3⟩
theorem PD_canLay : ∀ rs : List (List Int), PyData.canLayAll0 (PD rs) = true
  | [] => by simp [PD, PyData.canLayAll0]
  | r :: rs => by
    have := PD_canLay rs
    unfold PD at this ⊢
    simp [PyData.canLayAll0, PyData.canLay0, canLayAll0_ints, this]
theorem PD_depth : ∀ rs : List (List Int), PyData.depthAll (PD rs) ≤ 2
  | [] => by simp [PD, PyData.depthAll]
  | r :: rs => by
    have := PD_depth rs
    unfold PD at this ⊢
    have h1 := W.depthAll_ints r
    simp only [List.map_cons, PyData.depthAll, PyData.depth]
    omega
/-- rows == [] -/
theorem V_eqNil {rs : List (List Int)} (hu : A.units + 64 < cLine) (h : Q (.bool rs.isEmpty) σ) : WV2 X A (compareOp .Eq) (rowsMV rs) (.list []) σ Q := by
  rintro F s v u st hv hv'
  obtain ⟨a, items, n, rfl, hf, hl, hx⟩ := VH.listAt st hv
  obtain ⟨b, items2, n2, rfl, hf2, hl2, hx2⟩ := VH.listAt st hv'
  obtain ⟨as, hr⟩ := rows_reads st hx
  obtain ⟨o, ho, hc, k, hd⟩ := hl
  obtain ⟨o2, ho2, hc2, k2, hd2⟩ := hl2
  have hr2 : ReadsAll s.heap items2.toList [] [] := by simp only [VHs] at hx2; rw [hx2]; exact .nil
  have r1 : Reads s.heap (.ref a) (.list (PD rs)) (a :: as) := Reads.list ho hc hd hr
  have r2 : Reads s.heap (.ref b) (.list []) (b :: []) := Reads.list ho2 hc2 hd2 hr2
  have sh : shaped (.list (PD rs)) = true := by
    have h1 := PD_depth rs
    have h2 : PyData.depth (.list (PD rs)) ≤ 64 := by simp only [PyData.depth]; omega
    show (PyData.canLay0 (.list (PD rs)) && decide (PyData.depth (.list (PD rs)) ≤ 64)) = true
    rw [Bool.and_eq_true]
    exact ⟨by simp only [PyData.canLay0]; exact PD_canLay rs, decide_eq_true h2⟩
  refine eq_dataH_same r1 r2 sh (by decide) hu (by cases rs <;> rfl) ?_
  have e : PySem.Spec.same (.list (PD rs)) (.list []) = rs.isEmpty := by cases rs <;> rfl
  rw [e]
  exact .now st (by simp only [VH]) h
theorem B_max {ns : List Int} (hA : A.handled = none) (hne : 0 < ns.length) (h : ∀ M, M ∈ ns → (∀ a ∈ ns, a ≤ M) → Q (.int M) σ) : WCv X A (.builtin "max") [intsMV ns] σ Q := by
  rintro F s vs st hv
  simp only [VHs] at hv
  obtain ⟨v, _, rfl, hv, rfl⟩ := hv
  obtain ⟨a, items, n, rfl, hf, hl, hx⟩ := VH.listAt st hv
  have hi := hx.ints
  obtain ⟨xs, e⟩ := hi.allInts.items
  have hns : ns = xs.toList.map (·.1) := by rw [← hi.numsOf, ← nums_intItems, ← e]
  have hsz : 0 < xs.size := by
    have h3 := hne; rw [hns, List.length_map, Array.length_toList] at h3; exact h3
  have e' : items = intItems xs := by rw [← e]
  rw [e'] at hl
  refine max_intList hA hl hsz fun v h' tk hv hk => ?_
  obtain ⟨t, rfl⟩ := intItems_at hv
  obtain ⟨h1, h2⟩ := argBest_gt (numAt xs) (xs.size - 1)
  refine ⟨F, σ, .int _, Trans.grown st hk, by simp only [VH]; exact ⟨t, rfl⟩, h _ ?_ fun a ha => ?_⟩
  · rw [hns, numAt_eq]; exact getD_mem (by rw [List.length_map, Array.length_toList]; omega)
  · rw [hns] at ha
    obtain ⟨j, hj, rfl⟩ := mem_getD ha
    rw [List.length_map, Array.length_toList] at hj
    rw [← numAt_eq]; exact h2 j (by omega)
/-- sorted(tuple of ints) -/
theorem B_sortedT {ns : List Int} (h64 : ns.length < 64) (h : ∀ ns', ns'.Perm ns → ns'.Pairwise (· ≤ ·) → Q (intsMV ns') σ) : WCv X A (.builtin "sorted") [.tup (ns.map .int)] σ Q := by
  rintro F s vs st hv
  simp only [VHs] at hv
  obtain ⟨v, _, rfl, hv, rfl⟩ := hv
  obtain ⟨a, items, n, rfl, hf, hl, hx⟩ := hv.tupAt st
  have hlen : items.toList.length = ns.length := by have := hx.length; simpa using this
  refine Calls.call_function_entry kind_sorted plain_sorted entry_sorted (args_sorted1 _) ?_
  unfold Builtin.«sorted»
  refine wpAny_bind (m := checkCount "sorted" 1 1 _) (wpAny_pure ?_)
  have hsl : items.size ≤ sizeLine := by
    have : (64 : Nat) ≤ sizeLine := by decide
    simp at hlen; omega
  refine wpAny_bind (wpAny_collect_seq a (.inr rfl) (st.fz _ _ hf) rfl rfl (fun h₁ hk₁ => ?_) hsl)
  refine wpAny_bind (wpAny_newList ?_ (by rw [Array.length_toList]; exact hsl))
  have hoL : (h₁.push (seqObj "list" items.toList.toArray 0)).get? h₁.objs.size = some (seqObj "list" items.toList.toArray 0) := Heap.get?_push_size _ rfl
  show wpAny _ _ _ _ _ { s with heap := h₁.push (seqObj "list" items.toList.toArray 0) }
  refine wpAny_bind (wpAny_holding (wpAny_call_entry slot_list_sort ⟨_, hoL, rfl⟩ entry_list_sort (list_sort_tree hoL hx.ints (by rw [hlen]; exact h64) fun out ns' a1 a2 a3 => ⟨_, rfl, ?_⟩) (args_list_sort _)))
  refine wpAny_pure ⟨_, rfl, ?_⟩
  obtain ⟨e, hat⟩ := sortedHeap_at (vs := items.toList) (out := out) hoL
  have hk2 : ∀ b o, s.heap.get? b = some o → (sortedHeap (h₁.push (seqObj "list" items.toList.toArray 0)) h₁.objs.size items.toList out).get? b = some o := fun b o ho => by
    have hb : b < h₁.objs.size := Heap.lt_size (hk₁ b o ho)
    rw [sortedHeap_old (Nat.ne_of_lt hb) (by rw [Heap.size_push]; exact Nat.lt_succ_of_lt hb)]
    exact Heap.get?_push_of_some _ (hk₁ b o ho)
  have hfresh : s.heap.get? h₁.objs.size = none := by
    cases q : s.heap.get? h₁.objs.size with
    | none => rfl
    | some o => exact absurd (Heap.lt_size (hk₁ _ o q)) (Nat.lt_irrefl _)
  have tr := Trans.grownPut (t := s.toks) (o := lobj out e) st hk2 hat hfresh
  refine ⟨_, σ, intsMV ns', tr, ?_, h ns' a2 a3⟩
  unfold intsMV
  simp only [VH]
  exact ⟨_, out, e, rfl, Fz.put_self _ _ _, VHs.ofInts a1⟩
/-- xs[i](args) where the item is a def of the text's -/
theorem WE_callSub {value slice : Expr} {p pos : Pos} {args : List Expr} {a : Addr} {st' : Stmt} {q : Str} {d : Value} (hf : FnAt X a st' q d)
    (hfun : WE X A env (.Subscript value slice p) φ σ (fun v σ₁ => v = .ref a ∧ WL X A env pos args φ σ₁ (fun ms σ₂ => WCall X A a ms σ₂ Q))) (hn : loneStar (backTo pos (starEach args env)) = false := by rfl) :
    WE X A env (.Call (.Subscript value slice p) args [] pos) φ σ Q := by
  intro F s st ev
  show wpAny _ A (eval (.Subscript value slice p) env >>= fun g => callWith pos g [] (backTo pos (starEach args env)) (backToKw pos (keywordEach [] env))) _ _ s
  refine wpAny_bind (wpAny_mono (hfun F s st ev) ?_ fun _ _ x => x)
  rintro v s₁ ⟨F₁, σ₁, mv, t₁, hv, rfl, h₁⟩
  simp only [MV.ref, VH] at hv; subst hv
  obtain ⟨o, doc, pm, an, code, ct, ho, hdat, hcd⟩ := hf
  refine callWith_function (o := o) (fd := fdOf st' q d doc pm an code ct) (evalArgs_sp hn (wpAny_mono (h₁ F₁ s₁ t₁.st (ev.step t₁.toSince)) ?_ fun _ _ x => x))
  rintro vs s₂ ⟨F₂, σ₂, ms, t₂, hm, h₂⟩
  exact ⟨⟨t₂.st.h₀ _ _ ho, hdat⟩, wpAny_mono (WCall.v h₂ F₂ s₂ vs t₂.st hm) (fun _ _ p => p.trans (t₁.trans t₂)) fun _ _ x => x⟩
end
end Mine
end
section
open PySem PySem.W PyProof.Rows PySem.Calls
set_option Elab.async false
set_option maxRecDepth 100000
set_option linter.unusedVariables false
set_option linter.unusedSimpArgs false
namespace Mine
section
variable {X : Cx} {A : Around} {B : Base} {env : Env} {φ : MEnv} {σ : MHeap} {F F' : Fz} {s s₀ : Shared} {Q : MF → MEnv → MHeap → Prop}
/-- x, y = v for a tuple of two -/
theorem Fm.assign2 {x y : Str} {px py pos : Pos} {k : Nat} {a b : MV} {v : Value} (hA : A.handled = none) (f : Fm X B env φ F σ s) (hv : VH F (.tup [a, b]) v) (hx : storable env x = true) (hy : storable env y = true) :
    wpAny X.M A (assign (.Tuple [.Name x px, .Name y py] k pos) env v) (fun _ s' => Fm X B env ((y, b) :: (x, a) :: φ) F σ s') noE s := by
  obtain ⟨t, items, n, rfl, hf, hl, hxs⟩ := VH.tupAt f.st hv
  have hlen : items.size = 2 := by have := hxs.length; simpa using this
  rw [PyProof.Rows.assign_Tuple]
  refine wpAny_bind (wpAny_standAt ?_)
  unfold unpack
  have e1 : (assignEach [.Name x px, .Name y py] env).length = items.size := by rw [hlen]; rfl
  have e2 : (assignEach [.Name x px, .Name y py] env).findIdx? (·.1) = none := rfl
  rw [e1, e2]
  refine wpAny_bind (wpAny_holding (unpackItems_tuple hA hl fun h' he => ?_))
  have hk : ∀ b o, s.heap.get? b = some o → h'.get? b = some o := fun b o ho => he b o (Nat.ne_of_lt (get?_lt ho)) ho
  have f₁ := f.step (Trans.grown (t := s.toks) f.st hk)
  simp only [VHs] at hxs
  obtain ⟨va, _, hva, ha, vb, _, rfl, hb, rfl⟩ := hxs
  rw [hva]
  show wpAny _ A (assignInOrder [assign (.Name x px) env, assign (.Name y py) env] [va, vb]) _ _ _
  unfold assignInOrder
  refine wpAny_bind (wpAny_holding (wpAny_assign_Name (wpAny_mono (f₁.store ha hx) ?_ fun _ _ x => x)))
  intro _ s₂ f₂
  unfold assignInOrder
  refine wpAny_bind (wpAny_holding (wpAny_assign_Name (wpAny_mono (f₂.store hb hy) ?_ fun _ _ x => x)))
  intro _ s₃ f₃
  unfold assignInOrder
  exact wpAny_pure f₃
theorem WS1_assign2 {x y : Str} {px py tpos pos : Pos} {k : Nat} {e : Expr} (hA : A.handled = none) (h : WE X A env e φ σ (fun mv σ₁ => ∃ a b, mv = .tup [a, b] ∧ Q .next ((y, b) :: (x, a) :: φ) σ₁)) (hx : storable env x = true := by rfl) (hy : storable env y = true := by rfl)
    (hs : swapsWithSole [.Tuple [.Name x px, .Name y py] k tpos] e pos.line env = pure false := by rfl) (hw : swappedStores [.Tuple [.Name x px, .Name y py] k tpos] e env = pure none := by rfl) :
    WS1 X A env (.Assign [.Tuple [.Name x px, .Name y py] k tpos] e pos) φ σ Q := by
  intro B F s f
  refine Assign_Tuple (wpAny_mono (h F s f.st f.ev) ?_ fun _ _ x => x) hs hw
  rintro v s₁ ⟨F₁, σ₁, mv, t₁, hv, a, b, rfl, hq⟩
  exact wpAny_mono ((f.step t₁).assign2 hA hv hx hy) (fun _ s' f' => ⟨F₁, σ₁, _, .next, f', rfl, hq⟩) fun _ _ x => x
def LoopQ2 (X : Cx) (A : Around) (env : Env) (x y : Str) (body : List Stmt) (Q : MF → MEnv → MHeap → Prop) : List (MV × MV) → MEnv → MHeap → Prop
  | [], φ, σ => Q .next φ σ
  | (a, b) :: rest, φ, σ => WS X A env body ((y, b) :: (x, a) :: φ) σ (fun mf φ' σ' => match mf with
      | .next => LoopQ2 X A env x y body Q rest φ' σ'
      | .cont => LoopQ2 X A env x y body Q rest φ' σ'
      | .brk => Q .next φ' σ'
      | .ret v => Q (.ret v) φ' σ')
theorem WS1_for2 {x y : Str} {px py tpos : Pos} {k : Nat} {iter : Expr} {body : List Stmt} {pos : Pos} (hA : A.handled = none)
    (h : WE X A env iter φ σ (fun it σ₁ => ∃ ts : List (MV × MV), it = .list (ts.map fun t => .tup [t.1, t.2]) ∧ LoopQ2 X A env x y body Q ts φ σ₁)) (hx : storable env x = true := by rfl) (hy : storable env y = true := by rfl)
    (hs : ∀ x, foldedSetIterable iter env x = pure x := by intro _; rfl) : WS1 X A env (.For (.Tuple [.Name x px, .Name y py] k tpos) iter body [] pos) φ σ Q := by
  intro B F s f
  refine wpAny_For (wpAny_mono (h F s f.st f.ev) ?_ fun _ _ x => x) hs
  rintro v s₁ ⟨F₁, σ₁, it, t₁, hv, ts, rfl, hq⟩
  have f₁ := f.step t₁
  obtain ⟨l, items, n, rfl, hf, hl, hxs⟩ := hv.listAt t₁.st
  refine wpAny_pyIter_list hl ?_
  generalize hI' : s₁.heap.objs.size = I
  have hI : s₁.heap.get? I = none := get?_ge (Nat.le_of_eq hI')
  obtain ⟨hBI, hoI⟩ := f₁.freshB hI
  have hfr := t₁.st.fresh hI
  have hfrI : ∀ f ∈ X.fr, f ≠ I := fun f hf => t₁.st.fr_ne hf hI
  have f₂ : Fm X B env φ F₁ σ₁ { s₁ with heap := s₁.heap.push (liObj l 0) } := f₁.step (Trans.grown (t := s₁.toks) t₁.st fun b o e => Heap.get?_push_of_some _ e)
  have hIt0 : (s₁.heap.push (liObj l 0)).IsListIter I l 0 := ⟨_, by rw [← hI']; exact Heap.get?_push_size _ rfl, rfl, rfl⟩
  refine codeAny_forLoop_any (fun n s => ∃ i F' φ' σ', n = ts.length - i ∧ i ≤ ts.length ∧ s.heap.IsListIter I l i ∧ Fm X B env φ' F' σ' s ∧ F₁.le F' ∧ F' I = none ∧ σ' I = none ∧ LoopQ2 X A env x y body Q (ts.drop i) φ' σ') ?_ ts.length ?_
  · rintro n s ⟨i, F', φ', σ', rfl, hi, hIti, fi, hle, hFI, hσI, hqi⟩
    have hls : s.heap.IsList l items := ⟨_, fi.st.fz _ _ (hle _ _ hf), rfl, _, rfl⟩
    cases hxi : ts[i]? with
    | none =>
      have hil : i = ts.length := Nat.le_antisymm hi (by simpa using hxi)
      subst hil
      have hsz : items.size = ts.length := by have := hxs.length; simpa using this
      refine noE_any (wpAny_pyNext_list_end hA hIti hls (by rw [← hsz]; simp) fun h' hext => ?_)
      dsimp only
      rw [List.drop_length] at hqi
      exact wpAny_execs_nil ⟨F', σ', φ', .next, fi.ext (t := s.toks) hext hFI hσI hBI hoI hfrI, rfl, hqi⟩
    | some ab =>
      obtain ⟨a, b⟩ := ab
      have hilt : i < ts.length := (List.getElem?_eq_some_iff.mp hxi).1
      obtain ⟨v₁, hv₁, hvh₁⟩ := hxs.get (i := i) (m := .tup [a, b]) (by rw [List.getElem?_map, hxi]; rfl)
      refine noE_any (wpAny_pyNext_list_item hIti hls (getElem?_toList ▸ hv₁) fun h₁ hIt₁ hs₁ => ?_)
      dsimp only
      have g₁ : Fm X B env φ' F' σ' { s with heap := h₁ } := fi.ext (t := s.toks) hs₁.extBut hFI hσI hBI hoI hfrI
      obtain ⟨oI, hoIl, _, hdI⟩ := id hIt₁
      have hndI : ∀ es n, oI.data ≠ .dict es n := fun es n h => by rw [hdI] at h; cases h
      obtain ⟨T, itemsT, nT, rfl, hfT, _, _⟩ := VH.tupAt g₁.st (hvh₁.mono hle)
      refine wpAny_letOwnedTupleGo_listiter (s := { s with heap := h₁ }) hIt₁ ?_
      refine noE_any (wpAny_mono (g₁.now.assign2 hA (hvh₁.mono hle) hx hy) ?_ fun _ _ x => x)
      intro _ s₃ g₃
      have hdrop : ts.drop i = (a, b) :: ts.drop (i + 1) := by
        rw [List.drop_eq_getElem_cons hilt]
        have : ts[i] = (a, b) := Option.some.inj ((List.getElem?_eq_getElem hilt).symm.trans hxi)
        rw [this]
      rw [hdrop] at hqi
      have hI₃ : s₃.heap.get? I = some oI := g₃.since.keepX hoI hoIl hσI hndI
      have b₃ := g₁.back g₃
      refine noE_any (wpAny_mono (hqi _ F' s₃ b₃.now) ?_ fun _ _ x => x)
      rintro fl s₄ ⟨F₄, σ₄, φ₄, mf, g₄, hfl, hq₄⟩
      have b₄ := b₃.back g₄
      have hI₄ : s₄.heap.get? I = some oI := g₄.since.keepX hoI hI₃ hσI hndI
      have It₄ : s₄.heap.IsListIter I l (i + 1) := by obtain ⟨o', ho', r⟩ := hIt₁; rw [hoIl] at ho'; cases ho'; exact ⟨_, hI₄, r⟩
      have hF₄ : F₄ I = none := by
        cases q : F₄ I with
        | none => rfl
        | some o => have := g₄.since.newF I hoI hFI hσI (by rw [q]; exact Option.some_ne_none _); rw [hI₃] at this; cases this
      have hσ₄ : σ₄ I = none := by
        cases q : σ₄ I with
        | none => rfl
        | some o => have := g₄.since.newS I hoI hσI (by rw [q]; exact Option.some_ne_none _); rw [hI₃] at this; cases this
      cases mf with
      | next => cases hfl; exact ⟨ts.length - (i + 1), by omega, i + 1, F₄, φ₄, σ₄, rfl, hilt, It₄, b₄, Fz.le_trans hle g₄.since.mono, hF₄, hσ₄, hq₄⟩
      | cont => cases hfl; exact ⟨ts.length - (i + 1), by omega, i + 1, F₄, φ₄, σ₄, rfl, hilt, It₄, b₄, Fz.le_trans hle g₄.since.mono, hF₄, hσ₄, hq₄⟩
      | brk => cases hfl; exact ⟨F₄, σ₄, φ₄, .next, b₄, rfl, hq₄⟩
      | ret mv => obtain ⟨u, rfl, hu⟩ := hfl; exact ⟨F₄, σ₄, φ₄, .ret mv, b₄, ⟨u, rfl, hu⟩, hq₄⟩
  · exact ⟨0, F₁, φ, σ₁, by simp, Nat.zero_le _, hIt0, f₂, Fz.le_refl _, hfr.1, hfr.2, by simpa using hq⟩
end
end Mine
end
section
open PySem PySem.W PyProof.Rows PySem.Calls
set_option Elab.async false
set_option maxRecDepth 100000
set_option linter.unusedVariables false
set_option linter.unusedSimpArgs false
namespace Mine
/-- nothing is known of a node that was not told -/
structure Z (S : SS) : Prop where
  nd : S.order.Nodup
  out : ∀ k, k ∉ S.order → S.np k = 0 ∧ S.succ k = []
theorem Z.zero : Z S0 := ⟨by simp [S0], fun k _ => ⟨rfl, rfl⟩⟩
theorem need_eq {S : SS} (h : Z S) (k : Int) : S.need k = { S with order := if k ∈ S.order then S.order else S.order ++ [k] } := by
  unfold SS.need
  by_cases hk : k ∈ S.order
  · rw [if_pos hk, if_pos hk]
  · rw [if_neg hk, if_neg hk]
    obtain ⟨h1, h2⟩ := h.out k hk
    have e1 : (fun j => if j = k then 0 else S.np j) = S.np := by
      funext j; by_cases e : j = k
      · subst e; simp [h1]
      · simp [e]
    have e2 : (fun j => if j = k then [] else S.succ j) = S.succ := by
      funext j; by_cases e : j = k
      · subst e; simp [h2]
      · simp [e]
    rw [e1, e2]
theorem insert_mem {l : List Int} {k j : Int} : j ∈ (if k ∈ l then l else l ++ [k]) ↔ j ∈ l ∨ j = k := by
  by_cases h : k ∈ l
  · rw [if_pos h]
    constructor
    · exact .inl
    · rintro (h1 | rfl)
      · exact h1
      · exact h
  · rw [if_neg h]; simp
theorem insert_nodup {l : List Int} {k : Int} (h : l.Nodup) : (if k ∈ l then l else l ++ [k]).Nodup := by
  by_cases hk : k ∈ l
  · rw [if_pos hk]; exact h
  · rw [if_neg hk, List.nodup_append]
    exact ⟨h, by simp, fun a ha b hb => by simp at hb; subst hb; rintro rfl; exact hk ha⟩
structure AddTo (S : SS) (k : Int) (ps : List Int) (S' : SS) : Prop where
  z : Z S'
  np : ∀ j, S'.np j = S.np j + if j = k then (ps.length : Int) else 0
  succ : ∀ q, S'.succ q = S.succ q ++ List.replicate (ps.count q) k
  mem : ∀ j, j ∈ S'.order ↔ j ∈ S.order ∨ j = k ∨ j ∈ ps
  ready : S'.ready = S.ready
  passed : S'.passed = S.passed
  fin : S'.fin = S.fin
  pin : S'.pin = S.pin
theorem addPreds {k : Int} : ∀ (ps : List Int) (S : SS), Z S → k ∈ S.order → Z (ps.foldl (SS.addPred k) S) ∧ (∀ j, (ps.foldl (SS.addPred k) S).np j = S.np j) ∧ (∀ q, (ps.foldl (SS.addPred k) S).succ q = S.succ q ++ List.replicate (ps.count q) k) ∧
    (∀ j, j ∈ (ps.foldl (SS.addPred k) S).order ↔ j ∈ S.order ∨ j ∈ ps) ∧ (ps.foldl (SS.addPred k) S).ready = S.ready ∧ (ps.foldl (SS.addPred k) S).passed = S.passed ∧ (ps.foldl (SS.addPred k) S).fin = S.fin ∧ (ps.foldl (SS.addPred k) S).pin = S.pin ∧
    ((∀ p ∈ ps, p ∈ S.order) → (ps.foldl (SS.addPred k) S).order = S.order)
  | [], S, h, hk => by simp [h]
  | p :: ps, S, h, hk => by
    have e : S.addPred k p = { S with order := (if p ∈ S.order then S.order else S.order ++ [p]), succ := fun j => if j = p then S.succ p ++ [k] else S.succ j } := by
      unfold SS.addPred SS.addSucc
      rw [need_eq h]
    have hz : Z (S.addPred k p) := by
      rw [e]
      refine ⟨insert_nodup h.nd, fun j hj => ?_⟩
      have hj' : j ∉ S.order ∧ j ≠ p := by
        have := mt insert_mem.mpr hj
        exact ⟨fun q => this (.inl q), fun q => this (.inr q)⟩
      obtain ⟨h1, h2⟩ := h.out j hj'.1
      exact ⟨h1, by simp [hj'.2, h2]⟩
    have hk' : k ∈ (S.addPred k p).order := by rw [e]; exact insert_mem.mpr (.inl hk)
    obtain ⟨i1, i2, i3, i4, i5, i6, i7, i8, i9⟩ := addPreds ps (S.addPred k p) hz hk'
    simp only [List.foldl_cons]
    refine ⟨i1, fun j => ?_, fun q => ?_, fun j => ?_, ?_, ?_, ?_, ?_, fun hp => ?_⟩
    · rw [i2, e]
    · rw [i3, e]
      show (if q = p then S.succ p ++ [k] else S.succ q) ++ _ = _
      by_cases hq : q = p
      · subst hq
        rw [if_pos rfl, List.count_cons_self, List.replicate_succ]; simp
      · rw [if_neg hq, List.count_cons_of_ne (Ne.symm hq)]
    · rw [i4, e]
      show (j ∈ (if p ∈ S.order then S.order else S.order ++ [p]) ∨ j ∈ ps) ↔ _
      rw [insert_mem, List.mem_cons, or_assoc]
    · rw [i5, e]
    · rw [i6, e]
    · rw [i7, e]
    · rw [i8, e]
    · have h1 : (S.addPred k p).order = S.order := by rw [e]; exact if_pos (hp p List.mem_cons_self)
      rw [i9 (fun x hx => by rw [h1]; exact hp x (List.mem_cons_of_mem _ hx)), h1]
theorem add_to {S : SS} (h : Z S) (k : Int) (ps : List Int) : AddTo S k ps (S.add k ps) ∧ (k ∉ S.order → (∀ p ∈ ps, p ∈ S.order) → (S.add k ps).order = S.order ++ [k]) := by
  have e : (S.need k).setNp k ((S.need k).np k + ps.length) = { S with order := (if k ∈ S.order then S.order else S.order ++ [k]), np := fun j => if j = k then S.np k + ps.length else S.np j } := by
    rw [need_eq h]; rfl
  have hk : k ∈ ((S.need k).setNp k ((S.need k).np k + ps.length)).order := by rw [e]; exact insert_mem.mpr (.inr rfl)
  have hz : Z ((S.need k).setNp k ((S.need k).np k + ps.length)) := by
    rw [e]
    refine ⟨insert_nodup h.nd, fun j hj => ?_⟩
    have hj' : j ∉ S.order ∧ j ≠ k := by
      have := mt insert_mem.mpr hj
      exact ⟨fun q => this (.inl q), fun q => this (.inr q)⟩
    obtain ⟨h1, h2⟩ := h.out j hj'.1
    exact ⟨by simp [hj'.2, h1], h2⟩
  obtain ⟨i1, i2, i3, i4, i5, i6, i7, i8, i9⟩ := addPreds ps _ hz hk
  refine ⟨⟨i1, fun j => ?_, fun q => ?_, fun j => ?_, ?_, ?_, ?_, ?_⟩, fun hn hp => ?_⟩
  · show (ps.foldl (SS.addPred k) _).np j = _
    rw [i2, e]
    show (if j = k then S.np k + ps.length else S.np j) = _
    by_cases hj : j = k
    · subst hj; simp
    · simp [hj]
  · show (ps.foldl (SS.addPred k) _).succ q = _
    rw [i3, e]
  · show j ∈ (ps.foldl (SS.addPred k) _).order ↔ _
    rw [i4, e]
    show (j ∈ (if k ∈ S.order then S.order else S.order ++ [k]) ∨ j ∈ ps) ↔ _
    rw [insert_mem, or_assoc]
  · show (ps.foldl (SS.addPred k) _).ready = _; rw [i5, e]
  · show (ps.foldl (SS.addPred k) _).passed = _; rw [i6, e]
  · show (ps.foldl (SS.addPred k) _).fin = _; rw [i7, e]
  · show (ps.foldl (SS.addPred k) _).pin = _; rw [i8, e]
  · show (ps.foldl (SS.addPred k) _).order = _
    have e2 : ((S.need k).setNp k ((S.need k).np k + ps.length)).order = S.order ++ [k] := by rw [e]; exact if_neg hn
    rw [i9 (fun p hp' => by rw [e2]; exact List.mem_append_left _ (hp p hp')), e2]
end Mine
end
section
open PySem PySem.W PyProof.Rows PySem.Calls
set_option Elab.async false
set_option maxRecDepth 100000
set_option linter.unusedVariables false
set_option linter.unusedSimpArgs false
namespace Mine
theorem decs_rep {p : Int} : ∀ (c : Nat) (S : SS) (rl : List Int), (0 < c → (c : Int) ≤ S.np p) → S.ready = some rl →
    (((List.replicate c p).foldl SS.dec S).np p = S.np p - c ∧ (∀ q, q ≠ p → ((List.replicate c p).foldl SS.dec S).np q = S.np q) ∧ ((List.replicate c p).foldl SS.dec S).ready = some (rl ++ if 0 < c ∧ S.np p - c = 0 then [p] else []))
  | 0, S, rl, h, hr => by simp [hr]
  | c + 1, S, rl, h, hr => by
    rw [List.replicate_succ, List.foldl_cons]
    have h1 := h (Nat.succ_pos c)
    have np1 : (S.dec p).np p = S.np p - 1 := by unfold SS.dec; split <;> simp [SS.push, SS.setNp]
    have np2 : ∀ q, q ≠ p → (S.dec p).np q = S.np q := fun q hq => by unfold SS.dec; split <;> simp [SS.push, SS.setNp, hq]
    by_cases hc : c = 0
    · subst hc
      have e : S.dec p = if S.np p - 1 = 0 then (S.setNp p (S.np p - 1)).push p else S.setNp p (S.np p - 1) := rfl
      refine ⟨?_, ?_, ?_⟩
      · show (S.dec p).np p = _; rw [np1]; simp
      · exact np2
      · show (S.dec p).ready = _
        rw [e]
        by_cases h0 : S.np p - 1 = 0
        · rw [if_pos h0]
          show (S.ready.map (· ++ [p])) = _
          rw [hr]; simp; omega
        · rw [if_neg h0]
          show S.ready = _
          rw [hr]; simp; omega
    · have hne : ¬ (S.np p - 1 = 0) := by omega
      have hr1 : (S.dec p).ready = some rl := by unfold SS.dec; rw [if_neg hne]; exact hr
      obtain ⟨i1, i2, i3⟩ := decs_rep c (S.dec p) rl (fun _ => by rw [np1]; omega) hr1
      refine ⟨by rw [i1, np1]; push_cast; omega, fun q hq => by rw [i2 q hq, np2 q hq], ?_⟩
      rw [i3, np1]
      congr 2
      have : (0 < c ∧ S.np p - 1 - (c : Int) = 0) ↔ (0 < c + 1 ∧ S.np p - ((c + 1 : Nat) : Int) = 0) := by push_cast; omega
      simp only [this]
theorem decs_blocks {c : Int → Nat} : ∀ (L : List Int) (S : SS) (rl : List Int), L.Nodup → (∀ p ∈ L, 0 < c p → (c p : Int) ≤ S.np p) → S.ready = some rl →
    ((∀ p ∈ L, ((L.flatMap fun p => List.replicate (c p) p).foldl SS.dec S).np p = S.np p - c p) ∧ (∀ p, p ∉ L → ((L.flatMap fun p => List.replicate (c p) p).foldl SS.dec S).np p = S.np p) ∧
      ((L.flatMap fun p => List.replicate (c p) p).foldl SS.dec S).ready = some (rl ++ L.filter fun p => decide (0 < c p ∧ S.np p - c p = 0)))
  | [], S, rl, _, _, hr => by simp [hr]
  | p :: L, S, rl, hn, hb, hr => by
    rw [List.nodup_cons] at hn
    rw [List.flatMap_cons, List.foldl_append]
    obtain ⟨a1, a2, a3⟩ := decs_rep (p := p) (c p) S rl (hb p List.mem_cons_self) hr
    have ne : ∀ q ∈ L, q ≠ p := fun q hq e => hn.1 (e ▸ hq)
    obtain ⟨b1, b2, b3⟩ := decs_blocks (c := c) L ((List.replicate (c p) p).foldl SS.dec S) _ hn.2 (fun q hq h => by rw [a2 q (ne q hq)]; exact hb q (List.mem_cons_of_mem _ hq) h) a3
    refine ⟨fun q hq => ?_, fun q hq => ?_, ?_⟩
    · rcases List.mem_cons.mp hq with rfl | hq
      · rw [b2 q hn.1, a1]
      · rw [b1 q hq, a2 q (ne q hq)]
    · rw [b2 q (fun h => hq (List.mem_cons_of_mem _ h)), a2 q (fun e => hq (e ▸ List.mem_cons_self))]
    · rw [b3]
      have e : (L.filter fun q => decide (0 < c q ∧ ((List.replicate (c p) p).foldl SS.dec S).np q - (c q : Int) = 0)) = L.filter fun q => decide (0 < c q ∧ S.np q - (c q : Int) = 0) := by
        apply List.filter_congr
        intro q hq
        rw [a2 q (ne q hq)]
      rw [e]
      by_cases h0 : 0 < c p ∧ S.np p - (c p : Int) = 0
      · rw [if_pos h0, List.filter_cons_of_pos (by simpa using h0)]; simp
      · rw [if_neg h0, List.filter_cons_of_neg (by simpa using h0)]; simp
/-- Kahn's invariants -/
structure KI (ah : Int → List Int) (L : List Int) (S : SS) (read given rl : List Int) : Prop where
  ord : ∀ p, p ∈ S.order ↔ p ∈ L
  nd : L.Nodup
  succ : ∀ q, S.succ q = L.flatMap fun p => List.replicate ((ah p).count q) p
  ahL : ∀ p ∈ L, ∀ a ∈ ah p, a ∈ L
  np : ∀ p ∈ L, S.np p = if p ∈ read then -2 else if p ∈ given then -1 else (((ah p).filter fun a => decide (a ∉ read)).length : Int)
  rg : ∀ p ∈ read, p ∈ given
  gL : ∀ p ∈ given, p ∈ L ∧ ∀ a ∈ ah p, a ∈ read
  gnd : given.Nodup
  rnd : read.Nodup
  passed : S.passed = given.length
  fin : S.fin = read.length
  rdy : S.ready = some rl
  rlnd : rl.Nodup
  rlm : ∀ p, p ∈ rl ↔ p ∈ L ∧ p ∉ given ∧ ∀ a ∈ ah p, a ∈ read
section
variable {ah : Int → List Int} {L : List Int} {S : SS} {read given rl : List Int}
theorem outs_np : ∀ (ks : List Int) (S : SS) (p : Int), (S.outs ks).np p = if p ∈ ks then -1 else S.np p
  | [], S, p => by simp [SS.outs]
  | k :: ks, S, p => by
    show ((S.setNp k (-1)).outs ks).np p = _
    rw [outs_np ks]
    by_cases h : p ∈ ks
    · simp [h]
    · by_cases e : p = k
      · subst e; simp [h, SS.setNp]
      · simp [h, e, SS.setNp]
theorem outs_succ : ∀ (ks : List Int) (S : SS), (S.outs ks).succ = S.succ
  | [], S => rfl
  | k :: ks, S => outs_succ ks (S.setNp k (-1))
theorem outs_fin : ∀ (ks : List Int) (S : SS), (S.outs ks).fin = S.fin
  | [], S => rfl
  | k :: ks, S => outs_fin ks (S.setNp k (-1))
theorem outs_pin : ∀ (ks : List Int) (S : SS), (S.outs ks).pin = S.pin
  | [], S => rfl
  | k :: ks, S => outs_pin ks (S.setNp k (-1))
theorem KI.rlL (h : KI ah L S read given rl) : ∀ p ∈ rl, p ∈ L := fun p hp => ((h.rlm p).mp hp).1
/-- get_ready -/
theorem KI.out (h : KI ah L S read given rl) : KI ah L (S.afterReady rl) read (given ++ rl) [] := by
  refine ⟨fun p => ?_, h.nd, fun q => ?_, h.ahL, fun p hp => ?_, fun p hp => List.mem_append_left _ (h.rg p hp), fun p hp => ?_, ?_, h.rnd, ?_, ?_, rfl, by simp, fun p => ?_⟩
  · show p ∈ (S.outs rl).order ↔ _
    rw [SS.outs_order]; exact h.ord p
  · show (S.outs rl).succ q = _
    rw [outs_succ]; exact h.succ q
  · show (S.outs rl).np p = _
    rw [outs_np, h.np p hp]
    by_cases h1 : p ∈ rl
    · have h2 := ((h.rlm p).mp h1).2.1
      have h3 : p ∉ read := fun q => h2 (h.rg p q)
      simp [h1, h3]
    · simp [h1]
  · rcases List.mem_append.mp hp with hp | hp
    · exact h.gL p hp
    · obtain ⟨a, b, c⟩ := (h.rlm p).mp hp; exact ⟨a, c⟩
  · rw [List.nodup_append]
    exact ⟨h.gnd, h.rlnd, fun a ha b hb e => ((h.rlm b).mp hb).2.1 (e ▸ ha)⟩
  · show S.passed + (rl.length : Int) = _
    rw [h.passed]; simp
  · show (S.outs rl).fin = _
    rw [outs_fin]; exact h.fin
  · constructor
    · intro hp; cases hp
    · rintro ⟨h1, h2, h3⟩
      rw [List.mem_append, not_or] at h2
      exact absurd ((h.rlm p).mpr ⟨h1, h2.1, h3⟩) h2.2
theorem filter_count {l : List Int} {g : Int} {read : List Int} (hg : g ∉ read) : (l.filter fun a => decide (a ∉ read ++ [g])).length + l.count g = (l.filter fun a => decide (a ∉ read)).length := by
  induction l with
  | nil => rfl
  | cons a l ih =>
    by_cases e : a = g
    · subst e
      rw [List.filter_cons_of_neg (by simp), List.filter_cons_of_pos (by simpa using hg), List.count_cons_self, List.length_cons]; omega
    · rw [List.count_cons_of_ne e]
      by_cases hr : a ∈ read
      · rw [List.filter_cons_of_neg (by simp [hr]), List.filter_cons_of_neg (by simp [hr])]; exact ih
      · rw [List.filter_cons_of_pos (by simp [hr, e]), List.filter_cons_of_pos (by simp [hr])]; simp only [List.length_cons]; omega
/-- done of one that is out -/
theorem KI.done (h : KI ah L S read given rl) {g : Int} (hg : g ∈ given) (hgr : g ∉ read) :
    KI ah L (S.done1 g) (read ++ [g]) given (rl ++ L.filter fun p => decide (g ∈ ah p ∧ p ∉ given ∧ ∀ a ∈ ah p, a ∈ read ++ [g])) ∧ g ∈ S.order ∧ S.np g = -1 ∧ (∀ j ∈ S.succ g, j ∈ S.order) := by
  have hgL := (h.gL g hg).1
  have ng : ∀ p ∈ L, 0 < (ah p).count g → p ∉ given := fun p hp hc hpg => by
    have := (h.gL p hpg).2 g (List.count_pos_iff.mp hc)
    exact hgr this
  have np0 : ∀ p, (S.setNp g (-2)).np p = if p = g then -2 else S.np p := fun p => rfl
  have gg : (ah g).count g = 0 := by
    rcases Nat.eq_zero_or_pos ((ah g).count g) with h1 | h1
    · exact h1
    · exact absurd hg (ng g hgL h1)
  have bnd : ∀ p ∈ L, 0 < (ah p).count g → ((ah p).count g : Int) ≤ (S.setNp g (-2)).np p := fun p hp hc => by
    have hpg := ng p hp hc
    have hpr : p ∉ read := fun q => hpg (h.rg p q)
    have hne : p ≠ g := by rintro rfl; exact hpg hg
    rw [np0, if_neg hne, h.np p hp, if_neg hpr, if_neg hpg]
    have := filter_count (l := ah p) hgr
    omega
  have hb := decs_blocks (c := fun p => (ah p).count g) L (S.setNp g (-2)) rl h.nd bnd h.rdy
  rw [← h.succ g] at hb
  obtain ⟨b1, b2, b3⟩ := hb
  have npd : ∀ p, (S.done1 g).np p = ((S.succ g).foldl SS.dec (S.setNp g (-2))).np p := fun p => rfl
  refine ⟨⟨fun p => ?_, h.nd, fun q => ?_, h.ahL, fun p hp => ?_, fun p hp => ?_, fun p hp => ?_, h.gnd, ?_, ?_, ?_, ?_, ?_, fun p => ?_⟩, (h.ord g).mpr hgL, by rw [h.np g hgL, if_neg hgr, if_pos hg], fun j hj => ?_⟩
  · rw [SS.done1_order]; exact h.ord p
  · rw [SS.done1_succ]; exact h.succ q
  · rw [npd, b1 p hp, np0]
    by_cases e : p = g
    · subst e
      rw [if_pos rfl, gg, if_pos (by simp)]; rfl
    · rw [if_neg e, h.np p hp]
      by_cases hpr : p ∈ read
      · have hc : (ah p).count g = 0 := by
          rcases Nat.eq_zero_or_pos ((ah p).count g) with h1 | h1
          · exact h1
          · exact absurd (h.rg p hpr) (ng p hp h1)
        rw [if_pos hpr, if_pos (by simp [hpr]), hc]; rfl
      · have hn2 : p ∉ read ++ [g] := by rw [List.mem_append, List.mem_singleton, not_or]; exact ⟨hpr, e⟩
        by_cases hpg : p ∈ given
        · have hc : (ah p).count g = 0 := by
            rcases Nat.eq_zero_or_pos ((ah p).count g) with h1 | h1
            · exact h1
            · exact absurd hpg (ng p hp h1)
          rw [hc]
          simp only [hpr, hn2, hpg, if_true, if_false]; rfl
        · simp only [hpr, hn2, hpg, if_false]
          have := filter_count (l := ah p) hgr
          omega
  · rcases List.mem_append.mp hp with hp | hp
    · exact h.rg p hp
    · simp only [List.mem_singleton] at hp; subst hp; exact hg
  · obtain ⟨h1, h2⟩ := h.gL p hp
    exact ⟨h1, fun a ha => List.mem_append_left _ (h2 a ha)⟩
  · rw [List.nodup_append]
    exact ⟨h.rnd, by simp, fun a ha b hb => by simp at hb; subst hb; rintro rfl; exact hgr ha⟩
  · rw [SS.done1_passed]; exact h.passed
  · rw [SS.done1_fin, h.fin]; simp
  · show ((S.succ g).foldl SS.dec (S.setNp g (-2))).ready = _
    rw [b3]
    congr 2
    apply List.filter_congr
    intro p hp
    simp only [decide_eq_decide]
    constructor
    · rintro ⟨h1, h2⟩
      have hpg := ng p hp h1
      have hpr : p ∉ read := fun q => hpg (h.rg p q)
      have hne : p ≠ g := by rintro rfl; exact hpg hg
      refine ⟨List.count_pos_iff.mp h1, hpg, fun a ha => ?_⟩
      rw [np0, if_neg hne, h.np p hp, if_neg hpr, if_neg hpg] at h2
      have h3 := filter_count (l := ah p) hgr
      have h4 : ((ah p).filter fun a => decide (a ∉ read ++ [g])).length = 0 := by omega
      have h5 := List.length_eq_zero_iff.mp h4
      rw [List.filter_eq_nil_iff] at h5
      have := h5 a ha
      simp only [decide_eq_true_eq, Decidable.not_not] at this
      exact this
    · rintro ⟨h1, h2, h3⟩
      have h1' := List.count_pos_iff.mpr h1
      have hpr : p ∉ read := fun q => h2 (h.rg p q)
      have hne : p ≠ g := by rintro rfl; exact h2 hg
      refine ⟨h1', ?_⟩
      rw [np0, if_neg hne, h.np p hp, if_neg hpr, if_neg h2]
      have h4 := filter_count (l := ah p) hgr
      have h5 : ((ah p).filter fun a => decide (a ∉ read ++ [g])) = [] := by
        rw [List.filter_eq_nil_iff]
        intro a ha
        simp only [decide_eq_true_eq, Decidable.not_not]
        exact h3 a ha
      rw [h5] at h4
      simp only [List.length_nil, Nat.zero_add] at h4
      omega
  · rw [List.nodup_append]
    refine ⟨h.rlnd, h.nd.filter _, fun a ha b hb e => ?_⟩
    subst e
    have h1 := (h.rlm a).mp ha
    have h2 := (List.mem_filter.mp hb).2
    simp only [decide_eq_true_eq] at h2
    exact hgr (h1.2.2 g h2.1)
  · rw [List.mem_append, h.rlm, List.mem_filter]
    simp only [decide_eq_true_eq]
    constructor
    · rintro (⟨h1, h2, h3⟩ | ⟨h1, h2, h3, h4⟩)
      · exact ⟨h1, h2, fun a ha => List.mem_append_left _ (h3 a ha)⟩
      · exact ⟨h1, h3, h4⟩
    · rintro ⟨h1, h2, h3⟩
      by_cases hm : g ∈ ah p
      · exact .inr ⟨h1, hm, h2, h3⟩
      · refine .inl ⟨h1, h2, fun a ha => ?_⟩
        rcases List.mem_append.mp (h3 a ha) with h4 | h4
        · exact h4
        · simp only [List.mem_singleton] at h4; subst h4; exact absurd ha hm
  · rw [h.succ g] at hj
    obtain ⟨p, hp, hjp⟩ := List.mem_flatMap.mp hj
    rw [List.eq_of_mem_replicate hjp]
    exact (h.ord p).mpr hp
end
end Mine
end
section
open PySem PySem.W PyProof.Rows PySem.Calls
set_option Elab.async false
set_option maxRecDepth 100000
set_option linter.unusedVariables false
set_option linter.unusedSimpArgs false
namespace Mine
theorem filterMap_same {α β : Type} {f g : α → Option β} : ∀ {l : List α}, (∀ a ∈ l, f a = g a) → l.filterMap f = l.filterMap g
  | [], _ => rfl
  | a :: l, h => by
    rw [List.filterMap_cons, List.filterMap_cons, h a List.mem_cons_self, filterMap_same fun b hb => h b (List.mem_cons_of_mem _ hb)]
def places : List Int := [0, 1, 2, 3, 4, 5, 6, 7]
def inRow (cov : List (List Int)) (k : Nat) (p : Int) : Bool := decide ((k : Int) ∈ covAt cov p)
def rowOf (cov : List (List Int)) (k : Nat) : List Int := places.filter (inRow cov k)
def before (row : List Int) (p : Int) : List Int := row.takeWhile fun q => decide (q ≠ p)
def ah (cov : List (List Int)) (p : Int) : List Int := (covAt cov p).filterMap fun k => (before (rowOf cov k.toNat) p).getLast?
theorem places_nd : places.Nodup := by decide
theorem places_lt : places.Pairwise (· < ·) := by decide
theorem places_mem {p : Int} : p ∈ places ↔ 0 ≤ p ∧ p < 8 := by
  unfold places
  simp only [List.mem_cons, List.not_mem_nil, or_false]
  omega
theorem row_nd (cov : List (List Int)) (k : Nat) : (rowOf cov k).Nodup := List.Pairwise.filter _ places_nd
theorem row_lt (cov : List (List Int)) (k : Nat) : (rowOf cov k).Pairwise (· < ·) := List.Pairwise.filter _ places_lt
theorem row_mem {cov : List (List Int)} {k : Nat} {p : Int} : p ∈ rowOf cov k ↔ p ∈ places ∧ inRow cov k p = true := List.mem_filter
theorem before_of {A B : List Int} {p : Int} (h : p ∉ A) : before (A ++ p :: B) p = A := by
  unfold before
  rw [List.takeWhile_append_of_pos (fun a ha => by simp; rintro rfl; exact h ha)]
  simp
theorem split_mem {l : List Int} {p : Int} (h : p ∈ l) (hn : l.Nodup) : ∃ B, l = before l p ++ p :: B ∧ p ∉ before l p := by
  obtain ⟨A, B, rfl⟩ := List.append_of_mem h
  have hA : p ∉ A := by
    intro hp
    have := (List.nodup_append.mp hn).2.2 p hp p (by simp)
    exact this rfl
  rw [before_of hA]
  exact ⟨B, rfl, hA⟩
theorem ah_mem {cov : List (List Int)} {p a : Int} (hc : CovOk cov) (hp : p ∈ places) : a ∈ ah cov p ↔ ∃ k, k < 4 ∧ inRow cov k p = true ∧ (before (rowOf cov k) p).getLast? = some a := by
  unfold ah
  rw [List.mem_filterMap]
  obtain ⟨p0, p1⟩ := places_mem.mp hp
  have hcp := hc.at p0 p1
  constructor
  · rintro ⟨k, hk, h⟩
    obtain ⟨k0, k1⟩ := hc.ks _ hcp.2 k hk
    refine ⟨k.toNat, by omega, ?_, h⟩
    unfold inRow
    rw [Int.toNat_of_nonneg k0]; exact decide_eq_true hk
  · rintro ⟨k, hk, h1, h2⟩
    exact ⟨(k : Int), of_decide_eq_true h1, by simpa using h2⟩
theorem ah_lt {cov : List (List Int)} {p a : Int} (hc : CovOk cov) (hp : p ∈ places) (ha : a ∈ ah cov p) : a ∈ places ∧ a < p := by
  obtain ⟨k, hk, h1, h2⟩ := (ah_mem hc hp).mp ha
  have hpr : p ∈ rowOf cov k := row_mem.mpr ⟨hp, h1⟩
  obtain ⟨B, e, _⟩ := split_mem hpr (row_nd cov k)
  have hb : a ∈ before (rowOf cov k) p := List.mem_of_getLast? h2
  have har : a ∈ rowOf cov k := by rw [e]; exact List.mem_append_left _ hb
  refine ⟨(row_mem.mp har).1, ?_⟩
  have := row_lt cov k
  rw [e] at this
  exact (List.pairwise_append.mp this).2.2 a hb p (by simp)
/-- what _law_ties makes of an order in which each row stands as it should -/
theorem ties_of {cov : List (List Int)} (hc : CovOk cov) {seq : List Int} (hnd : seq.Nodup) (hin : ∀ p ∈ seq, p ∈ places) (hrow : ∀ k, k < 4 → seq.filter (inRow cov k) = rowOf cov k) :
    ties cov seq = seq.map fun p => (p, ah cov p) := by
  have go : ∀ (rest done : List Int) (tops : List Int), seq = done ++ rest → tops.length = 4 → (∀ k, k < 4 → tops.getD k 0 = ((done.filter (inRow cov k)).getLast?).getD (-1)) → tiesGo cov tops rest = rest.map fun p => (p, ah cov p) := by
    intro rest
    induction rest with
    | nil => intro done tops _ _ _; rfl
    | cons p rest ih =>
      intro done tops hs hl ht
      have hp : p ∈ places := hin p (by rw [hs]; simp)
      obtain ⟨p0, p1⟩ := places_mem.mp hp
      have hcp := hc.at p0 p1
      have hpd : p ∉ done := by
        intro h
        rw [hs] at hnd
        exact (List.nodup_append.mp hnd).2.2 p h p (by simp) rfl
      have e1 : aheadOf cov tops p = ah cov p := by
        unfold aheadOf ah
        apply filterMap_same
        intro k hk
        obtain ⟨k0, k1⟩ := hc.ks _ hcp.2 k hk
        have hin' : inRow cov k.toNat p = true := by
          unfold inRow; rw [Int.toNat_of_nonneg k0]; exact decide_eq_true hk
        have hr : rowOf cov k.toNat = done.filter (inRow cov k.toNat) ++ p :: rest.filter (inRow cov k.toNat) := by
          rw [← hrow k.toNat (by omega), hs, List.filter_append, List.filter_cons_of_pos hin']
        have hb : before (rowOf cov k.toNat) p = done.filter (inRow cov k.toNat) := by
          rw [hr]; exact before_of fun h => hpd (List.mem_filter.mp h).1
        rw [hb, ht k.toNat (by omega)]
        cases hg : (done.filter (inRow cov k.toNat)).getLast? with
        | none => simp
        | some a =>
          have ha := (List.mem_filter.mp (List.mem_of_getLast? hg)).1
          have := (places_mem.mp (hin a (by rw [hs]; exact List.mem_append_left _ ha))).1
          simp [this]
      show (p, aheadOf cov tops p) :: tiesGo cov (nextTops cov tops p) rest = _
      rw [e1, ih (done ++ [p]) (nextTops cov tops p) (by rw [hs]; simp) (by simp [nextTops])]
      · rfl
      · intro k hk
        unfold nextTops
        rw [List.getD_eq_getElem?_getD, List.getElem?_map, List.getElem?_range hk]
        simp only [Option.map_some, Option.getD_some]
        rw [List.filter_append]
        have hany : (covAt cov p).any (· == (k : Int)) = inRow cov k p := by
          unfold inRow
          rw [Bool.eq_iff_iff, List.any_eq_true, decide_eq_true_eq]
          constructor
          · rintro ⟨x, hx, hxe⟩; have := beq_iff_eq.mp hxe; subst this; exact hx
          · intro h; exact ⟨_, h, by simp⟩
        rw [hany]
        cases hi : inRow cov k p with
        | true => rw [List.filter_cons_of_pos hi]; simp
        | false =>
          rw [List.filter_cons_of_neg (by rw [hi]; decide)]
          simp only [List.filter_nil, List.append_nil, Bool.false_eq_true, if_false]
          exact ht k hk
  exact go seq [] [-1, -1, -1, -1] rfl rfl (fun k hk => by
    have : k = 0 ∨ k = 1 ∨ k = 2 ∨ k = 3 := by omega
    rcases this with rfl | rfl | rfl | rfl <;> rfl)
theorem places_rows (cov : List (List Int)) : ∀ k, k < 4 → places.filter (inRow cov k) = rowOf cov k := fun _ _ => rfl
/-- each row is read from its front -/
def RowInv (cov : List (List Int)) (read : List Int) : Prop := ∀ k, k < 4 → rowOf cov k = read.filter (inRow cov k) ++ (rowOf cov k).filter fun p => decide (p ∉ read)
theorem RowInv.nil (cov : List (List Int)) : RowInv cov [] := fun k _ => by
  have e : (rowOf cov k).filter (fun p => decide (p ∉ ([] : List Int))) = rowOf cov k := List.filter_eq_self.mpr (by simp)
  rw [e]; rfl
theorem row_before {cov : List (List Int)} {read : List Int} (hi : RowInv cov read) {k : Nat} (hk : k < 4) {p : Int} (hp : p ∈ rowOf cov k) (hr : p ∈ read) : ∀ a ∈ before (rowOf cov k) p, a ∈ read := by
  intro a ha
  have e := hi k hk
  have hpA : p ∈ read.filter (inRow cov k) := List.mem_filter.mpr ⟨hr, (row_mem.mp hp).2⟩
  obtain ⟨A, B, hAB⟩ := List.append_of_mem hpA
  have hn := row_nd cov k
  rw [e, hAB] at hn
  have hA : p ∉ A := by
    intro h
    rw [List.append_assoc] at hn
    exact (List.nodup_append.mp hn).2.2 p h p (by simp) rfl
  have e2 : before (rowOf cov k) p = A := by
    rw [e, hAB, List.append_assoc, List.cons_append]
    exact before_of hA
  rw [e2] at ha
  have : a ∈ read.filter (inRow cov k) := by rw [hAB]; exact List.mem_append_left _ ha
  exact (List.mem_filter.mp this).1
/-- one whose places ahead are read is the first of what is left of its rows -/
theorem first_left {cov : List (List Int)} (hc : CovOk cov) {read : List Int} (hi : RowInv cov read) {p : Int} (hp : p ∈ places) (hr : p ∉ read) (ha : ∀ a ∈ ah cov p, a ∈ read) {k : Nat} (hk : k < 4) (hin : inRow cov k p = true) :
    ∃ B, rowOf cov k = read.filter (inRow cov k) ++ p :: B ∧ ((rowOf cov k).filter fun p => decide (p ∉ read)) = p :: B := by
  have hpr : p ∈ rowOf cov k := row_mem.mpr ⟨hp, hin⟩
  obtain ⟨B, e, hpb⟩ := split_mem hpr (row_nd cov k)
  have hall : ∀ a ∈ before (rowOf cov k) p, a ∈ read := by
    cases hg : (before (rowOf cov k) p).getLast? with
    | none =>
      rw [List.getLast?_eq_none_iff] at hg
      rw [hg]; intro a h; cases h
    | some b =>
      have hb : b ∈ read := ha b ((ah_mem hc hp).mpr ⟨k, hk, hin, hg⟩)
      obtain ⟨D, hD⟩ := List.getLast?_eq_some_iff.mp hg
      have hbr : b ∈ rowOf cov k := by rw [e, hD]; simp
      have hbD : b ∉ D := by
        intro h
        have hn := row_nd cov k
        rw [e, hD] at hn
        have := (List.nodup_append.mp (List.nodup_append.mp hn).1).2.2 b h b (by simp)
        exact this rfl
      have e3 : before (rowOf cov k) b = D := by
        have e4 : rowOf cov k = D ++ b :: (p :: B) := by rw [e, hD]; simp
        rw [e4]; exact before_of hbD
      intro a haa
      rw [hD] at haa
      rcases List.mem_append.mp haa with h | h
      · exact row_before hi hk hbr hb a (by rw [e3]; exact h)
      · simp only [List.mem_singleton] at h; subst h; exact hb
  -- the filter of the row
  have e5 := hi k hk
  generalize hY : ((rowOf cov k).filter fun p => decide (p ∉ read)) = Y at e5
  have hY2 : Y = (before (rowOf cov k) p ++ p :: B).filter fun p => decide (p ∉ read) := by rw [← hY, ← e]
  rw [List.filter_append, List.filter_eq_nil_iff.mpr (fun a h => by simpa using hall a h), List.nil_append, List.filter_cons_of_pos (by simpa using hr)] at hY2
  have hB : B.filter (fun p => decide (p ∉ read)) = B := by
    have e6 : before (rowOf cov k) p ++ p :: B = read.filter (inRow cov k) ++ p :: B.filter (fun p => decide (p ∉ read)) := by rw [← hY2, ← e5, ← e]
    have hlen := congrArg List.length e6
    -- both split at p
    have hp2 : p ∉ read.filter (inRow cov k) := fun h => hr (List.mem_filter.mp h).1
    have e7 : before (rowOf cov k) p = read.filter (inRow cov k) := by
      have := congrArg (fun l => before l p) e6
      simpa [before_of hpb, before_of hp2] using this
    rw [e7] at e6
    have := List.append_cancel_left e6
    simpa using this.symm
  rw [hB] at hY2
  refine ⟨B, by rw [← hY2]; exact e5, hY2⟩
theorem RowInv.step {cov : List (List Int)} (hc : CovOk cov) {read : List Int} (hi : RowInv cov read) {p : Int} (hp : p ∈ places) (hr : p ∉ read) (ha : ∀ a ∈ ah cov p, a ∈ read) : RowInv cov (read ++ [p]) := by
  intro k hk
  rw [List.filter_append]
  cases hin : inRow cov k p with
  | true =>
    obtain ⟨B, e1, e2⟩ := first_left hc hi hp hr ha hk hin
    rw [List.filter_cons_of_pos hin]
    have e3 : ((rowOf cov k).filter fun q => decide (q ∉ read ++ [p])) = B := by
      have : ((rowOf cov k).filter fun q => decide (q ∉ read ++ [p])) = ((rowOf cov k).filter fun q => decide (q ∉ read)).filter fun q => decide (q ≠ p) := by
        rw [List.filter_filter]
        apply List.filter_congr
        intro q _
        by_cases h1 : q ∈ read <;> by_cases h2 : q = p <;> simp [h1, h2]
      rw [this, e2, List.filter_cons_of_neg (by simp)]
      apply List.filter_eq_self.mpr
      intro b hb
      have hn := row_nd cov k
      rw [e1] at hn
      have := (List.nodup_append.mp hn).2.1
      rw [List.nodup_cons] at this
      have hne : b ≠ p := fun e => this.1 (e ▸ hb)
      simpa using hne
    rw [e3]
    simpa using e1
  | false =>
    rw [List.filter_cons_of_neg (by rw [hin]; decide), List.filter_nil, List.append_nil]
    have e3 : ((rowOf cov k).filter fun q => decide (q ∉ read ++ [p])) = (rowOf cov k).filter fun q => decide (q ∉ read) := by
      apply List.filter_congr
      intro q hq
      have hne : q ≠ p := by rintro rfl; rw [(row_mem.mp hq).2] at hin; cases hin
      by_cases h1 : q ∈ read <;> simp [h1, hne]
    rw [e3]; exact hi k hk
theorem all_read {read : List Int} (hn : read.Nodup) (hin : ∀ p ∈ read, p ∈ places) (hl : read.length = 8) : ∀ p ∈ places, p ∈ read := by
  intro p hp
  by_cases h : p ∈ read
  · exact h
  · have h1 : (p :: read).Nodup := List.nodup_cons.mpr ⟨h, hn⟩
    have h2 := h1.length_le_of_subset (l₂ := places) (fun a ha => by
      rcases List.mem_cons.mp ha with rfl | ha
      · exact hp
      · exact hin a ha)
    simp [places] at h2
    omega
theorem RowInv.all {cov : List (List Int)} {read : List Int} (hi : RowInv cov read) (h : ∀ p ∈ places, p ∈ read) : ∀ k, k < 4 → read.filter (inRow cov k) = rowOf cov k := by
  intro k hk
  have e := hi k hk
  have e2 : ((rowOf cov k).filter fun p => decide (p ∉ read)) = [] := List.filter_eq_nil_iff.mpr fun p hp => by simpa using h p (row_mem.mp hp).1
  rw [e2, List.append_nil] at e
  exact e.symm
theorem some_free {cov : List (List Int)} (hc : CovOk cov) {read : List Int} (hl : read.length < 8) : ∃ p ∈ places, p ∉ read ∧ ∀ a ∈ ah cov p, a ∈ read := by
  have hex : ∃ p ∈ places, p ∉ read := by
    by_cases h : ∀ p ∈ places, p ∈ read
    · have := places_nd.length_le_of_subset (l₂ := read) (fun a ha => h a ha)
      simp [places] at this
      omega
    · simp only [Classical.not_forall] at h
      obtain ⟨p, hp, hn⟩ := h
      exact ⟨p, hp, hn⟩
  -- the least one
  have least : ∀ n : Nat, ∀ p ∈ places, p ∉ read → p.toNat ≤ n → ∃ p ∈ places, p ∉ read ∧ ∀ a ∈ ah cov p, a ∈ read := by
    intro n
    induction n with
    | zero =>
      intro p hp hr hn
      refine ⟨p, hp, hr, fun a ha => ?_⟩
      obtain ⟨h1, h2⟩ := ah_lt hc hp ha
      have := places_mem.mp hp
      have := places_mem.mp h1
      omega
    | succ n ih =>
      intro p hp hr hn
      by_cases h : ∀ a ∈ ah cov p, a ∈ read
      · exact ⟨p, hp, hr, h⟩
      · simp only [Classical.not_forall] at h
        obtain ⟨a, ha, hna⟩ := h
        obtain ⟨h1, h2⟩ := ah_lt hc hp ha
        have := places_mem.mp hp
        have := places_mem.mp h1
        exact ih a h1 hna (by omega)
  obtain ⟨p, hp, hr⟩ := hex
  exact least p.toNat p hp hr (Nat.le_refl _)
end Mine
end
section
open PySem PySem.W PyProof.Rows PySem.Calls
set_option Elab.async false
set_option maxRecDepth 100000
set_option linter.unusedVariables false
set_option linter.unusedSimpArgs false
namespace Mine
def lEnv (z : FnRest) (L : Addr) : Env := fEnv (top 28) "law" .none 275 z L
def lSt (n : Nat) : Stmt := (fBody (top 28)).getD n (.Pass ⟨0, 0, 0, 0⟩)
def judgesMV : MV := .list (jAddr.map MV.ref)
def cells0 : List Int := [1, 8, 14, 12, 103, 195, 102, 9, 211, 32, 53]
def cellAt (ns : List Int) (k : Nat) : Int := cells0.getD k 0 + (pickNums ns (some (k : Int)) none (some 11)).sum
def cellsOf (ns : List Int) : List Int := (List.range 11).map (cellAt ns)
def picksOf (ns : List Int) : List Int := [(cellAt ns 0).fmod 15, (cellAt ns 1).fmod 15, (cellAt ns 2).fmod 15, (cellAt ns 3).fmod 15]
def thingsOf (ns : List Int) : List MV := [.int ns.sum, lawThing (cellAt ns 4), lawThing (cellAt ns 5), lawThing (cellAt ns 6), lawThing (cellAt ns 7), lawThing (cellAt ns 8), lawThing (cellAt ns 9), lawThing (cellAt ns 10)]
theorem things_ok (ns : List Int) : ∀ t ∈ thingsOf ns, isThing t := by
  intro t ht
  simp only [thingsOf, List.mem_cons, List.not_mem_nil, or_false] at ht
  rcases ht with rfl | rfl | rfl | rfl | rfl | rfl | rfl | rfl
  · trivial
  all_goals exact lawThing_ok _
section
variable {X : Cx} {A : Around} {φ : MEnv} {σ : MHeap} {P : MF → MEnv → MHeap → Prop}
theorem gl_sum (hX : X.Ok) : GlobIs X "sum" (.builtin "sum") := globB hX (by kernel_rfl) (by kernel_rfl) (by decide)
theorem gl_list (hX : X.Ok) : GlobIs X "list" (.type "list") := globB hX (by kernel_rfl) (by kernel_rfl) (by decide)
theorem gl_max (hX : X.Ok) : GlobIs X "max" (.builtin "max") := globB hX (by kernel_rfl) (by kernel_rfl) (by decide)
theorem gl_sorted (hX : X.Ok) : GlobIs X "sorted" (.builtin "sorted") := globB hX (by kernel_rfl) (by kernel_rfl) (by decide)
theorem gl_thing (hX : X.Ok) : GlobIs X "_law_thing" (.ref 265) := globK hX (by kernel_rfl)
theorem gl_kinds (hX : X.Ok) : GlobIs X "_law_kinds" (.ref 258) := globK hX (by kernel_rfl)
theorem gl_ties (hX : X.Ok) : GlobIs X "_law_ties" (.ref 270) := globK hX (by kernel_rfl)
theorem EV_glob {env : Env} {φ : MEnv} {x : Str} {pos : Pos} {v : Value} (hg : GlobIs X x v) (hk : env.kindOf x = some .globalImplicit := by rfl) (hd : (x == ("__debug__" : Str)) = false := by decide) : EV X A env (.Name x pos) φ σ (.raw v) := fun Q hq => WE_glob hg hq hk hd
theorem law_s0 (hX : X.Ok) {z : FnRest} {L : Addr} (h : ∀ a, σ a = none → P .next (("judges", .ref a) :: φ) (σ.put a (mlist [.raw (.ref 155), .raw (.ref 162), .raw (.ref 169), .raw (.ref 176), .raw (.ref 183), .raw (.ref 246), .raw (.ref 190), .raw (.ref 197)]))) : WS1 X A (lEnv z L) (lSt 0) φ σ P := by
  refine WS1_assign (WE_listM ?_)
  refine EVs.wl (ms := [.raw (.ref 155), .raw (.ref 162), .raw (.ref 169), .raw (.ref 176), .raw (.ref 183), .raw (.ref 246), .raw (.ref 190), .raw (.ref 197)]) ?_ ⟨by decide, fun a ha => h a ha⟩
  refine .cons (EV_glob (gl_isalnum hX)) ?_
  refine .cons (EV_glob (gl_isalpha hX)) ?_
  refine .cons (EV_glob (gl_isascii hX)) ?_
  refine .cons (EV_glob (gl_isblank hX)) ?_
  refine .cons (EV_glob (gl_iscntrl hX)) ?_
  refine .cons (EV_glob (gl_isctrl hX)) ?_
  refine .cons (EV_glob (gl_isdigit hX)) ?_
  refine .cons (EV_glob (gl_isgraph hX)) ?_
  exact .nil
theorem law_s1 (hX : X.Ok) {z : FnRest} {L : Addr} {a : Addr} {xs : List MV} (hφ : φ.lookup ("judges" : Str) = some (.ref a)) (ha : σ a = some (mlist xs)) (hlen : xs.length ≤ 100)
    (h : P .next (("judges", .ref a) :: φ) (σ.put a (mlist (xs ++ [.raw (.ref 204), .raw (.ref 253), .raw (.ref 211), .raw (.ref 218), .raw (.ref 225), .raw (.ref 232), .raw (.ref 239)])))) : WS1 X A (lEnv z L) (lSt 1) φ σ P := by
  refine WS1_iadd (a := a) hφ ?_
  refine EV.go (EV_list (ms := [.raw (.ref 204), .raw (.ref 253), .raw (.ref 211), .raw (.ref 218), .raw (.ref 225), .raw (.ref 232), .raw (.ref 239)]) ?_ ?_) ⟨xs, _, rfl, ha, ?_, h⟩
  · refine .cons (EV_glob (gl_islower hX)) ?_
    refine .cons (EV_glob (gl_ismeta hX)) ?_
    refine .cons (EV_glob (gl_isprint hX)) ?_
    refine .cons (EV_glob (gl_ispunct hX)) ?_
    refine .cons (EV_glob (gl_isspace hX)) ?_
    refine .cons (EV_glob (gl_isupper hX)) ?_
    refine .cons (EV_glob (gl_isxdigit hX)) ?_
    exact .nil
  · exact szl rfl
  · have : (107 : Nat) ≤ sizeLine := by decide
    show xs.length + 7 ≤ _
    omega
theorem law_01 (hX : X.Ok) {z : FnRest} {L : Addr} {rest : List Stmt} (h : WS X A (lEnv z L) rest (("judges", judgesMV) :: φ) σ P) : WS X A (lEnv z L) (lSt 0 :: lSt 1 :: rest) φ σ P := by
  refine WS_cons (law_s0 hX fun a ha => WS_cons (law_s1 hX lookup_cons_self (MHeap.put_self _ _ _) (by show 8 ≤ 100; decide) ?_))
  show WS X A (lEnv z L) rest _ _ P
  refine WS.freeze (x := "judges") (a := a) (xs := jAddr.map MV.ref) (MHeap.put_self _ _ _) lookup_cons_self ?_
  rw [put_put, put_del ha]
  refine h.less ?_
  intro x mv hx
  rw [List.lookup_cons] at hx
  cases e : (x == ("judges" : Str)) with
  | true => rw [e] at hx; simp only [List.lookup_cons, e]; exact hx
  | false => rw [e] at hx; simp only [List.lookup_cons, e]; exact hx
theorem law_s2 {z : FnRest} {L : Addr} (h : P .next (("cells", intsMV cells0) :: φ) σ) : WS1 X A (lEnv z L) (lSt 2) φ σ P := by
  refine WS1_assign ?_
  refine EV.go (mv := .list (cells0.map .int)) ?_ ?_
  · refine EV_list (ms := cells0.map .int) ?_ ?_
    · refine .cons EV_int ?_
      repeat (first | exact .nil | refine .cons EV_int ?_)
    · exact szl rfl
  · exact h
theorem cellsOf_eq (ns : List Int) : (rngItems 11).filterMap (fun mv => match mv with | .int k => some (.int (cellAt ns k.toNat)) | _ => none) = (cellsOf ns).map MV.int := rfl
theorem pick_lo (ns : List Int) : pickNums (cellsOf ns) none (some 4) none = [cellAt ns 0, cellAt ns 1, cellAt ns 2, cellAt ns 3] := by
  have : ∀ a b c d e f g h i j k : Int, pickNums [a, b, c, d, e, f, g, h, i, j, k] none (some 4) none = [a, b, c, d] := fun _ _ _ _ _ _ _ _ _ _ _ => rfl
  exact this _ _ _ _ _ _ _ _ _ _ _
theorem pick_hi (ns : List Int) : pickNums (cellsOf ns) (some 4) none none = [cellAt ns 4, cellAt ns 5, cellAt ns 6, cellAt ns 7, cellAt ns 8, cellAt ns 9, cellAt ns 10] := by
  have : ∀ a b c d e f g h i j k : Int, pickNums [a, b, c, d, e, f, g, h, i, j, k] (some 4) none none = [e, f, g, h, i, j, k] := fun a b c d e f g h i j k => by
    unfold pickNums
    have e1 : sliceRange (sliceBounds (some 4) none none 11).1 (sliceBounds (some 4) none none 11).2.1 (sliceBounds (some 4) none none 11).2.2 = [4, 5, 6, 7, 8, 9, 10] := by decide
    show (sliceRange (sliceBounds (some 4) none none 11).1 (sliceBounds (some 4) none none 11).2.1 (sliceBounds (some 4) none none 11).2.2).filterMap _ = _
    rw [e1]; rfl
  exact this _ _ _ _ _ _ _ _ _ _ _
theorem law_s3 (hX : X.Ok) (hA : A.handled = none) {z : FnRest} {L : Addr} {ns : List Int} (hsz : ns.length ≤ sizeLine) (hc : φ.lookup ("cells" : Str) = some (intsMV cells0)) (hs : φ.lookup ("script" : Str) = some (intsMV ns))
    (h : P .next (("cells", intsMV (cellsOf ns)) :: φ) σ) : WS1 X A (lEnv z L) (lSt 3) φ σ P := by
  refine WS1_assign (WE_comp [("cells", intsMV cells0), ("script", intsMV ns)] (fun mv => match mv with | .int k => some (.int (cellAt ns k.toNat)) | _ => none) ?_ ⟨hc, by rfl, hs, by rfl, trivial⟩)
  refine WE_callT (gl_range hX) (WL_cons (WE_int (WL_nil (T_range ?_))))
  refine ⟨_, _, iter_rng hA (by decide), trivial, by decide, ?_, ?_⟩
  · intro C mv hmv
    obtain ⟨i, hi, rfl⟩ := List.mem_map.mp hmv
    have hi11 : i < 11 := List.mem_range.mp hi
    refine ⟨.int (cellAt ns i), rfl, ?_⟩
    refine WE_binop (EV.go (EV_ints (ns := cells0) (k := (i : Int)) (EV_name rfl) (EV_name rfl) (by omega) (by show i < 11; exact hi11) (by omega)) ?_)
    refine WE_callB (gl_sum hX) (WL_cons (WE_sliceStep (l := (i : Int)) (c := 11) (ns := ns) rfl (by decide) (WE_name rfl ⟨rfl, rfl⟩) (WE_name rfl ⟨rfl, rfl⟩) (WE_int ⟨rfl, rfl⟩) hsz ?_))
    exact WL_nil (B_sum hA (V_add ⟨rfl, rfl⟩))
  · rw [cellsOf_eq]; exact h
theorem law_s4 (hA : A.handled = none) {z : FnRest} {L : Addr} {ns : List Int} (hc : φ.lookup ("cells" : Str) = some (intsMV (cellsOf ns)))
    (h : P .next (("picks", intsMV (picksOf ns)) :: φ) σ) : WS1 X A (lEnv z L) (lSt 4) φ σ P := by
  have hcl : (cellsOf ns).length ≤ sizeLine := by show 11 ≤ sizeLine; decide
  refine WS1_assign (WE_comp [] (fun mv => match mv with | .int c => some (.int (c.fmod 15)) | _ => none) ?_ trivial)
  refine WE_slice (lo := none) (l := none) (u := some 4) (ns := cellsOf ns) rfl (WE_name hc ⟨rfl, rfl⟩) rfl ⟨4, rfl, WE_int ⟨rfl, rfl⟩⟩ hcl ?_
  rw [pick_lo]
  refine ⟨_, _, iter_list hA, trivial, by show 4 ≤ sizeLine; decide, ?_, ?_⟩
  · intro C mv hmv
    obtain ⟨c, hc, rfl⟩ := List.mem_map.mp hmv
    exact ⟨_, rfl, EV.go (EV_bin (EV_name rfl) EV_int (fun Q hq => V_mod (by decide) hq)) ⟨rfl, rfl⟩⟩
  · exact h
theorem law_s5 (hX : X.Ok) (hA : A.handled = none) {z : FnRest} {L : Addr} {ns : List Int} (hs : φ.lookup ("script" : Str) = some (intsMV ns)) (h : P .next (("total", .int ns.sum) :: φ) σ) : WS1 X A (lEnv z L) (lSt 5) φ σ P :=
  WS1_assign (WE_callB (gl_sum hX) (WL_cons (WE_name hs (WL_nil (B_sum hA h)))))
theorem law_s6 (hX : X.Ok) (hA : AOk 2 A) {z : FnRest} {L : Addr} {ns : List Int} (hc : φ.lookup ("cells" : Str) = some (intsMV (cellsOf ns))) (ht : φ.lookup ("total" : Str) = some (.int ns.sum))
    (h : P .next (("things", .list (thingsOf ns)) :: φ) σ) : WS1 X A (lEnv z L) (lSt 6) φ σ P := by
  have hcl : (cellsOf ns).length ≤ sizeLine := by show 11 ≤ sizeLine; decide
  refine WS1_assign (WE_binop ?_)
  refine EV.go (mv := .list [.int ns.sum]) (EV_list (.cons (EV_name ht) .nil)) ?_
  refine WE_comp [] (fun mv => match mv with | .int c => some (lawThing c) | _ => none) ?_ trivial
  refine WE_slice (hi := none) (l := some 4) (u := none) (ns := cellsOf ns) rfl (WE_name hc ⟨rfl, rfl⟩) ⟨4, rfl, WE_int ⟨rfl, rfl⟩⟩ rfl hcl ?_
  rw [pick_hi]
  refine ⟨_, _, iter_list hA.handled, trivial, by show 7 ≤ sizeLine; decide, ?_, ?_⟩
  · intro C mv hmv
    obtain ⟨c, hc, rfl⟩ := List.mem_map.mp hmv
    exact ⟨_, rfl, WE_callF (gl_thing hX) (fn_law_thing hX) (WL_cons (WE_name rfl (WL_nil (thing_spec hX hA ⟨rfl, rfl⟩))))⟩
  · exact V_cat (szl rfl) h
theorem law_s7 (hX : X.Ok) (hA : A.handled = none) {z : FnRest} {L : Addr} (h : P .next (("places", intsMV places) :: φ) σ) : WS1 X A (lEnv z L) (lSt 7) φ σ P :=
  WS1_assign (WE_callT (gl_list hX) (WL_cons (WE_callT (gl_range hX) (WL_cons (WE_int (WL_nil (T_range (WL_nil (T_listRng hA (by decide) (by decide) h)))))))))
end
end Mine
end
section
open PySem PySem.W PyProof.Rows PySem.Calls
set_option Elab.async false
set_option maxRecDepth 100000
set_option linter.unusedVariables false
set_option linter.unusedSimpArgs false
namespace Mine
def thingAt (ns : List Int) (p : Int) : MV := (thingsOf ns).getD p.toNat .none
def holds (ns : List Int) (k : Nat) (t : MV) : Bool := jF ((picksOf ns).getD k 0).toNat (code t)
def covOf (ns : List Int) : List (List Int) := (thingsOf ns).map fun t => ([0, 1, 2, 3] : List Int).filter fun k => holds ns k.toNat t
def kindsL (ns : List Int) : List MV := (thingsOf ns).map kindsOf
theorem pick_bounds (ns : List Int) {c : Int} (h : c ∈ picksOf ns) : 0 ≤ c ∧ c < 15 := by
  simp only [picksOf, List.mem_cons, List.not_mem_nil, or_false] at h
  rcases h with rfl | rfl | rfl | rfl <;> exact fmod_bounds _ 15 (by decide)
theorem thing_get (ns : List Int) {p : Int} (h : p ∈ places) : (thingsOf ns)[p.toNat]? = some (thingAt ns p) ∧ thingAt ns p ∈ thingsOf ns := by
  have := places_mem.mp h
  have hlt : p.toNat < (thingsOf ns).length := by show p.toNat < 8; omega
  have e : (thingsOf ns)[p.toNat]? = some (thingAt ns p) := by
    unfold thingAt; rw [List.getD_eq_getElem?_getD, List.getElem?_eq_getElem hlt]; rfl
  exact ⟨e, List.mem_of_getElem? e⟩
theorem cov_at (ns : List Int) {p : Int} (h : p ∈ places) : covAt (covOf ns) p = ([0, 1, 2, 3] : List Int).filter fun k => holds ns k.toNat (thingAt ns p) := by
  unfold covAt covOf
  rw [List.getD_eq_getElem?_getD, List.getElem?_map, (thing_get ns h).1]; rfl
theorem cov_ok (ns : List Int) : CovOk (covOf ns) := by
  refine ⟨rfl, fun c hc => ?_, fun c hc k hk => ?_⟩
  · obtain ⟨t, _, rfl⟩ := List.mem_map.mp hc
    exact Nat.le_trans (List.length_filter_le _ _) (by decide)
  · obtain ⟨t, _, rfl⟩ := List.mem_map.mp hc
    have := (List.mem_filter.mp hk).1
    simp only [List.mem_cons, List.not_mem_nil, or_false] at this
    omega
theorem inRow_eq (ns : List Int) {k : Nat} (hk : k < 4) {p : Int} (h : p ∈ places) : inRow (covOf ns) k p = holds ns k (thingAt ns p) := by
  unfold inRow
  rw [cov_at ns h, Bool.eq_iff_iff, decide_eq_true_eq, List.mem_filter]
  constructor
  · rintro ⟨_, h2⟩; simpa using h2
  · intro h2
    refine ⟨?_, by simpa using h2⟩
    simp only [List.mem_cons, List.not_mem_nil, or_false]
    omega
def rowsL (ns : List Int) : List (List Int) := (List.range 4).map (rowOf (covOf ns))
theorem rows_eq (ns : List Int) : (picksOf ns).map (fun c => places.filter fun p => jF c.toNat (code (thingAt ns p))) = rowsL ns := by
  have e : ∀ k, k < 4 → (places.filter fun p => jF ((picksOf ns).getD k 0).toNat (code (thingAt ns p))) = rowOf (covOf ns) k := fun k hk => by
    unfold rowOf
    apply List.filter_congr
    intro p hp
    rw [inRow_eq ns hk hp]; rfl
  have e0 := e 0 (by decide)
  have e1 := e 1 (by decide)
  have e2 := e 2 (by decide)
  have e3 := e 3 (by decide)
  show [_, _, _, _] = [_, _, _, _]
  rw [← e0, ← e1, ← e2, ← e3]; rfl
def fFilter (f : Int → Bool) : MV → Option MV
  | .int p => if f p then some (.int p) else none
  | _ => none
theorem fFilter_map (f : Int → Bool) (l : List Int) : (l.map MV.int).filterMap (fFilter f) = (l.filter f).map .int := by
  induction l with
  | nil => rfl
  | cons a l ih =>
    have e : fFilter f (.int a) = if f a then some (.int a) else none := rfl
    rw [List.map_cons, List.filterMap_cons, e]
    cases h : f a with
    | true => rw [List.filter_cons_of_pos h]; simp only [if_true]; rw [ih]; rfl
    | false => rw [List.filter_cons_of_neg (by rw [h]; decide)]; simp only [Bool.false_eq_true, if_false]; exact ih
section
variable {X : Cx} {A : Around} {φ : MEnv} {σ : MHeap} {P : MF → MEnv → MHeap → Prop}
theorem law_s8 (hX : X.Ok) (hA : AOk 2 A) {z : FnRest} {L : Addr} {ns : List Int} (ht : φ.lookup ("things" : Str) = some (.list (thingsOf ns))) (h : P .next (("kinds", .list (kindsL ns)) :: φ) σ) : WS1 X A (lEnv z L) (lSt 8) φ σ P := by
  refine WS1_assign (WE_comp [] (fun mv => some (kindsOf mv)) ?_ trivial)
  refine WE_name ht ⟨_, _, iter_list hA.handled, trivial, by show 8 ≤ sizeLine; decide, ?_, ?_⟩
  · intro C mv hmv
    exact ⟨_, rfl, WE_callF (gl_kinds hX) (fn_law_kinds hX) (WL_cons (WE_name rfl (WL_nil (kinds_spec hX hA (things_ok ns mv hmv) ⟨rfl, rfl⟩))))⟩
  · exact h
theorem kinds_get (ns : List Int) {p : Int} (h : p ∈ places) : (kindsL ns)[p.toNat]? = some (kindsOf (thingAt ns p)) := by
  unfold kindsL; rw [List.getElem?_map, (thing_get ns h).1]; rfl
theorem kindsOf_get {t : MV} {c : Int} (h0 : 0 ≤ c) (h1 : c < 15) : ((List.range 15).map fun j => MV.bool (jF j (code t)))[c.toNat]? = some (.bool (jF c.toNat (code t))) := by
  rw [List.getElem?_map, List.getElem?_range (by omega)]; rfl
theorem law_s9 (hA : A.handled = none) {z : FnRest} {L : Addr} {ns : List Int} (hk : φ.lookup ("kinds" : Str) = some (.list (kindsL ns))) (hp : φ.lookup ("places" : Str) = some (intsMV places)) (hpk : φ.lookup ("picks" : Str) = some (intsMV (picksOf ns)))
    (h : P .next (("rows", rowsMV (rowsL ns)) :: φ) σ) : WS1 X A (lEnv z L) (lSt 9) φ σ P := by
  refine WS1_assign (WE_comp [("kinds", .list (kindsL ns)), ("places", intsMV places)] (fun mv => match mv with | .int c => some (intsMV (places.filter fun p => jF c.toNat (code (thingAt ns p)))) | _ => none) ?_ ⟨hk, by rfl, hp, by rfl, trivial⟩)
  refine WE_name hpk ⟨_, _, iter_list hA, trivial, by show 4 ≤ sizeLine; decide, ?_, ?_⟩
  · intro C mv hmv
    obtain ⟨c, hc, rfl⟩ := List.mem_map.mp hmv
    obtain ⟨c0, c1⟩ := pick_bounds ns hc
    refine ⟨_, rfl, ?_⟩
    refine WE_comp [("kinds", .list (kindsL ns)), ("pick", .int c)] (fFilter fun p => jF c.toNat (code (thingAt ns p))) ?_ ⟨rfl, by rfl, rfl, by rfl, trivial⟩
    refine WE_name rfl ⟨_, _, iter_list hA, trivial, by show 8 ≤ sizeLine; decide, ?_, ?_⟩
    · intro C2 mv2 hmv2
      obtain ⟨p, hp2, rfl⟩ := List.mem_map.mp hmv2
      have hp3 := places_mem.mp hp2
      refine WB_value (WE_item (WE_item (WE_name rfl (WE_name rfl (V_item (k := p) hp3.1 (kinds_get ns hp2) (WE_name rfl (V_item (k := c) c0 (kindsOf_get c0 c1) (Tr_bool ⟨rfl, ?_⟩) (by omega))) (by omega))))))
      show match jF c.toNat (code (thingAt ns p)) with | true => _ | false => _
      cases hj : jF c.toNat (code (thingAt ns p)) with
      | true => exact ⟨.int p, if_pos hj, WE_name rfl ⟨rfl, rfl⟩⟩
      | false => exact if_neg (by show ¬ (jF c.toNat (code (thingAt ns p)) = true); rw [hj]; decide)
    · rw [fFilter_map]; exact ⟨rfl, rfl⟩
  · have e : ((picksOf ns).map MV.int).filterMap (fun mv => match mv with | .int c => some (intsMV (places.filter fun p => jF c.toNat (code (thingAt ns p)))) | _ => none) = (rowsL ns).map intsMV := by
      rw [← rows_eq]; rfl
    rw [e]; exact h
theorem judge_fn (hX : X.Ok) {j : Nat} {a : Addr} (hj : jAddr[j]? = some a) : ∃ st q d, FnAt X a st q d := by
  match j, hj with
  | 0, hj => cases hj; exact ⟨_, _, _, fn_isalnum hX⟩
  | 1, hj => cases hj; exact ⟨_, _, _, fn_isalpha hX⟩
  | 2, hj => cases hj; exact ⟨_, _, _, fn_isascii hX⟩
  | 3, hj => cases hj; exact ⟨_, _, _, fn_isblank hX⟩
  | 4, hj => cases hj; exact ⟨_, _, _, fn_iscntrl hX⟩
  | 5, hj => cases hj; exact ⟨_, _, _, fn_isctrl hX⟩
  | 6, hj => cases hj; exact ⟨_, _, _, fn_isdigit hX⟩
  | 7, hj => cases hj; exact ⟨_, _, _, fn_isgraph hX⟩
  | 8, hj => cases hj; exact ⟨_, _, _, fn_islower hX⟩
  | 9, hj => cases hj; exact ⟨_, _, _, fn_ismeta hX⟩
  | 10, hj => cases hj; exact ⟨_, _, _, fn_isprint hX⟩
  | 11, hj => cases hj; exact ⟨_, _, _, fn_ispunct hX⟩
  | 12, hj => cases hj; exact ⟨_, _, _, fn_isspace hX⟩
  | 13, hj => cases hj; exact ⟨_, _, _, fn_isupper hX⟩
  | 14, hj => cases hj; exact ⟨_, _, _, fn_isxdigit hX⟩
  | n + 15, hj => simp [jAddr] at hj
theorem judge_at {c : Int} (h0 : 0 ≤ c) (h1 : c < 15) : ∃ a, jAddr[c.toNat]? = some a ∧ (jAddr.map MV.ref)[c.toNat]? = some (.ref a) := by
  have hlt : c.toNat < jAddr.length := by show c.toNat < 15; omega
  refine ⟨jAddr[c.toNat], List.getElem?_eq_getElem hlt, ?_⟩
  rw [List.getElem?_map, List.getElem?_eq_getElem hlt]; rfl
/-- judges[picks[k]](e) -/
theorem WE_judge (hX : X.Ok) (hA : AOk 5 A) {env : Env} {φ : MEnv} {σ : MHeap} {Q : MV → MHeap → Prop} {ns : List Int} {k : Nat} {t : MV} {p1 p2 p3 p4 p5 pos : Pos} {e : Expr} (hj : φ.lookup ("judges" : Str) = some judgesMV) (hp : φ.lookup ("picks" : Str) = some (intsMV (picksOf ns)))
    (hk : φ.lookup ("k" : Str) = some (.int (k : Int))) (hk4 : k < 4) (ht : isThing t) (he : EV X A env e φ σ t) (h : Q (.bool (holds ns k t)) σ) (hn : loneStar (backTo pos (starEach [e] env)) = false) (hse : starEach [e] env = (false, eval e env) :: starEach [] env) :
    WE X A env (.Call (.Subscript (.Name "judges" p1) (.Subscript (.Name "picks" p2) (.Name "k" p3) p4) p5) [e] [] pos) φ σ Q := by
  have hmem : (picksOf ns).getD k 0 ∈ picksOf ns := by
    have : k = 0 ∨ k = 1 ∨ k = 2 ∨ k = 3 := by omega
    rcases this with rfl | rfl | rfl | rfl <;> simp [picksOf]
  obtain ⟨c0, c1⟩ := pick_bounds ns hmem
  obtain ⟨a, ha1, ha2⟩ := judge_at c0 c1
  obtain ⟨st, q, d, hf⟩ := judge_fn hX ha1
  refine WE_callSub hf (WE_item (WE_name hj (EV.go (EV_ints (ns := picksOf ns) (k := (k : Int)) (EV_name hp) (EV_name hk) (by omega) (by show k < 4; exact hk4) (by omega)) (V_item (k := (picksOf ns).getD k 0) c0 ha2 ⟨rfl, WL_cons (EV.go he (WL_nil (judge_spec hX hA ht ha1 h))) hse⟩ (by omega) ?_)))) hn
  intro _ _; with_unfolding_all rfl
theorem law_s10 (hX : X.Ok) (hA : AOk 5 A) {z : FnRest} {L : Addr} {ns : List Int} (hj : φ.lookup ("judges" : Str) = some judgesMV) (hp : φ.lookup ("picks" : Str) = some (intsMV (picksOf ns))) (ht : φ.lookup ("things" : Str) = some (.list (thingsOf ns)))
    (h : P .next (("covers", rowsMV (covOf ns)) :: φ) σ) : WS1 X A (lEnv z L) (lSt 10) φ σ P := by
  refine WS1_assignComp [("judges", judgesMV), ("picks", intsMV (picksOf ns))] (fun t => some (intsMV (([0, 1, 2, 3] : List Int).filter fun k => holds ns k.toNat t))) ?_ ⟨hj, by rfl, hp, by rfl, trivial⟩
  refine WE_name ht ⟨_, _, iter_list hA.handled, trivial, by show 8 ≤ sizeLine; decide, ?_, ?_⟩
  · intro C t ht2
    refine ⟨_, rfl, ?_⟩
    refine WE_comp [("judges", judgesMV), ("picks", intsMV (picksOf ns)), ("thing", t)] (fFilter fun k => holds ns k.toNat t) ?_ ⟨rfl, by rfl, rfl, by rfl, rfl, by rfl, trivial⟩
    refine WE_callT (gl_range hX) (WL_cons (WE_int (WL_nil (T_range ?_))))
    refine ⟨_, _, iter_rng hA.handled (by decide), trivial, by decide, ?_, ?_⟩
    · intro C2 mv2 hmv2
      obtain ⟨i, hi, rfl⟩ := List.mem_map.mp hmv2
      have hi4 : i < 4 := List.mem_range.mp hi
      refine WB_compare (WE_judge hX hA (ns := ns) (k := i) (t := t) rfl rfl rfl hi4 (things_ok ns t ht2) (EV_name rfl) (WE_bool (V_is (Tr_bool ⟨rfl, ?_⟩))) rfl rfl)
      have e : isMV (.bool (holds ns i t)) (.bool true) = holds ns i t := by cases holds ns i t <;> rfl
      rw [e]
      cases hh : holds ns i t with
      | true => exact ⟨.int (i : Int), if_pos hh, WE_name rfl ⟨rfl, rfl⟩⟩
      | false => exact if_neg (by show ¬ (holds ns i t = true); rw [hh]; decide)
    · have e : (rngItems 4).filterMap (fFilter fun k => holds ns k.toNat t) = (([0, 1, 2, 3] : List Int).filter fun k => holds ns k.toNat t).map .int := fFilter_map _ [0, 1, 2, 3]
      rw [e]; exact ⟨rfl, rfl⟩
  · exact h
end
end Mine
end
section
open PySem PySem.W PyProof.Rows PySem.Calls
set_option Elab.async false
set_option maxRecDepth 100000
set_option linter.unusedVariables false
set_option linter.unusedSimpArgs false
namespace Mine
/-- what the adds have made, the nodes in some order L -/
structure AddsInv (ahf : Int → List Int) (done : List Int) (S : SS) : Prop where
  z : Z S
  np : ∀ p, S.np p = if p ∈ done then ((ahf p).length : Int) else 0
  succ : ∀ q, S.succ q = done.flatMap fun p => List.replicate ((ahf p).count q) p
  ready : S.ready = none
  passed : S.passed = 0
  fin : S.fin = 0
  pin : S.pin = none
theorem AddsInv.zero (ahf : Int → List Int) : AddsInv ahf [] S0 := ⟨Z.zero, fun p => rfl, fun q => rfl, rfl, rfl, rfl, rfl⟩
theorem succ_len {ahf : Int → List Int} {q : Int} : ∀ (done : List Int), (∀ p ∈ done, (ahf p).length ≤ 4) → (done.flatMap fun p => List.replicate ((ahf p).count q) p).length ≤ 4 * done.length
  | [], _ => by simp
  | p :: done, h => by
    rw [List.flatMap_cons, List.length_append, List.length_replicate, List.length_cons]
    have h1 := succ_len (q := q) done fun x hx => h x (List.mem_cons_of_mem _ hx)
    have h2 := h p List.mem_cons_self
    have h3 := List.count_le_length (a := q) (l := ahf p)
    omega
theorem ah_len {cov : List (List Int)} (hc : CovOk cov) {p : Int} (hp : p ∈ places) : (ah cov p).length ≤ 4 := by
  obtain ⟨p0, p1⟩ := places_mem.mp hp
  exact Nat.le_trans (List.length_filterMap_le _ _) (hc.small _ (hc.at p0 p1).2)
theorem AddsInv.add {ahf : Int → List Int} {done : List Int} {S : SS} (h : AddsInv ahf done S) {p : Int} (hp : p ∉ done) : AddsInv ahf (done ++ [p]) (S.add p (ahf p)) := by
  obtain ⟨a, _⟩ := add_to h.z p (ahf p)
  refine ⟨a.z, fun j => ?_, fun q => ?_, a.ready.trans h.ready, a.passed.trans h.passed, a.fin.trans h.fin, a.pin.trans h.pin⟩
  · rw [a.np, h.np]
    by_cases e : j = p
    · subst e; simp [hp]
    · by_cases hj : j ∈ done <;> simp [hj, e]
  · rw [a.succ, h.succ, List.flatMap_append]; simp
theorem sum_le {f : Int → Nat} {b : Nat} : ∀ (l : List Int), (∀ k ∈ l, f k ≤ b) → (l.map f).sum ≤ b * l.length
  | [], _ => by simp
  | a :: l, h => by
    have h1 := sum_le l fun k hk => h k (List.mem_cons_of_mem _ hk)
    have h2 := h a List.mem_cons_self
    simp only [List.map_cons, List.sum_cons, List.length_cons]
    rw [Nat.mul_succ]
    omega
/-- the told graph: what prepare wants, and what it leaves -/
theorem AddsInv.graph {cov : List (List Int)} (hc : CovOk cov) {L : List Int} {S : SS} (h : AddsInv (ah cov) L S) (hL : ∀ p, p ∈ L ↔ p ∈ places) (hnd : L.Nodup) (ho : ∀ p, p ∈ S.order ↔ p ∈ places) :
    Graph S Int.toNat ∧ msU S [] ≤ 2000 ∧ (∀ k, (S.succ k).length ≤ 1000) ∧ S.order.length ≤ 1000 ∧
    ∀ ep, KI (ah cov) L (S.prep ep) [] [] S.zero ∧ S.zero = S.order.filter fun p => decide (ah cov p = []) := by
  have hlen4 : ∀ p ∈ L, (ah cov p).length ≤ 4 := fun p hp => ah_len hc ((hL p).mp hp)
  have hLl : L.length ≤ 8 := hnd.length_le_of_subset (l₂ := places) fun p hp => (hL p).mp hp
  have hol : S.order.length ≤ 8 := h.z.nd.length_le_of_subset (l₂ := places) fun p hp => (ho p).mp hp
  have hsl : ∀ k, (S.succ k).length ≤ 32 := fun k => by
    rw [h.succ]; have := succ_len (ahf := ah cov) (q := k) L hlen4; omega
  have hz : S.zero = S.order.filter fun p => decide (ah cov p = []) := by
    unfold SS.zero
    apply List.filter_congr
    intro p hp
    rw [h.np p, if_pos ((hL p).mpr ((ho p).mp hp))]
    simp only [decide_eq_decide]
    rw [← List.length_eq_zero_iff]; omega
  refine ⟨⟨fun k hk j hj => ?_⟩, ?_, fun k => Nat.le_trans (hsl k) (by decide), Nat.le_trans hol (by decide), fun ep => ⟨?_, hz⟩⟩
  · rw [h.succ] at hj
    obtain ⟨p, hp, hjp⟩ := List.mem_flatMap.mp hj
    have e := List.eq_of_mem_replicate hjp
    subst e
    have hc0 : 0 < (ah cov j).count k := by
      rcases Nat.eq_zero_or_pos ((ah cov j).count k) with h0 | h0
      · rw [h0] at hjp; cases hjp
      · exact h0
    have hpl := (hL j).mp hp
    obtain ⟨h1, h2⟩ := ah_lt hc hpl (List.count_pos_iff.mp hc0)
    have := places_mem.mp h1
    have := places_mem.mp hpl
    exact ⟨(ho j).mpr hpl, by omega⟩
  · unfold msU
    have e : (S.order.filter fun k => decide (k ∉ ([] : List Int))) = S.order := List.filter_eq_self.mpr (by simp)
    rw [e]
    have := sum_le (f := fun k => 2 + (S.succ k).length) (b := 34) S.order fun k _ => by have := hsl k; omega
    omega
  · refine ⟨fun p => (ho p).trans (hL p).symm, hnd, h.succ, fun p hp a ha => (hL a).mpr (ah_lt hc ((hL p).mp hp) ha).1, fun p hp => ?_, by simp, by simp, by simp, by simp, ?_, ?_, rfl, ?_, fun p => ?_⟩
    · show S.np p = _
      rw [h.np, if_pos hp]
      have e : ((ah cov p).filter fun a => decide (a ∉ ([] : List Int))) = ah cov p := List.filter_eq_self.mpr (by simp)
      rw [e]; simp
    · show S.passed = _; rw [h.passed]; rfl
    · show S.fin = _; rw [h.fin]; rfl
    · exact List.Pairwise.filter _ h.z.nd
    · rw [hz, List.mem_filter, ho p, hL p]
      simp only [decide_eq_true_eq, List.not_mem_nil, not_false_eq_true, true_and]
      constructor
      · rintro ⟨h1, h2⟩; exact ⟨h1, by rw [h2]; intro a ha; cases ha⟩
      · rintro ⟨h1, h2⟩
        refine ⟨h1, ?_⟩
        cases hq : ah cov p with
        | nil => rfl
        | cons a r => exact (h2 a (by rw [hq]; exact List.mem_cons_self)).elim
section
variable {X : Cx} {A : Around} {φ : MEnv} {σ : MHeap} {P : MF → MEnv → MHeap → Prop}
theorem law_s11 (hX : X.Ok) (hA : AOk 2 A) {z : FnRest} {L : Addr} (h : ∀ σ' ad, SorterIs X σ' ad S0 → (∀ b, σ b ≠ none → σ' b = σ b) → (∀ l, live S0 l → σ (ad l) = none) → P .next (("sorter", .ref (ad .self)) :: φ) σ') : WS1 X A (lEnv z L) (lSt 11) φ σ P :=
  WS1_assign (WE_new0 hX (gl_ts hX) kp_ts (new_spec hX hA fun σ' ad h1 h2 h3 => h σ' ad h1 h2 h3))
def lFor12 : List Stmt := match lSt 12 with | .For _ _ b _ _ => b | _ => []
theorem law_add (hX : X.Ok) (hA : AOk 5 A) {z : FnRest} {L : Addr} {ad₀ : Loc → Addr} {σ₀ : MHeap} {cov : List (List Int)} (hc : CovOk cov)
    (h : ∀ φ' σ' ad' S', SorterIs X σ' ad' S' → Grow S0 ad₀ σ₀ S' ad' σ' → AddsInv (ah cov) places S' → S'.order = places → φ'.lookup ("sorter" : Str) = some (.ref (ad' .self)) → (∀ x mv, x ≠ ("place" : Str) → x ≠ ("ahead" : Str) → φ.lookup x = some mv → φ'.lookup x = some mv) → P .next φ' σ') :
    ∀ (rest done : List Int) (φ' : MEnv) (σ' : MHeap) (ad' : Loc → Addr) (S' : SS), places = done ++ rest → SorterIs X σ' ad' S' → Grow S0 ad₀ σ₀ S' ad' σ' → AddsInv (ah cov) done S' → S'.order = done → φ'.lookup ("sorter" : Str) = some (.ref (ad' .self)) →
      (∀ x mv, x ≠ ("place" : Str) → x ≠ ("ahead" : Str) → φ.lookup x = some mv → φ'.lookup x = some mv) →
      LoopQ2 X A (lEnv z L) "place" "ahead" lFor12 P (rest.map fun p => (.int p, intsMV (ah cov p))) φ' σ' := by
  intro rest
  induction rest with
  | nil =>
    intro done φ' σ' ad' S' hd hs hg hi ho hl hx
    rw [List.append_nil] at hd; subst hd
    exact h φ' σ' ad' S' hs hg hi ho hl hx
  | cons p rest ih =>
    intro done φ' σ' ad' S' hd hs hg hi ho hl hx
    have hpp : p ∈ places := by rw [hd]; simp
    have hnd := places_nd
    rw [hd] at hnd
    have hpd : p ∉ done := fun h => (List.nodup_append.mp hnd).2.2 p h p (by simp) rfl
    have hdl : done.length ≤ 8 := by have := congrArg List.length hd; simp [places] at this; omega
    have hal := ah_len hc hpp
    have had : ∀ a ∈ ah cov p, a ∈ S'.order := fun a ha => by
      obtain ⟨h1, h2⟩ := ah_lt hc hpp ha
      rw [ho]
      rw [hd] at h1
      rcases List.mem_append.mp h1 with h3 | h3
      · exact h3
      · exfalso
        have hlt := places_lt
        rw [hd] at hlt
        rcases List.mem_cons.mp h3 with rfl | h3
        · omega
        · have := (List.pairwise_append.mp hlt).2.1
          rw [List.pairwise_cons] at this
          have := this.1 a h3
          omega
    have hsl : ∀ j, (S'.succ j).length + (ah cov p).length ≤ 1000 := fun j => by
      rw [hi.succ]
      have := succ_len (ahf := ah cov) (q := j) done fun q hq => ah_len hc (by rw [hd]; exact List.mem_append_left _ hq)
      omega
    refine WS_cons (WS1_if (WB_compare (WE_methS hX bc_add (x := ad' .self) (WE_name hl ⟨rfl, hs.at_ .self trivial, hs.at_ .dict trivial, attrs_none (by decide) (by decide) (by decide) (by decide), WArgs_sp (WL_cons (WE_name rfl (WL_star (WE_name lookup_cons_self ⟨_, rfl, ?_, WL_nil ?_⟩))))⟩))))
    · rw [List.length_map]; exact Nat.le_trans hal (by decide)
    rw [List.append_nil]
    refine add_spec hX hA hs hi.pin hi.ready (by rw [ho]; omega) hsl fun σ2 ad2 hs2 hg2 => WE_none (V_isNot (Tr_bool (WS_nil (WS_nil ?_))))
    refine ih (done ++ [p]) _ σ2 ad2 (S'.add p (ah cov p)) (by rw [hd]; simp) hs2 (Grow.trans (Grow.dom hs hg) hg hg2) (hi.add hpd) ?_ ?_ ?_
    · rw [(add_to hi.z p (ah cov p)).2 (by rw [ho]; exact hpd) had, ho]
    · rw [(hg2.old .self trivial).2]; exact hl
    · intro x mv h1 h2 h3
      have e1 : (x == ("place" : Str)) = false := by simpa using h1
      have e2 : (x == ("ahead" : Str)) = false := by simpa using h2
      simp only [List.lookup_cons, e1, e2]
      exact hx x mv h1 h2 h3
theorem law_s12 (hX : X.Ok) (hA : AOk 5 A) {z : FnRest} {L : Addr} {ad₀ : Loc → Addr} {cov : List (List Int)} (hc : CovOk cov) (hs : SorterIs X σ ad₀ S0) (hl : φ.lookup ("sorter" : Str) = some (.ref (ad₀ .self))) (hp : φ.lookup ("places" : Str) = some (intsMV places)) (hcv : φ.lookup ("covers" : Str) = some (rowsMV cov))
    (h : ∀ φ' σ' ad' S', SorterIs X σ' ad' S' → Grow S0 ad₀ σ S' ad' σ' → AddsInv (ah cov) places S' → S'.order = places → φ'.lookup ("sorter" : Str) = some (.ref (ad' .self)) → (∀ x mv, x ≠ ("place" : Str) → x ≠ ("ahead" : Str) → φ.lookup x = some mv → φ'.lookup x = some mv) → P .next φ' σ') : WS1 X A (lEnv z L) (lSt 12) φ σ P := by
  refine WS1_for2 hA.handled ?_
  refine WE_callF (gl_ties hX) (fn_law_ties hX) (WL_cons (WE_name hp (WL_cons (WE_name hcv (WL_nil (ties_spec hX (hA.less (by decide)) hc (fun p hp => places_mem.mp hp) (by decide) ?_))))))
  rw [ties_of hc places_nd (fun p hp => hp) (places_rows cov)]
  refine ⟨places.map fun p => (.int p, intsMV (ah cov p)), by rw [List.map_map, List.map_map]; rfl, ?_⟩
  exact law_add hX hA hc h places [] φ σ ad₀ S0 rfl hs Grow.refl (AddsInv.zero _) rfl hl (fun x mv _ _ hx => hx)
theorem law_s13 (hX : X.Ok) (hA : AOk 2 A) (hbl : Below' X A) {z : FnRest} {L : Addr} {ad : Loc → Addr} {S : SS} {r : Int → Nat} (hs : SorterIs X σ ad S) (hl : φ.lookup ("sorter" : Str) = some (.ref (ad .self))) (hr : S.ready = none) (hpin : S.pin = none) (hg : Graph S r) (hN : msU S [] ≤ 2000) (hsl : ∀ k, (S.succ k).length ≤ 1000) (hol : S.order.length ≤ 1000)
    (h : ∀ σ' ad' ep, SorterIs X σ' ad' (S.prep ep) → Grow S ad σ (S.prep ep) ad' σ' → P .next φ σ') : WS1 X A (lEnv z L) (lSt 13) φ σ P := by
  refine WS1_if (WB_compare (WE_meth hX mc_prepare (fn_ts_prepare hX) (x := ad .self) (WE_name hl ⟨rfl, hs.at_ .self trivial, hs.at_ .dict trivial, attrs_none (by decide) (by decide) (by decide) (by decide), WL_nil (prepare_spec hX hA hbl hs hr hpin hg hN hsl hol ?_)⟩)))
  intro σ' ad' ep h1 h2
  exact WE_none (V_isNot (Tr_bool (WS_nil (h σ' ad' ep h1 h2))))
end
end Mine
end
section
open PySem PySem.W PyProof.Rows PySem.Calls
set_option Elab.async false
set_option maxRecDepth 100000
set_option linter.unusedVariables false
set_option linter.unusedSimpArgs false
namespace Mine
def decI : MV → List Int
  | .list xs => xs.filterMap fun m => match m with | .int i => some i | _ => none
  | _ => []
theorem decI_ints (r : List Int) : decI (intsMV r) = r := by
  show (r.map MV.int).filterMap _ = r
  induction r with
  | nil => rfl
  | cons a r ih => rw [List.map_cons, List.filterMap_cons]; simp only; rw [ih]
def fRows (g : List Int → Bool) (mv : MV) : Option MV := if g (decI mv) then some mv else none
theorem fRows_map (g : List Int → Bool) (rs : List (List Int)) : (rs.map intsMV).filterMap (fRows g) = (rs.filter g).map intsMV := by
  induction rs with
  | nil => rfl
  | cons r rs ih =>
    have e : fRows g (intsMV r) = if g r then some (intsMV r) else none := by unfold fRows; rw [decI_ints]
    rw [List.map_cons, List.filterMap_cons, e]
    cases h : g r with
    | true => rw [List.filter_cons_of_pos h]; simp only [if_true]; rw [ih]; rfl
    | false => rw [List.filter_cons_of_neg (by rw [h]; decide)]; simp only [Bool.false_eq_true, if_false]; exact ih
def fMapR (g : List Int → List Int) (mv : MV) : Option MV := some (intsMV (g (decI mv)))
theorem fMapR_map (g : List Int → List Int) (rs : List (List Int)) : (rs.map intsMV).filterMap (fMapR g) = (rs.map g).map intsMV := by
  induction rs with
  | nil => rfl
  | cons r rs ih =>
    have e : fMapR g (intsMV r) = some (intsMV (g r)) := by unfold fMapR; rw [decI_ints]
    rw [List.map_cons, List.filterMap_cons, e, ih]; rfl
def leftOf (rows : List (List Int)) (read : List Int) : List (List Int) := rows.map fun r => r.filter fun p => decide (p ∉ read)
/-- the law's test for a place that can go -/
def goes (left : List (List Int)) (p : Int) : Bool := (left.filter fun row => row.any (· == p) && (row.getD 0 0 != p)).isEmpty
def lFor17 : List Stmt := match lSt 17 with | .For _ _ b _ _ => b | _ => []
def bSt (n : Nat) : Stmt := lFor17.getD n (.Pass ⟨0, 0, 0, 0⟩)
section
variable {X : Cx} {A : Around} {φ : MEnv} {σ : MHeap} {P : MF → MEnv → MHeap → Prop}
theorem law_s14 (hX : X.Ok) (hA : A.handled = none) {z : FnRest} {L : Addr} {rows : List (List Int)} (hr : φ.lookup ("rows" : Str) = some (rowsMV rows)) (hl : rows.length ≤ 100) (hll : ∀ r ∈ rows, r.length ≤ 100) (h : P .next (("left", rowsMV rows) :: φ) σ) : WS1 X A (lEnv z L) (lSt 14) φ σ P := by
  refine WS1_assign (WE_comp [] (fMapR id) ?_ trivial)
  refine WE_name hr ⟨_, _, iter_list hA, trivial, ?_, ?_, ?_⟩
  · rw [List.length_map]; exact Nat.le_trans hl (by decide)
  · intro C mv hmv
    obtain ⟨r, hr, rfl⟩ := List.mem_map.mp hmv
    refine ⟨_, rfl, WE_callT (gl_list hX) (WL_cons (WE_name lookup_cons_self (WL_nil (T_list ?_ ⟨rfl, ?_⟩))))⟩
    · rw [List.length_map]; exact Nat.le_trans (hll r hr) (by decide)
    · rw [decI_ints]; rfl
  · rw [fMapR_map, List.map_id]; exact h
theorem law_s15 {z : FnRest} {L : Addr} (h : ∀ a, σ a = none → P .next (("given", .ref a) :: φ) (σ.put a (mlist []))) : WS1 X A (lEnv z L) (lSt 15) φ σ P :=
  WS1_assign (WE_listM (WL_nil ⟨by decide, fun a ha => h a ha⟩))
theorem law_s16 {z : FnRest} {L : Addr} (h : ∀ a, σ a = none → P .next (("read", .ref a) :: φ) (σ.put a (mlist []))) : WS1 X A (lEnv z L) (lSt 16) φ σ P :=
  WS1_assign (WE_listM (WL_nil ⟨by decide, fun a ha => h a ha⟩))
theorem any_mem {l : List Int} {k : Int} : l.any (· == k) = decide (k ∈ l) := by
  rw [Bool.eq_iff_iff, List.any_eq_true, decide_eq_true_eq]
  constructor
  · rintro ⟨x, hx, hxe⟩; have := beq_iff_eq.mp hxe; subst this; exact hx
  · intro h; exact ⟨_, h, by simp⟩
/-- [one for one in xs if one not in ys], ys a list that may change -/
theorem notin_elem {env : Env} {ψ : MEnv} {one ys : Str} {p1 p2 p3 pe : Pos} {ay : Addr} {yl : List Int} {p : Int} (h1 : ψ.lookup one = some (.int p)) (h2 : ψ.lookup ys = some (.ref ay)) (hy : σ ay = some (mlist (yl.map .int))) (hd1 : (one == ("__debug__" : Str)) = false) (hd2 : (ys == ("__debug__" : Str)) = false) :
    Elem X A env [.Compare (.Name one p1) [.NotIn] [.Name ys p2] p3] (.Name one pe) ψ σ (fFilter (fun p => decide (p ∉ yl)) (.int p)) := by
  refine WB_compare (WE_name h1 (WE_name h2 (V_notInM hy (Tr_bool ⟨rfl, ?_⟩)) hd2) hd1)
  rw [any_mem]
  show match !decide (p ∈ yl) with | true => _ | false => _
  by_cases h : p ∈ yl
  · rw [decide_eq_true h]
    show fFilter _ _ = none
    simp [fFilter, h]
  · rw [decide_eq_false h]
    exact ⟨.int p, by simp [fFilter, h], WE_name h1 ⟨rfl, rfl⟩ hd1⟩
theorem law_b0 (hA : A.handled = none) {z : FnRest} {L : Addr} {ar : Addr} {read : List Int} (hp : φ.lookup ("places" : Str) = some (intsMV places)) (hr : φ.lookup ("read" : Str) = some (.ref ar)) (har : σ ar = some (mlist (read.map .int)))
    (h : P .next (("free", intsMV (places.filter fun p => decide (p ∉ read))) :: φ) σ) : WS1 X A (lEnv z L) (bSt 0) φ σ P := by
  refine WS1_assignComp [("read", .ref ar)] (fFilter fun p => decide (p ∉ read)) ?_ ⟨hr, by rfl, trivial⟩
  refine WE_name hp ⟨_, _, iter_list hA, trivial, by show 8 ≤ sizeLine; decide, ?_, ?_⟩
  · intro C mv hmv
    obtain ⟨p, hp2, rfl⟩ := List.mem_map.mp hmv
    exact notin_elem rfl rfl har (by decide) (by decide)
  · rw [fFilter_map]; exact h
theorem law_b2 (hA : A.handled = none) {z : FnRest} {L : Addr} {ag : Addr} {given free : List Int} (hf : φ.lookup ("free" : Str) = some (intsMV free)) (hfl : free.length ≤ 100) (hr : φ.lookup ("given" : Str) = some (.ref ag)) (hag : σ ag = some (mlist (given.map .int)))
    (h : P .next (("fresh", intsMV (free.filter fun p => decide (p ∉ given))) :: φ) σ) : WS1 X A (lEnv z L) (bSt 2) φ σ P := by
  refine WS1_assignComp [("given", .ref ag)] (fFilter fun p => decide (p ∉ given)) ?_ ⟨hr, by rfl, trivial⟩
  refine WE_name hf ⟨_, _, iter_list hA, trivial, by rw [List.length_map]; exact Nat.le_trans hfl (by decide), ?_, ?_⟩
  · intro C mv hmv
    obtain ⟨p, hp2, rfl⟩ := List.mem_map.mp hmv
    exact notin_elem rfl rfl hag (by decide) (by decide)
  · rw [fFilter_map]; exact h
theorem law_b1 (hA : AOk 0 A) {z : FnRest} {L : Addr} {free : List Int} {left : List (List Int)} (hf : φ.lookup ("free" : Str) = some (intsMV free)) (hfl : free.length ≤ 100) (hl : φ.lookup ("left" : Str) = some (rowsMV left)) (hll : left.length ≤ 100)
    (h : P .next (("free", intsMV (free.filter (goes left))) :: φ) σ) : WS1 X A (lEnv z L) (bSt 1) φ σ P := by
  refine WS1_assignComp [("left", rowsMV left)] (fFilter (goes left)) ?_ ⟨hl, by rfl, trivial⟩
  refine WE_name hf ⟨_, _, iter_list hA.handled, trivial, by rw [List.length_map]; exact Nat.le_trans hfl (by decide), ?_, ?_⟩
  · intro C mv hmv
    obtain ⟨p, hp2, rfl⟩ := List.mem_map.mp hmv
    have hu : A.units + 64 < cLine := by have := hA.units; omega
    refine WB_compare (WE_comp [("one", .int p)] (fRows fun row => row.any (· == p) && (row.getD 0 0 != p)) ?_ ⟨rfl, by rfl, trivial⟩)
    refine WE_name rfl ⟨_, _, iter_list hA.handled, trivial, by rw [List.length_map]; exact Nat.le_trans hll (by decide), ?_, ?_⟩
    · intro C2 mv2 hmv2
      obtain ⟨row, hrow, rfl⟩ := List.mem_map.mp hmv2
      have ef : fRows (fun row => row.any (· == p) && (row.getD 0 0 != p)) (intsMV row) = if (row.any (· == p) && (row.getD 0 0 != p)) then some (intsMV row) else none := by unfold fRows; rw [decI_ints]
      refine WB_boolop (WAll_and (WB_compare (WE_name rfl (WE_name rfl (V_inInts (Tr_bool ?_))))))
      cases h1 : row.any (· == p) with
      | false =>
        refine ⟨rfl, ?_⟩
        show fRows _ (intsMV row) = none
        rw [ef, h1]; rfl
      | true =>
        have hne : 0 < row.length := by
          cases row with
          | nil => cases h1
          | cons a r => simp
        refine WAll_and (WB_compare (EV.go (EV_ints (ns := row) (k := 0) (EV_name rfl) EV_int (by decide) hne (by decide)) (WE_name rfl (V_ne (Tr_bool ?_)))))
        show match (row.getD 0 0 != p) with | true => _ | false => _
        cases h2 : (row.getD 0 0 != p) with
        | false =>
          refine ⟨rfl, ?_⟩
          show fRows _ (intsMV row) = none
          rw [ef, h1, h2]; rfl
        | true =>
          refine WAll_and_nil ⟨rfl, ?_⟩
          exact ⟨intsMV row, by rw [ef, h1, h2]; rfl, WE_name rfl ⟨rfl, rfl⟩⟩
    · rw [fRows_map]
      refine WE_list (WL_nil ⟨by decide, V_eqNil (rs := left.filter fun row => row.any (· == p) && (row.getD 0 0 != p)) hu (Tr_bool ⟨rfl, ?_⟩)⟩)
      show match goes left p with | true => _ | false => _
      cases hg : goes left p with
      | true => exact ⟨.int p, if_pos hg, WE_name rfl ⟨rfl, rfl⟩⟩
      | false => exact if_neg (by show ¬ (goes left p = true); rw [hg]; decide)
  · rw [fFilter_map]; exact h
end
end Mine
end
section
open PySem PySem.W PyProof.Rows PySem.Calls
set_option Elab.async false
set_option maxRecDepth 100000
set_option linter.unusedVariables false
set_option linter.unusedSimpArgs false
namespace Mine
section
variable {X : Cx} {A : Around} {φ : MEnv} {σ : MHeap} {P : MF → MEnv → MHeap → Prop}
theorem law_b3 (hX : X.Ok) (hA : AOk 1 A) {z : FnRest} {L : Addr} {ad : Loc → Addr} {S : SS} {rl : List Int} (hs : SorterIs X σ ad S) (hl : φ.lookup ("sorter" : Str) = some (.ref (ad .self))) (hr : S.ready = some rl) (hact : (decide (S.fin < S.passed) || !rl.isEmpty) = true)
    (hf : φ.lookup ("fresh" : Str) = some (intsMV rl)) (hin : ∀ k ∈ rl, k ∈ S.order) (hlen : rl.length ≤ 100) (h : ∀ σ', SorterIs X σ' ad (S.afterReady rl) → Rest S ad σ σ' → P .next φ σ') : WS1 X A (lEnv z L) (bSt 3) φ σ P := by
  have hu : A.units + 64 < cLine := by have := hA.units; omega
  have hl1 : (rl.map MV.int).length ≤ sizeLine := by rw [List.length_map]; exact Nat.le_trans hlen (by decide)
  refine WS1_if (WB_boolop (WAll_or ?_))
  refine WB_compare (WE_meth hX mc_active (fn_ts_is_active hX) (x := ad .self) (WE_name hl ⟨rfl, hs.at_ .self trivial, hs.at_ .dict trivial, attrs_none (by decide) (by decide) (by decide) (by decide), WL_nil (active_spec hX hA hs hr (by omega) (WE_bool (V_isNot (Tr_bool ?_))))⟩))
  rw [hact]
  refine WAll_or ?_
  refine WB_compare (WE_meth hX mc_ready (fn_ts_get_ready hX) (x := ad .self) (WE_name hl ⟨rfl, hs.at_ .self trivial, hs.at_ .dict trivial, attrs_none (by decide) (by decide) (by decide) (by decide), WL_nil (ready_spec hX hA hs hr hin (by omega) fun σ' h1 h2 => ?_)⟩))
  refine WE_callT (gl_tuple hX) (WL_cons (WE_name hf (WL_nil (T_tuple hl1 (V_neTup hu (Tr_bool ?_))))))
  rw [decide_eq_true rfl]
  exact WAll_or_nil (WS_nil (h σ' h1 h2))
theorem law_b4 {z : FnRest} {L : Addr} {ag : Addr} {given fresh : List Int} (hg : φ.lookup ("given" : Str) = some (.ref ag)) (hf : φ.lookup ("fresh" : Str) = some (intsMV fresh)) (hag : σ ag = some (mlist (given.map .int))) (hl : given.length + fresh.length ≤ 100)
    (h : P .next (("given", .ref ag) :: φ) (σ.put ag (mlist ((given ++ fresh).map .int)))) : WS1 X A (lEnv z L) (bSt 4) φ σ P := by
  refine WS1_iadd hg (WE_name hf ⟨_, _, rfl, hag, ?_, ?_⟩)
  · rw [List.length_map, List.length_map]; exact Nat.le_trans hl (by decide)
  · rw [← List.map_append]; exact h
theorem law_b5 (hX : X.Ok) (hA : A.handled = none) {z : FnRest} {L : Addr} {free : List Int} {turn : Nat} {total : Int} (hf : φ.lookup ("free" : Str) = some (intsMV free)) (hfl : free.length ≤ 100) (hne : 0 < free.length) (ht : φ.lookup ("turn" : Str) = some (.int (turn : Int))) (ht8 : turn < 8) (htt : φ.lookup ("total" : Str) = some (.int total))
    (h : ∀ g ∈ free, P .next (("place", .int g) :: φ) σ) : WS1 X A (lEnv z L) (bSt 5) φ σ P := by
  have hb := fmod_bounds ((turn : Int) * turn + 1 + total) (free.length : Int) (by omega)
  have hlt : (((turn : Int) * turn + 1 + total).fmod (free.length : Int)).toNat < free.length := by omega
  have hmul : IntMulOk (turn : Int) (turn : Int) := by
    have : turn = 0 ∨ turn = 1 ∨ turn = 2 ∨ turn = 3 ∨ turn = 4 ∨ turn = 5 ∨ turn = 6 ∨ turn = 7 := by omega
    rcases this with rfl | rfl | rfl | rfl | rfl | rfl | rfl | rfl <;> exact IntMulOk.of_left (by decide)
  refine WS1_assign ?_
  refine WE_item (WE_name hf ?_)
  refine WE_binop (EV.go (mv := .int ((turn : Int) * turn + 1 + total)) ?_ ?_)
  · exact EV_bin (EV_bin (EV_bin (EV_name ht) (EV_name ht) (fun Q hq => V_mul hmul hq)) EV_int (fun Q hq => V_add hq)) (EV_name htt) (fun Q hq => V_add hq)
  refine WE_callB (gl_len' hX) (WL_cons (WE_name hf (WL_nil (B_len (by rw [List.length_map]; exact Nat.le_trans hfl (by decide)) ?_))))
  rw [List.length_map]
  refine V_mod (by omega) ?_
  refine V_item (mv := .int (free[(((turn : Int) * turn + 1 + total).fmod (free.length : Int)).toNat]'hlt)) hb.1 ?_ (h _ (List.getElem_mem hlt)) (by omega)
  rw [List.getElem?_map, List.getElem?_eq_getElem hlt]; rfl
theorem law_b6 (hX : X.Ok) (hA : AOk 1 A) {z : FnRest} {L : Addr} {ad : Loc → Addr} {S : SS} {g : Int} (hs : SorterIs X σ ad S) (hl : φ.lookup ("sorter" : Str) = some (.ref (ad .self))) (hp : φ.lookup ("place" : Str) = some (.int g)) (hr : S.ready ≠ none) (hok : DoneOk S [g])
    (h : ∀ σ', SorterIs X σ' ad (S.done1 g) → Rest S ad σ σ' → P .next φ σ') : WS1 X A (lEnv z L) (bSt 6) φ σ P := by
  refine WS1_if (WB_compare (WE_meth hX mc_done (fn_ts_done hX) (x := ad .self) (WE_name hl ⟨rfl, hs.at_ .self trivial, hs.at_ .dict trivial, attrs_none (by decide) (by decide) (by decide) (by decide), WL_cons (WE_name hp (WL_nil (done_spec hX hA hs (ks := [g]) hr (by show 1 ≤ 1000; decide) hok fun σ' h1 h2 => ?_)))⟩)))
  exact WE_none (V_isNot (Tr_bool (WS_nil (h σ' h1 h2))))
theorem law_b7 {z : FnRest} {L : Addr} {ar : Addr} {read : List Int} {g : Int} (hr : φ.lookup ("read" : Str) = some (.ref ar)) (hp : φ.lookup ("place" : Str) = some (.int g)) (har : σ ar = some (mlist (read.map .int))) (hl : read.length ≤ 100)
    (h : P .next φ (σ.put ar (mlist ((read ++ [g]).map .int)))) : WS1 X A (lEnv z L) (bSt 7) φ σ P := by
  refine WS1_expr (WE_append (WE_name hr ⟨ar, _, rfl, har, WE_name hp ⟨_, har, ?_, rfl, ?_⟩⟩))
  · rw [List.length_map]; exact Nat.le_trans hl (by decide)
  · have e : read.map MV.int ++ [.int g] = (read ++ [g]).map MV.int := by simp
    rw [e]; exact h
theorem law_b8 (hA : A.handled = none) {z : FnRest} {L : Addr} {left : List (List Int)} {g : Int} (hl : φ.lookup ("left" : Str) = some (rowsMV left)) (hp : φ.lookup ("place" : Str) = some (.int g)) (hll : left.length ≤ 100) (hrl : ∀ r ∈ left, r.length ≤ 100)
    (h : P .next (("left", rowsMV (left.map fun r => r.filter fun p => p != g)) :: φ) σ) : WS1 X A (lEnv z L) (bSt 8) φ σ P := by
  refine WS1_assign (WE_comp [("place", .int g)] (fMapR fun r => r.filter fun p => p != g) ?_ ⟨hp, by rfl, trivial⟩)
  refine WE_name hl ⟨_, _, iter_list hA, trivial, by rw [List.length_map]; exact Nat.le_trans hll (by decide), ?_, ?_⟩
  · intro C mv hmv
    obtain ⟨r, hr, rfl⟩ := List.mem_map.mp hmv
    have er : fMapR (fun r => r.filter fun p => p != g) (intsMV r) = some (intsMV (r.filter fun p => p != g)) := by unfold fMapR; rw [decI_ints]
    refine ⟨_, er, ?_⟩
    refine WE_comp [("place", .int g)] (fFilter fun p => p != g) ?_ ⟨rfl, by rfl, trivial⟩
    refine WE_name rfl ⟨_, _, iter_list hA, trivial, by rw [List.length_map]; exact Nat.le_trans (hrl r hr) (by decide), ?_, ?_⟩
    · intro C2 mv2 hmv2
      obtain ⟨p, hp2, rfl⟩ := List.mem_map.mp hmv2
      refine WB_compare (WE_name rfl (WE_name rfl (V_ne (Tr_bool ⟨rfl, ?_⟩))))
      show match (p != g) with | true => _ | false => _
      cases hb : (p != g) with
      | true => exact ⟨.int p, if_pos hb, WE_name rfl ⟨rfl, rfl⟩⟩
      | false => exact if_neg (by show ¬ ((p != g) = true); rw [hb]; decide)
    · rw [fFilter_map]; exact ⟨rfl, rfl⟩
  · rw [fMapR_map]; exact h
end
end Mine
end
section
open PySem PySem.W PyProof.Rows PySem.Calls
set_option Elab.async false
set_option maxRecDepth 100000
set_option linter.unusedVariables false
set_option linter.unusedSimpArgs false
namespace Mine
def rowsC (cov : List (List Int)) : List (List Int) := (List.range 4).map (rowOf cov)
theorem rowsC_mem {cov : List (List Int)} {r : List Int} (h : r ∈ rowsC cov) : ∃ k, k < 4 ∧ r = rowOf cov k := by
  obtain ⟨k, hk, rfl⟩ := List.mem_map.mp h
  exact ⟨k, List.mem_range.mp hk, rfl⟩
theorem goes_iff {cov : List (List Int)} (hc : CovOk cov) {read : List Int} (hi : RowInv cov read) {p : Int} (hp : p ∈ places) (hr : p ∉ read) : goes (leftOf (rowsC cov) read) p = decide (∀ a ∈ ah cov p, a ∈ read) := by
  rw [Bool.eq_iff_iff, decide_eq_true_eq]
  unfold goes
  rw [List.isEmpty_iff, List.filter_eq_nil_iff]
  constructor
  · intro h a ha
    obtain ⟨k, hk, h1, h2⟩ := (ah_mem hc hp).mp ha
    by_cases har : a ∈ read
    · exact har
    · exfalso
      have hpr : p ∈ rowOf cov k := row_mem.mpr ⟨hp, h1⟩
      obtain ⟨B, e, hpb⟩ := split_mem hpr (row_nd cov k)
      have hrow : (rowOf cov k).filter (fun p => decide (p ∉ read)) ∈ leftOf (rowsC cov) read := List.mem_map.mpr ⟨_, List.mem_map.mpr ⟨k, List.mem_range.mpr hk, rfl⟩, rfl⟩
      have h3 := h _ hrow
      apply h3
      rw [Bool.and_eq_true]
      have hab : a ∈ before (rowOf cov k) p := List.mem_of_getLast? h2
      refine ⟨?_, ?_⟩
      · rw [any_mem]; exact decide_eq_true (List.mem_filter.mpr ⟨hpr, by simpa using hr⟩)
      · have e2 : (rowOf cov k).filter (fun p => decide (p ∉ read)) = (before (rowOf cov k) p).filter (fun p => decide (p ∉ read)) ++ (p :: B).filter (fun p => decide (p ∉ read)) := by
          conv => lhs; rw [e]
          rw [List.filter_append]
        rw [e2]
        have ha2 : a ∈ (before (rowOf cov k) p).filter (fun p => decide (p ∉ read)) := List.mem_filter.mpr ⟨hab, by simpa using har⟩
        cases hq : (before (rowOf cov k) p).filter (fun p => decide (p ∉ read)) with
        | nil => rw [hq] at ha2; cases ha2
        | cons x xs =>
          show (x != p) = true
          have hx : x ∈ before (rowOf cov k) p := (List.mem_filter.mp (by rw [hq]; exact List.mem_cons_self)).1
          have hne : x ≠ p := fun e => hpb (e ▸ hx)
          simpa using hne
  · intro h row hrow
    obtain ⟨r, hr1, rfl⟩ := List.mem_map.mp hrow
    obtain ⟨k, hk, rfl⟩ := rowsC_mem hr1
    rw [Bool.and_eq_true, any_mem]
    rintro ⟨h1, h2⟩
    have h1' := of_decide_eq_true h1
    have hin := (row_mem.mp (List.mem_filter.mp h1').1).2
    obtain ⟨B, _, e2⟩ := first_left hc hi hp hr h hk hin
    rw [e2] at h2
    simp at h2
/-- what holds at the start of a turn -/
structure MI (X : Cx) (cov : List (List Int)) (total : Int) (ar ag : Addr) (ad : Loc → Addr) (S : SS) (read given : List Int) (φ : MEnv) (σ : MHeap) : Prop where
  hs : SorterIs X σ ad S
  ki : KI (ah cov) places S read given (places.filter fun p => decide (p ∉ given ∧ ∀ a ∈ ah cov p, a ∈ read))
  ri : RowInv cov read
  har : σ ar = some (mlist (read.map .int))
  hag : σ ag = some (mlist (given.map .int))
  ne : ar ≠ ag
  nr : ∀ l, live S l → ad l ≠ ar ∧ ad l ≠ ag
  sorter : φ.lookup ("sorter" : Str) = some (.ref (ad .self))
  places : φ.lookup ("places" : Str) = some (intsMV places)
  left : φ.lookup ("left" : Str) = some (rowsMV (leftOf (rowsC cov) read))
  read : φ.lookup ("read" : Str) = some (.ref ar)
  given : φ.lookup ("given" : Str) = some (.ref ag)
  total : φ.lookup ("total" : Str) = some (.int total)
def touched (x : Str) : Bool := x == ("free" : Str) || x == ("fresh" : Str) || x == ("place" : Str) || x == ("left" : Str) || x == ("turn" : Str) || x == ("given" : Str)
def Others (φ₀ φ : MEnv) : Prop := ∀ x mv, touched x = false → φ₀.lookup x = some mv → φ.lookup x = some mv
theorem Others.cons {φ₀ φ : MEnv} {y : Str} {m : MV} (h : Others φ₀ φ) (hy : touched y = true) : Others φ₀ ((y, m) :: φ) := fun x mv hx hl => by
  have e : (x == y) = false := by
    cases q : x == y with
    | false => rfl
    | true => have := beq_iff_eq.mp q; subst this; rw [hy] at hx; cases hx
  rw [List.lookup_cons, e]
  exact h x mv hx hl
section
variable {X : Cx} {A : Around} {φ₀ φ : MEnv} {σ₀ σ : MHeap} {P : MF → MEnv → MHeap → Prop} {cov : List (List Int)} {total : Int} {ar ag : Addr} {ad : Loc → Addr} {S : SS} {read given : List Int}
theorem given_len (hg : given.Nodup) (h : ∀ p ∈ given, p ∈ places) : given.length ≤ 8 := hg.length_le_of_subset (l₂ := places) h
theorem left_step {rows : List (List Int)} {g : Int} : (leftOf rows read).map (fun r => r.filter fun p => p != g) = leftOf rows (read ++ [g]) := by
  unfold leftOf
  rw [List.map_map]
  apply List.map_congr_left
  intro r _
  show (r.filter _).filter _ = _
  rw [List.filter_filter]
  apply List.filter_congr
  intro q _
  by_cases h1 : q ∈ read <;> by_cases h2 : q = g <;> simp [h1, h2]
theorem rowsC_len : (rowsC cov).length = 4 := rfl
theorem rowOf_len (k : Nat) : (rowOf cov k).length ≤ 8 := List.length_filter_le _ _
theorem leftOf_small : (leftOf (rowsC cov) read).length ≤ 100 ∧ ∀ r ∈ leftOf (rowsC cov) read, r.length ≤ 100 := by
  refine ⟨by show 4 ≤ 100; decide, fun r hr => ?_⟩
  obtain ⟨r', hr', rfl⟩ := List.mem_map.mp hr
  obtain ⟨k, _, rfl⟩ := rowsC_mem hr'
  exact Nat.le_trans (List.length_filter_le _ _) (Nat.le_trans (rowOf_len k) (by decide))
/-- one turn -/
theorem law_turn (hX : X.Ok) (hA : AOk 2 A) {z : FnRest} {L : Addr} (hc : CovOk cov) {turn : Nat} (ht8 : turn < 8) (hrl : read.length = turn) (hm : MI X cov total ar ag ad S read given φ σ) (ho : Others φ₀ φ)
    (hk : ∀ b, σ₀ b ≠ none → (∀ l, live S l → b ≠ ad l) → b ≠ ar → b ≠ ag → σ b = σ₀ b)
    (h : ∀ g φ' σ' S' given', MI X cov total ar ag ad S' (read ++ [g]) given' φ' σ' → Others φ₀ φ' → (∀ b, σ₀ b ≠ none → (∀ l, live S' l → b ≠ ad l) → b ≠ ar → b ≠ ag → σ' b = σ₀ b) → (∀ l, live S' l ↔ live S l) → P .next φ' σ') : WS X A (lEnv z L) lFor17 (("turn", .int (turn : Int)) :: φ) σ P := by
  have hrp : ∀ p ∈ read, p ∈ Mine.places := fun p hp => (hm.ki.gL p (hm.ki.rg p hp)).1
  have hgp : ∀ p ∈ given, p ∈ Mine.places := fun p hp => (hm.ki.gL p hp).1
  have hg8 := given_len hm.ki.gnd hgp
  -- the lists
  have efree : (Mine.places.filter fun p => decide (p ∉ read)).filter (goes (leftOf (rowsC cov) read)) = Mine.places.filter fun p => decide (p ∉ read ∧ ∀ a ∈ ah cov p, a ∈ read) := by
    rw [List.filter_filter]
    apply List.filter_congr
    intro p hp
    by_cases hr : p ∈ read
    · simp [hr]
    · rw [goes_iff hc hm.ri hp hr]; simp [hr]
  have efresh : (Mine.places.filter fun p => decide (p ∉ read ∧ ∀ a ∈ ah cov p, a ∈ read)).filter (fun p => decide (p ∉ given)) = Mine.places.filter fun p => decide (p ∉ given ∧ ∀ a ∈ ah cov p, a ∈ read) := by
    rw [List.filter_filter]
    apply List.filter_congr
    intro p hp
    by_cases hg : p ∈ given
    · simp [hg]
    · have hr : p ∉ read := fun q => hg (hm.ki.rg p q)
      simp [hg, hr]
  have hfl : (Mine.places.filter fun p => decide (p ∉ read ∧ ∀ a ∈ ah cov p, a ∈ read)).length ≤ 8 := List.length_filter_le _ _
  have hrll : (Mine.places.filter fun p => decide (p ∉ given ∧ ∀ a ∈ ah cov p, a ∈ read)).length ≤ 8 := List.length_filter_le _ _
  obtain ⟨p₀, hp₀, hpr₀, hpa₀⟩ := some_free hc (read := read) (by omega)
  have hact : (decide (S.fin < S.passed) || !(Mine.places.filter fun p => decide (p ∉ given ∧ ∀ a ∈ ah cov p, a ∈ read)).isEmpty) = true := by
    rw [hm.ki.fin, hm.ki.passed]
    by_cases hg : p₀ ∈ given
    · have h1 : (p₀ :: read).Nodup := List.nodup_cons.mpr ⟨hpr₀, hm.ki.rnd⟩
      have h2 := h1.length_le_of_subset (l₂ := given) fun a ha => by
        rcases List.mem_cons.mp ha with rfl | ha
        · exact hg
        · exact hm.ki.rg a ha
      simp only [List.length_cons] at h2
      rw [Bool.or_eq_true]; left
      exact decide_eq_true (by omega)
    · rw [Bool.or_eq_true]; right
      have : p₀ ∈ Mine.places.filter fun p => decide (p ∉ given ∧ ∀ a ∈ ah cov p, a ∈ read) := List.mem_filter.mpr ⟨hp₀, by simp [hg]; exact hpa₀⟩
      cases hq : Mine.places.filter fun p => decide (p ∉ given ∧ ∀ a ∈ ah cov p, a ∈ read) with
      | nil => rw [hq] at this; cases this
      | cons a r => rfl
  have hfne : 0 < (Mine.places.filter fun p => decide (p ∉ read ∧ ∀ a ∈ ah cov p, a ∈ read)).length := List.length_pos_of_mem (List.mem_filter.mpr ⟨hp₀, by simp [hpr₀]; exact hpa₀⟩)
  obtain ⟨ll1, ll2⟩ := leftOf_small (cov := cov) (read := read)
  show WS X A (lEnv z L) (bSt 0 :: bSt 1 :: bSt 2 :: bSt 3 :: bSt 4 :: bSt 5 :: bSt 6 :: bSt 7 :: bSt 8 :: []) _ _ _
  refine WS_cons (law_b0 hA.handled hm.places hm.read hm.har ?_)
  refine WS_cons (law_b1 (hA.less (by omega)) lookup_cons_self (Nat.le_trans (List.length_filter_le _ _) (by show 8 ≤ 100; decide)) hm.left ll1 ?_)
  rw [efree]
  refine WS_cons (law_b2 hA.handled lookup_cons_self (Nat.le_trans hfl (by decide)) hm.given hm.hag ?_)
  rw [efresh]
  refine WS_cons (law_b3 hX (hA.less (by omega)) hm.hs hm.sorter hm.ki.rdy hact lookup_cons_self (fun k hk => (hm.ki.ord k).mpr (hm.ki.rlL k hk)) (Nat.le_trans hrll (by decide)) ?_)
  intro σ1 hs1 hR1
  have hlv1 : ∀ l, live (S.afterReady (Mine.places.filter fun p => decide (p ∉ given ∧ ∀ a ∈ ah cov p, a ∈ read))) l ↔ live S l := live_same (SS.outs_order _ _) (by
    show some [] = none ↔ _
    rw [hm.ki.rdy]; simp)
  have keep1 : ∀ b, (∀ l, live S l → b ≠ ad l) → σ b ≠ none → σ1 b = σ b := hR1
  have har1 : σ1 ar = some (mlist (read.map .int)) := by rw [keep1 ar (fun l hl => Ne.symm (hm.nr l hl).1) (by rw [hm.har]; exact Option.some_ne_none _)]; exact hm.har
  have hag1 : σ1 ag = some (mlist (given.map .int)) := by rw [keep1 ag (fun l hl => Ne.symm (hm.nr l hl).2) (by rw [hm.hag]; exact Option.some_ne_none _)]; exact hm.hag
  have ki1 := hm.ki.out
  refine WS_cons (law_b4 hm.given lookup_cons_self hag1 (by omega) ?_)
  have hs2 : SorterIs X (σ1.put ag (mlist ((given ++ (Mine.places.filter fun p => decide (p ∉ given ∧ ∀ a ∈ ah cov p, a ∈ read))).map .int))) ad (S.afterReady (Mine.places.filter fun p => decide (p ∉ given ∧ ∀ a ∈ ah cov p, a ∈ read))) := hs1.keep fun l hl => MHeap.put_ne (hm.nr l ((hlv1 l).mp hl)).2
  refine WS_cons (law_b5 hX hA.handled rfl (Nat.le_trans hfl (by decide)) hfne rfl ht8 hm.total ?_)
  intro g hg
  obtain ⟨hgpl, hgd⟩ := List.mem_filter.mp hg
  simp only [decide_eq_true_eq] at hgd
  obtain ⟨hgr, hga⟩ := hgd
  have hgg : g ∈ given ++ Mine.places.filter fun p => decide (p ∉ given ∧ ∀ a ∈ ah cov p, a ∈ read) := by
    by_cases hgg : g ∈ given
    · exact List.mem_append_left _ hgg
    · exact List.mem_append_right _ (List.mem_filter.mpr ⟨hgpl, by simp [hgg]; exact hga⟩)
  obtain ⟨ki2, ko1, ko2, ko3⟩ := ki1.done hgg hgr
  have hrd : (S.afterReady (Mine.places.filter fun p => decide (p ∉ given ∧ ∀ a ∈ ah cov p, a ∈ read))).ready ≠ none := fun e => nomatch e
  have hsl : ((S.afterReady (Mine.places.filter fun p => decide (p ∉ given ∧ ∀ a ∈ ah cov p, a ∈ read))).succ g).length ≤ 32 := by
    rw [ki1.succ]
    have := succ_len (ahf := ah cov) (q := g) Mine.places fun p hp => ah_len hc hp
    exact this
  refine WS_cons (law_b6 hX (hA.less (by omega)) hs2 hm.sorter lookup_cons_self hrd ⟨ko1, ko2, ko3, by show 0 + _ ≤ 1000; omega, trivial⟩ ?_)
  intro σ3 hs3 hR3
  have hlv3 : ∀ l, live ((S.afterReady (Mine.places.filter fun p => decide (p ∉ given ∧ ∀ a ∈ ah cov p, a ∈ read))).done1 g) l ↔ live S l := fun l => (live_same (SS.done1_order _ _) (SS.done1_some _ _) l).trans (hlv1 l)
  have nr3 : ∀ b, (∀ l, live S l → b ≠ ad l) → ∀ l, live (S.afterReady (Mine.places.filter fun p => decide (p ∉ given ∧ ∀ a ∈ ah cov p, a ∈ read))) l → b ≠ ad l := fun b hb l hl => hb l ((hlv1 l).mp hl)
  have har3 : σ3 ar = some (mlist (read.map .int)) := by
    have e2 : (σ1.put ag (mlist ((given ++ (Mine.places.filter fun p => decide (p ∉ given ∧ ∀ a ∈ ah cov p, a ∈ read))).map .int))) ar = some (mlist (read.map .int)) := by rw [MHeap.put_ne hm.ne]; exact har1
    rw [hR3 ar (nr3 ar fun l hl => Ne.symm (hm.nr l hl).1) (by rw [e2]; exact Option.some_ne_none _)]; exact e2
  have hag3 : σ3 ag = some (mlist ((given ++ (Mine.places.filter fun p => decide (p ∉ given ∧ ∀ a ∈ ah cov p, a ∈ read))).map .int)) := by
    rw [hR3 ag (nr3 ag fun l hl => Ne.symm (hm.nr l hl).2) (by rw [MHeap.put_self]; exact Option.some_ne_none _)]; exact MHeap.put_self _ _ _
  refine WS_cons (law_b7 hm.read lookup_cons_self har3 (by omega) ?_)
  refine WS_cons (law_b8 hA.handled hm.left lookup_cons_self ll1 ll2 ?_)
  rw [left_step]
  refine WS_nil (h g _ _ _ (given ++ Mine.places.filter fun p => decide (p ∉ given ∧ ∀ a ∈ ah cov p, a ∈ read)) ⟨?_, ?_, ?_, MHeap.put_self _ _ _, ?_, hm.ne, ?_, hm.sorter, hm.places, lookup_cons_self, hm.read, rfl, hm.total⟩ ?_ ?_ hlv3)
  · exact hs3.keep fun l hl => MHeap.put_ne (hm.nr l ((hlv3 l).mp hl)).1
  · have e : ([] ++ Mine.places.filter fun p => decide (g ∈ ah cov p ∧ p ∉ given ++ (Mine.places.filter fun p => decide (p ∉ given ∧ ∀ a ∈ ah cov p, a ∈ read)) ∧ ∀ a ∈ ah cov p, a ∈ read ++ [g])) = Mine.places.filter fun p => decide (p ∉ given ++ (Mine.places.filter fun p => decide (p ∉ given ∧ ∀ a ∈ ah cov p, a ∈ read)) ∧ ∀ a ∈ ah cov p, a ∈ read ++ [g]) := by
      rw [List.nil_append]
      apply List.filter_congr
      intro p hp
      rw [decide_eq_decide]
      constructor
      · rintro ⟨_, h2, h3⟩; exact ⟨h2, h3⟩
      · rintro ⟨h2, h3⟩
        refine ⟨?_, h2, h3⟩
        by_cases hga2 : g ∈ ah cov p
        · exact hga2
        · exfalso
          have := (ki1.rlm p).mpr ⟨hp, h2, fun a ha => by
            rcases List.mem_append.mp (h3 a ha) with h4 | h4
            · exact h4
            · simp only [List.mem_singleton] at h4; subst h4; exact absurd ha hga2⟩
          cases this
    rw [e] at ki2
    exact ki2
  · exact hm.ri.step hc hgpl hgr hga
  · rw [MHeap.put_ne (Ne.symm hm.ne)]; exact hag3
  · intro l hl; exact hm.nr l ((hlv3 l).mp hl)
  · exact (((((((ho.cons (by decide)).cons (by decide)).cons (by decide)).cons (by decide)).cons (by decide)).cons (by decide)).cons (by decide))
  · intro b hb hbl h1 h2
    have hbl' : ∀ l, live S l → b ≠ ad l := fun l hl => hbl l ((hlv3 l).mpr hl)
    have e0 := hk b hb hbl' h1 h2
    rw [MHeap.put_ne h1]
    have ne0 : σ b ≠ none := by rw [e0]; exact hb
    have e1 : σ1 b = σ b := keep1 b hbl' ne0
    have e2 : (σ1.put ag (mlist ((given ++ (Mine.places.filter fun p => decide (p ∉ given ∧ ∀ a ∈ ah cov p, a ∈ read))).map .int))) b = σ b := by rw [MHeap.put_ne h2]; exact e1
    rw [hR3 b (nr3 b hbl') (by rw [e2]; exact ne0), e2, e0]
end
end Mine
end
section
open PySem PySem.W PyProof.Rows PySem.Calls
set_option Elab.async false
set_option maxRecDepth 100000
set_option linter.unusedVariables false
set_option linter.unusedSimpArgs false
namespace Mine
section
variable {X : Cx} {A : Around} {φ₀ φ : MEnv} {σ₀ σ : MHeap} {P : MF → MEnv → MHeap → Prop} {cov : List (List Int)} {total : Int} {ar ag : Addr} {ad : Loc → Addr} {S : SS} {read given : List Int}
theorem law_turns (hX : X.Ok) (hA : AOk 2 A) {z : FnRest} {L : Addr} (hc : CovOk cov)
    (h : ∀ φ' σ' S' read' given', read'.length = 8 → MI X cov total ar ag ad S' read' given' φ' σ' → Others φ₀ φ' → (∀ b, σ₀ b ≠ none → (∀ l, live S' l → b ≠ ad l) → b ≠ ar → b ≠ ag → σ' b = σ₀ b) → P .next φ' σ') :
    ∀ (m t : Nat) (φ : MEnv) (σ : MHeap) (S : SS) (read given : List Int), t + m = 8 → read.length = t → MI X cov total ar ag ad S read given φ σ → Others φ₀ φ → (∀ b, σ₀ b ≠ none → (∀ l, live S l → b ≠ ad l) → b ≠ ar → b ≠ ag → σ b = σ₀ b) →
      LoopQ X A (lEnv z L) "turn" lFor17 (fun _ => True) P ((List.range' t m).map fun (i : Nat) => MV.int (i : Int)) φ σ := by
  intro m
  induction m with
  | zero => intro t φ σ S read given ht hr hm ho hk; exact h φ σ S read given (by omega) hm ho hk
  | succ m ih =>
    intro t φ σ S read given ht hr hm ho hk
    rw [List.range'_succ, List.map_cons]
    refine law_turn hX hA hc (by omega) hr hm ho hk ?_
    intro g φ' σ' S' given' hm' ho' hk' hlv
    exact ⟨trivial, ih (t + 1) φ' σ' S' (read ++ [g]) given' (by omega) (by simp [hr]) hm' ho' hk'⟩
theorem law_s17 (hX : X.Ok) (hA : AOk 2 A) {z : FnRest} {L : Addr} (hc : CovOk cov) (hm : MI X cov total ar ag ad S [] [] φ σ)
    (h : ∀ φ' σ' S' read' given', read'.length = 8 → MI X cov total ar ag ad S' read' given' φ' σ' → Others φ φ' → (∀ b, σ b ≠ none → (∀ l, live S' l → b ≠ ad l) → b ≠ ar → b ≠ ag → σ' b = σ b) → P .next φ' σ') : WS1 X A (lEnv z L) (lSt 17) φ σ P := by
  refine WS1_for (WE_callT (gl_range hX) (WL_cons (WE_int (WL_nil (T_range ⟨_, _, iter_rng hA.handled (by decide), trivial, ?_⟩)))))
  exact law_turns (φ₀ := φ) (σ₀ := σ) hX hA hc h 8 0 φ σ S [] [] rfl rfl hm (fun x mv _ hx => hx) (fun b _ _ _ _ => rfl)
theorem all_given (hki : KI (ah cov) places S read given (places.filter fun p => decide (p ∉ given ∧ ∀ a ∈ ah cov p, a ∈ read))) (hl : read.length = 8) : (∀ p ∈ places, p ∈ read) ∧ (places.filter fun p => decide (p ∉ given ∧ ∀ a ∈ ah cov p, a ∈ read)) = [] ∧ given.length = 8 := by
  have hgp : ∀ p ∈ given, p ∈ places := fun p hp => (hki.gL p hp).1
  have hrp : ∀ p ∈ read, p ∈ places := fun p hp => hgp p (hki.rg p hp)
  have hall := all_read hki.rnd hrp hl
  refine ⟨hall, ?_, ?_⟩
  · rw [List.filter_eq_nil_iff]
    intro p hp
    simp only [decide_eq_true_eq, not_and]
    intro h1
    exact absurd (hki.rg p (hall p hp)) h1
  · have h1 := given_len hki.gnd hgp
    have h2 := hki.rnd.length_le_of_subset (l₂ := given) hki.rg
    omega
theorem law_s18 (hX : X.Ok) (hA : AOk 1 A) {z : FnRest} {L : Addr} (hs : SorterIs X σ ad S) (hl : φ.lookup ("sorter" : Str) = some (.ref (ad .self))) (hr : S.ready = some []) (hact : ¬ S.fin < S.passed) (h : ∀ σ', Rest S ad σ σ' → P .next φ σ') : WS1 X A (lEnv z L) (lSt 18) φ σ P := by
  have hu : A.units + 64 < cLine := by have := hA.units; omega
  refine WS1_if (WB_boolop (WAll_or ?_))
  refine WB_compare (WE_meth hX mc_active (fn_ts_is_active hX) (x := ad .self) (WE_name hl ⟨rfl, hs.at_ .self trivial, hs.at_ .dict trivial, attrs_none (by decide) (by decide) (by decide) (by decide), WL_nil (active_spec hX hA hs hr (by decide) (WE_bool (V_isNot (Tr_bool ?_))))⟩))
  rw [decide_eq_false hact]
  refine WAll_or ?_
  refine WB_compare (WE_meth hX mc_ready (fn_ts_get_ready hX) (x := ad .self) (WE_name hl ⟨rfl, hs.at_ .self trivial, hs.at_ .dict trivial, attrs_none (by decide) (by decide) (by decide) (by decide), WL_nil (ready_spec hX hA hs hr (by simp) (by decide) fun σ' h1 h2 => ?_)⟩))
  refine WE_tuple (WL_nil ⟨by decide, V_neTup (ns := []) (ms := []) hu (Tr_bool ?_)⟩)
  exact WAll_or_nil (WS_nil (h σ' h2))
def lFor19 : List Stmt := match lSt 19 with | .For _ _ b _ _ => b | _ => []
theorem law_s19 (hX : X.Ok) (hA : AOk 5 A) {z : FnRest} {L : Addr} {ns : List Int} (hrp : ∀ p ∈ read, p ∈ places) (hrl : read.length ≤ 100) (hrow : ∀ k, k < 4 → read.filter (inRow (covOf ns) k) = rowOf (covOf ns) k)
    (hj : φ.lookup ("judges" : Str) = some judgesMV) (hp : φ.lookup ("picks" : Str) = some (intsMV (picksOf ns))) (ht : φ.lookup ("things" : Str) = some (.list (thingsOf ns))) (hr : φ.lookup ("rows" : Str) = some (rowsMV (rowsL ns))) (hrd : φ.lookup ("read" : Str) = some (intsMV read))
    (h : ∀ φ', (∀ x mv, x ≠ ("k" : Str) → φ.lookup x = some mv → φ'.lookup x = some mv) → P .next φ' σ) : WS1 X A (lEnv z L) (lSt 19) φ σ P := by
  have hu : A.units + 64 < cLine := by have := hA.units; omega
  have loop : ∀ (rest : List Nat) (φ' : MEnv), (∀ k ∈ rest, k < 4) → (∀ x mv, x ≠ ("k" : Str) → φ.lookup x = some mv → φ'.lookup x = some mv) → LoopQ X A (lEnv z L) "k" lFor19 (fun _ => True) P (rest.map fun (i : Nat) => MV.int (i : Int)) φ' σ := by
    intro rest
    induction rest with
    | nil => intro φ' _ hx; exact h φ' hx
    | cons k rest ih =>
      intro φ' hk hx
      have hk4 := hk k List.mem_cons_self
      have hcomp : WE X A (lEnv z L) (match lFor19 with | [.If (.Compare e _ _ _) _ _ _] => e | _ => .Constant .none 0 ⟨0, 0, 0, 0⟩) (("k", .int (k : Int)) :: φ') σ (fun mv σ₁ => mv = intsMV (rowOf (covOf ns) k) ∧ σ₁ = σ) := by
        refine WE_comp [("judges", judgesMV), ("picks", intsMV (picksOf ns)), ("k", .int (k : Int)), ("things", .list (thingsOf ns))] (fFilter fun p => holds ns k (thingAt ns p)) ?_ ⟨hx _ _ (by decide) hj, by rfl, hx _ _ (by decide) hp, by rfl, lookup_cons_self, by rfl, hx _ _ (by decide) ht, by rfl, trivial⟩
        refine WE_name (mv := intsMV read) (hx _ _ (by decide) hrd) ⟨_, _, iter_list hA.handled, trivial, by rw [List.length_map]; exact Nat.le_trans hrl (by decide), ?_, ?_⟩
        · intro C mv hmv
          obtain ⟨p, hp2, rfl⟩ := List.mem_map.mp hmv
          have hpp := hrp p hp2
          have hpb := places_mem.mp hpp
          obtain ⟨tg1, tg2⟩ := thing_get ns hpp
          refine WB_compare (WE_judge hX hA (ns := ns) (k := k) (t := thingAt ns p) rfl rfl rfl hk4 (things_ok ns _ tg2) (EV_item (k := p) (EV_name rfl) (EV_name rfl) hpb.1 tg1 (by omega)) (WE_bool (V_isNot (Tr_bool ⟨rfl, ?_⟩))) rfl rfl)
          have e : (!isMV (.bool (holds ns k (thingAt ns p))) (.bool false)) = holds ns k (thingAt ns p) := by cases holds ns k (thingAt ns p) <;> rfl
          rw [e]
          cases hh : holds ns k (thingAt ns p) with
          | true => exact ⟨.int p, if_pos hh, WE_name rfl ⟨rfl, rfl⟩⟩
          | false => exact if_neg (by show ¬ (holds ns k (thingAt ns p) = true); rw [hh]; decide)
        · rw [fFilter_map]
          have e : (read.filter fun p => holds ns k (thingAt ns p)) = rowOf (covOf ns) k := by
            rw [← hrow k hk4]
            apply List.filter_congr
            intro p hp2
            rw [inRow_eq ns hk4 (hrp p hp2)]
          rw [e]; exact ⟨rfl, rfl⟩
      refine WS_cons (WS1_if (WB_compare (WT.mono hcomp ?_)))
      rintro mv σ₁ ⟨rfl, rfl⟩
      have hrg : ((rowsL ns).map intsMV)[((k : Nat) : Int).toNat]? = some (intsMV (rowOf (covOf ns) k)) := by
        rw [List.getElem?_map]
        unfold rowsL
        rw [List.getElem?_map, Int.toNat_natCast, List.getElem?_range hk4]; rfl
      refine EV.go (EV_item (k := (k : Int)) (xs := (rowsL ns).map intsMV) (EV_name (hx _ _ (by decide) hr)) (EV_name lookup_cons_self) (by omega) hrg (by omega)) ?_
      refine V_neInts hu (Tr_bool ?_)
      rw [decide_eq_true rfl]
      refine WS_nil (WS_nil ⟨trivial, ih _ (fun j hj => hk j (List.mem_cons_of_mem _ hj)) fun x mv hne hlx => ?_⟩)
      have e : (x == ("k" : Str)) = false := by simpa using hne
      rw [List.lookup_cons, e]; exact hx x mv hne hlx
  refine WS1_for (WE_callT (gl_range hX) (WL_cons (WE_int (WL_nil (T_range ⟨_, _, iter_rng hA.handled (by decide), trivial, ?_⟩)))))
  exact loop (List.range 4) φ (fun k hk => List.mem_range.mp hk) (fun x mv _ hx => hx)
end
end Mine
end
section
open PySem PySem.W PyProof.Rows PySem.Calls
set_option Elab.async false
set_option maxRecDepth 100000
set_option linter.unusedVariables false
set_option linter.unusedSimpArgs false
namespace Mine
/-- add(p), then add(p, a) for each a -/
def SS.adds1 (S : SS) (p : Int) (l : List Int) : SS := l.foldl (fun S a => S.add p [a]) S
theorem adds1_to {p : Int} : ∀ (l : List Int) (S : SS), Z S → Z (S.adds1 p l) ∧ (∀ j, (S.adds1 p l).np j = S.np j + if j = p then (l.length : Int) else 0) ∧ (∀ q, (S.adds1 p l).succ q = S.succ q ++ List.replicate (l.count q) p) ∧
    (∀ j, j ∈ (S.adds1 p l).order → j ∈ S.order ∨ j = p ∨ j ∈ l) ∧ (∀ j, j ∈ S.order → j ∈ (S.adds1 p l).order) ∧ (S.adds1 p l).ready = S.ready ∧ (S.adds1 p l).passed = S.passed ∧ (S.adds1 p l).fin = S.fin ∧ (S.adds1 p l).pin = S.pin
  | [], S, h => ⟨h, fun j => by simp [SS.adds1], fun q => by simp [SS.adds1], fun j hj => .inl hj, fun j hj => hj, rfl, rfl, rfl, rfl⟩
  | a :: l, S, h => by
    obtain ⟨t, _⟩ := add_to h p [a]
    obtain ⟨i1, i2, i3, i4, i5, i6, i7, i8, i9⟩ := adds1_to (p := p) l (S.add p [a]) t.z
    show Z ((S.add p [a]).adds1 p l) ∧ _
    refine ⟨i1, fun j => ?_, fun q => ?_, fun j hj => ?_, fun j hj => ?_, ?_, ?_, ?_, ?_⟩
    · show ((S.add p [a]).adds1 p l).np j = _
      rw [i2, t.np]
      by_cases e : j = p
      · simp [e]; omega
      · simp [e]
    · show ((S.add p [a]).adds1 p l).succ q = _
      rw [i3, t.succ, List.append_assoc, List.count_cons, List.count_cons, List.count_nil]
      congr 1
      rw [← List.replicate_append_replicate.symm]
      congr 1
      omega
    · rcases i4 j hj with h1 | h1 | h1
      · rcases (t.mem j).mp h1 with h2 | h2 | h2
        · exact .inl h2
        · exact .inr (.inl h2)
        · simp only [List.mem_singleton] at h2; subst h2; exact .inr (.inr List.mem_cons_self)
      · exact .inr (.inl h1)
      · exact .inr (.inr (List.mem_cons_of_mem _ h1))
    · exact i5 j ((t.mem j).mpr (.inl hj))
    · exact i6.trans t.ready
    · exact i7.trans t.passed
    · exact i8.trans t.fin
    · exact i9.trans t.pin
theorem AddsInv.add1 {ahf : Int → List Int} {done : List Int} {S : SS} (h : AddsInv ahf done S) {p : Int} (hp : p ∉ done) : AddsInv ahf (done ++ [p]) ((S.add p []).adds1 p (ahf p)) ∧ (∀ j, j ∈ ((S.add p []).adds1 p (ahf p)).order → j ∈ S.order ∨ j = p ∨ j ∈ ahf p) ∧ (∀ j, j ∈ S.order ∨ j = p → j ∈ ((S.add p []).adds1 p (ahf p)).order) := by
  obtain ⟨t, _⟩ := add_to h.z p []
  obtain ⟨i1, i2, i3, i4, i5, i6, i7, i8, i9⟩ := adds1_to (p := p) (ahf p) (S.add p []) t.z
  refine ⟨⟨i1, fun j => ?_, fun q => ?_, i6.trans (t.ready.trans h.ready), i7.trans (t.passed.trans h.passed), i8.trans (t.fin.trans h.fin), i9.trans (t.pin.trans h.pin)⟩, fun j hj => ?_, fun j hj => ?_⟩
  · rw [i2, t.np, h.np]
    by_cases e : j = p
    · subst e; simp [hp]
    · by_cases hj : j ∈ done <;> simp [hj, e]
  · rw [i3, t.succ, h.succ, List.flatMap_append]; simp
  · rcases i4 j hj with h1 | h1 | h1
    · rcases (t.mem j).mp h1 with h2 | h2 | h2
      · exact .inl h2
      · exact .inr (.inl h2)
      · cases h2
    · exact .inr (.inl h1)
    · exact .inr (.inr h1)
  · refine i5 j ((t.mem j).mpr ?_)
    rcases hj with hj | hj
    · exact .inl hj
    · exact .inr (.inl hj)
section
variable {X : Cx} {A : Around} {φ₀ φ : MEnv} {σ₀ σ : MHeap} {P : MF → MEnv → MHeap → Prop} {cov : List (List Int)} {ad : Loc → Addr} {S : SS} {read : List Int}
theorem law_s20 (hX : X.Ok) (hA : AOk 2 A) {z : FnRest} {L : Addr} (h : ∀ σ' ad, SorterIs X σ' ad S0 → (∀ b, σ b ≠ none → σ' b = σ b) → P .next (("again", .ref (ad .self)) :: φ) σ') : WS1 X A (lEnv z L) (lSt 20) φ σ P :=
  WS1_assign (WE_new0 hX (gl_ts hX) kp_ts (new_spec hX hA fun σ' ad h1 h2 h3 => h σ' ad h1 h2))
theorem law_s21 (hX : X.Ok) (hA : AOk 2 A) {z : FnRest} {L : Addr} (hc : CovOk cov) (hnd : read.Nodup) (hrp : ∀ p ∈ read, p ∈ places) (hrow : ∀ k, k < 4 → read.filter (inRow cov k) = rowOf cov k) (hrd : φ.lookup ("read" : Str) = some (intsMV read)) (hcv : φ.lookup ("covers" : Str) = some (rowsMV cov)) (hl : read.length ≤ 100)
    (h : P .next (("ties", .list (read.map fun p => .tup [.int p, intsMV (ah cov p)])) :: φ) σ) : WS1 X A (lEnv z L) (lSt 21) φ σ P := by
  refine WS1_assign (WE_callF (gl_ties hX) (fn_law_ties hX) (WL_cons (WE_name hrd (WL_cons (WE_name hcv (WL_nil (ties_spec hX hA hc (fun p hp => places_mem.mp (hrp p hp)) hl ?_)))))))
  rw [ties_of hc hnd hrp hrow, List.map_map]
  exact h
def lFor22 : List Stmt := match lSt 22 with | .For _ _ b _ _ => b | _ => []
def dSt (n : Nat) : Stmt := lFor22.getD n (.Pass ⟨0, 0, 0, 0⟩)
def lFor22i : List Stmt := match dSt 2 with | .For _ _ b _ _ => b | _ => []
def touched2 (x : Str) : Bool := x == ("place" : Str) || x == ("ahead" : Str) || x == ("one" : Str) || x == ("turn" : Str)
def Others2 (φ₀ φ : MEnv) : Prop := ∀ x mv, touched2 x = false → φ₀.lookup x = some mv → φ.lookup x = some mv
theorem Others2.cons {φ₀ φ : MEnv} {y : Str} {m : MV} (h : Others2 φ₀ φ) (hy : touched2 y = true) : Others2 φ₀ ((y, m) :: φ) := fun x mv hx hl => by
  have e : (x == y) = false := by
    cases q : x == y with
    | false => rfl
    | true => have := beq_iff_eq.mp q; subst this; rw [hy] at hx; cases hx
  rw [List.lookup_cons, e]
  exact h x mv hx hl
theorem order_bound {S : SS} (hz : Z S) (ho : ∀ j ∈ S.order, j ∈ places) : S.order.length ≤ 8 := hz.nd.length_le_of_subset (l₂ := places) ho
theorem law_d2 (hX : X.Ok) (hA : AOk 5 A) {z : FnRest} {L : Addr} {p : Int} (h : ∀ φ' σ' ad', SorterIs X σ' ad' S → Others2 φ₀ φ' → φ'.lookup ("again" : Str) = some (.ref (ad' .self)) → P .next φ' σ') :
    ∀ (rest : List Int) (φ' : MEnv) (σ' : MHeap) (ad' : Loc → Addr) (S' : SS), S'.adds1 p rest = S → SorterIs X σ' ad' S' → S'.ready = none → S'.pin = none → Z S' → S'.order.length + 2 * rest.length + 1 ≤ 900 → (∀ j, (S'.succ j).length + rest.length ≤ 900) → Others2 φ₀ φ' → φ'.lookup ("again" : Str) = some (.ref (ad' .self)) → φ'.lookup ("place" : Str) = some (.int p) →
      LoopQ X A (lEnv z L) "one" lFor22i (fun _ => True) P (rest.map .int) φ' σ' := by
  intro rest
  induction rest with
  | nil => intro φ' σ' ad' S' he hs hr hpn hz hl hsl ho hag hpl; subst he; exact h φ' σ' ad' hs ho hag
  | cons a rest ih =>
    intro φ' σ' ad' S' he hs hr hpn hz hl hsl ho hag hpl
    simp only [List.length_cons] at hl hsl
    obtain ⟨t, _⟩ := add_to hz p [a]
    refine WS_cons (WS1_expr (WE_meth hX mc_add (fn_ts_add hX) (x := ad' .self) (WE_name hag ⟨rfl, hs.at_ .self trivial, hs.at_ .dict trivial, attrs_none (by decide) (by decide) (by decide) (by decide), WL_cons (WE_name hpl (WL_cons (WE_name lookup_cons_self (WL_nil (add_spec hX hA hs hpn (preds := [a]) hr (by simp; omega) (fun j => by have := hsl j; simp; omega) fun σ2 ad2 hs2 hg2 => ⟨rfl, WS_nil ⟨trivial, ?_⟩⟩)))))⟩)))
    have hol : (S'.add p [a]).order.length ≤ S'.order.length + 2 := by
      have := t.z.nd.length_le_of_subset (l₂ := S'.order ++ [p, a]) fun j hj => by
        rcases (t.mem j).mp hj with h1 | h1 | h1
        · exact List.mem_append_left _ h1
        · subst h1; simp
        · simp only [List.mem_singleton] at h1; subst h1; simp
      simpa using this
    have hsl2 : ∀ j, ((S'.add p [a]).succ j).length ≤ (S'.succ j).length + 1 := fun j => by
      rw [t.succ, List.length_append, List.length_replicate]
      have := List.count_le_length (a := j) (l := [a])
      simp at this ⊢; omega
    refine ih _ σ2 ad2 (S'.add p [a]) he hs2 (t.ready.trans hr) (t.pin.trans hpn) t.z ?_ ?_ (ho.cons (by decide)) ?_ ?_
    · omega
    · intro j; have := hsl2 j; have := hsl j; omega
    · rw [(hg2.old .self trivial).2]; exact hag
    · exact hpl
theorem law_d (hX : X.Ok) (hA : AOk 5 A) {z : FnRest} {L : Addr} (hc : CovOk cov) (hnd : read.Nodup) (hrp : ∀ p ∈ read, p ∈ places) (hrl : read.length = 8)
    (hti : φ₀.lookup ("ties" : Str) = some (.list (read.map fun p => .tup [.int p, intsMV (ah cov p)])))
    (h : ∀ φ' σ' ad' S', SorterIs X σ' ad' S' → AddsInv (ah cov) read.reverse S' → (∀ p, p ∈ S'.order ↔ p ∈ places) → Others2 φ₀ φ' → φ'.lookup ("again" : Str) = some (.ref (ad' .self)) → P .next φ' σ') :
    ∀ (rest done : List Int) (φ' : MEnv) (σ' : MHeap) (ad' : Loc → Addr) (S' : SS), read.reverse = done ++ rest → SorterIs X σ' ad' S' → AddsInv (ah cov) done S' → (∀ j ∈ S'.order, j ∈ places) → (∀ j ∈ done, j ∈ S'.order) → Others2 φ₀ φ' → φ'.lookup ("again" : Str) = some (.ref (ad' .self)) →
      LoopQ X A (lEnv z L) "turn" lFor22 (fun _ => True) P ((List.range' done.length rest.length).map fun (i : Nat) => MV.int (i : Int)) φ' σ' := by
  intro rest
  induction rest with
  | nil =>
    intro done φ' σ' ad' S' hd hs hi ho ho2 hx hag
    rw [List.append_nil] at hd
    subst hd
    exact h φ' σ' ad' S' hs hi (fun p => ⟨ho p, fun hp => ho2 p (by rw [List.mem_reverse]; exact all_read hnd hrp hrl p hp)⟩) hx hag
  | cons p rest ih =>
    intro done φ' σ' ad' S' hd hs hi ho ho2 hx hag
    have hlen : done.length + (rest.length + 1) = 8 := by have := congrArg List.length hd; simp at this; omega
    have hpm : p ∈ read := by rw [← List.mem_reverse, hd]; simp
    have hpp := hrp p hpm
    have hnr : (done ++ p :: rest).Nodup := by rw [← hd]; exact List.pairwise_reverse.mpr (hnd.imp Ne.symm)
    have hpd : p ∉ done := fun h => (List.nodup_append.mp hnr).2.2 p h p (by simp) rfl
    have hget : read[7 - done.length]? = some p := by
      have h1 : read.reverse[done.length]? = some p := by rw [hd]; simp
      rw [List.getElem?_reverse (by omega), hrl] at h1
      have : 8 - 1 - done.length = 7 - done.length := by omega
      rw [this] at h1; exact h1
    have hal := ah_len hc hpp
    have hol := order_bound hi.z ho
    have hsl : ∀ j, (S'.succ j).length ≤ 32 := fun j => by
      rw [hi.succ]
      have := succ_len (ahf := ah cov) (q := j) done fun q hq => ah_len hc (ho q (ho2 q hq))
      omega
    rw [List.length_cons, List.range'_succ, List.map_cons]
    show WS X A (lEnv z L) (dSt 0 :: dSt 1 :: dSt 2 :: []) _ _ _
    refine WS_cons (WS1_assign2 hA.handled ?_)
    have hti' : φ'.lookup ("ties" : Str) = some (.list (read.map fun p => .tup [.int p, intsMV (ah cov p)])) := hx _ _ (by decide) hti
    refine EV.go (EV_item (k := 7 - (done.length : Int)) (mv := .tup [.int p, intsMV (ah cov p)]) (xs := read.map fun p => .tup [.int p, intsMV (ah cov p)]) (EV_name hti') (EV_bin EV_int (EV_name lookup_cons_self) (fun Q hq => V_sub hq)) (by omega) ?_ (by omega)) ⟨_, _, rfl, ?_⟩
    · have : (7 - (done.length : Int)).toNat = 7 - done.length := by omega
      rw [this, List.getElem?_map, hget]; rfl
    obtain ⟨t, _⟩ := add_to hi.z p []
    refine WS_cons (WS1_expr (WE_meth hX mc_add (fn_ts_add hX) (x := ad' .self) (WE_name (mv := .ref (ad' .self)) hag ⟨rfl, hs.at_ .self trivial, hs.at_ .dict trivial, attrs_none (by decide) (by decide) (by decide) (by decide), WL_cons (WE_name rfl (WL_nil (add_spec hX hA hs hi.pin (preds := []) hi.ready (by simp; omega) (fun j => by have := hsl j; simp; omega) fun σ2 ad2 hs2 hg2 => ⟨rfl, ?_⟩)))⟩)))
    obtain ⟨a1, a2, a3⟩ := hi.add1 hpd
    have hol1 := order_bound t.z fun j hj => by
      rcases (t.mem j).mp hj with h1 | h1 | h1
      · exact ho j h1
      · subst h1; exact hpp
      · cases h1
    refine WS_cons (WS1_for (WE_name lookup_cons_self ⟨_, _, iter_list hA.handled, trivial, ?_⟩))
    refine law_d2 hX hA (φ₀ := φ₀) (S := (S'.add p []).adds1 p (ah cov p)) (p := p) ?_ (ah cov p) _ σ2 ad2 (S'.add p []) rfl hs2 (t.ready.trans hi.ready) (t.pin.trans hi.pin) t.z (by omega) (fun j => ?_) ?_ ?_ ?_
    · intro φ3 σ3 ad3 hs3 hx3 hag3
      refine WS_nil ⟨trivial, ?_⟩
      have := ih (done ++ [p]) φ3 σ3 ad3 _ (by rw [hd]; simp) hs3 a1 (fun j hj => ?_) (fun j hj => ?_) hx3 hag3
      · simpa using this
      · rcases a2 j hj with h1 | h1 | h1
        · exact ho j h1
        · subst h1; exact hpp
        · exact (ah_lt hc hpp h1).1
      · rcases List.mem_append.mp hj with h1 | h1
        · exact a3 j (.inl (ho2 j h1))
        · simp only [List.mem_singleton] at h1; exact a3 j (.inr h1)
    · rw [t.succ, List.length_append, List.length_replicate]; have := hsl j; simp; omega
    · exact ((hx.cons (by decide)).cons (by decide)).cons (by decide)
    · rw [(hg2.old .self trivial).2]; exact hag
    · rfl
theorem law_s22 (hX : X.Ok) (hA : AOk 5 A) {z : FnRest} {L : Addr} (hc : CovOk cov) (hnd : read.Nodup) (hrp : ∀ p ∈ read, p ∈ places) (hrl : read.length = 8)
    (hti : φ.lookup ("ties" : Str) = some (.list (read.map fun p => .tup [.int p, intsMV (ah cov p)]))) (hs : SorterIs X σ ad S0) (hag : φ.lookup ("again" : Str) = some (.ref (ad .self)))
    (h : ∀ φ' σ' ad' S', SorterIs X σ' ad' S' → AddsInv (ah cov) read.reverse S' → (∀ p, p ∈ S'.order ↔ p ∈ places) → Others2 φ φ' → φ'.lookup ("again" : Str) = some (.ref (ad' .self)) → P .next φ' σ') : WS1 X A (lEnv z L) (lSt 22) φ σ P := by
  refine WS1_for (WE_callT (gl_range hX) (WL_cons (WE_int (WL_nil (T_range ⟨_, _, iter_rng hA.handled (by decide), trivial, ?_⟩)))))
  have := law_d hX hA (φ₀ := φ) (z := z) (L := L) hc hnd hrp hrl hti h read.reverse [] φ σ ad S0 rfl hs (AddsInv.zero _) (fun j hj => by cases hj) (fun j hj => by cases hj) (fun x mv _ hx => hx) hag
  rw [List.length_reverse, hrl] at this
  exact this
theorem law_s23 (hX : X.Ok) (hA : AOk 2 A) (hbl : Below' X A) {z : FnRest} {L : Addr} {r : Int → Nat} (hs : SorterIs X σ ad S) (hl : φ.lookup ("again" : Str) = some (.ref (ad .self))) (hr : S.ready = none) (hpin : S.pin = none) (hg : Graph S r) (hN : msU S [] ≤ 2000) (hsl : ∀ k, (S.succ k).length ≤ 1000) (hol : S.order.length ≤ 1000)
    (h : ∀ σ' ad' ep, SorterIs X σ' ad' (S.prep ep) → Grow S ad σ (S.prep ep) ad' σ' → P .next φ σ') : WS1 X A (lEnv z L) (lSt 23) φ σ P := by
  refine WS1_if (WB_compare (WE_meth hX mc_prepare (fn_ts_prepare hX) (x := ad .self) (WE_name hl ⟨rfl, hs.at_ .self trivial, hs.at_ .dict trivial, attrs_none (by decide) (by decide) (by decide) (by decide), WL_nil (prepare_spec hX hA hbl hs hr hpin hg hN hsl hol ?_)⟩)))
  intro σ' ad' ep h1 h2
  exact WE_none (V_isNot (Tr_bool (WS_nil (h σ' ad' ep h1 h2))))
end
end Mine
end
section
open PySem PySem.W PyProof.Rows PySem.Calls
set_option Elab.async false
set_option maxRecDepth 100000
set_option linter.unusedVariables false
set_option linter.unusedSimpArgs false
namespace Mine
def fSel (t : Nat → Bool) (g : Nat → Int) (mv : MV) : Option MV := match mv with | .int k => if t k.toNat then some (.int (g k.toNat)) else none | _ => none
theorem fSel_map (t : Nat → Bool) (g : Nat → Int) : ∀ l : List Nat, (l.map fun (i : Nat) => MV.int (i : Int)).filterMap (fSel t g) = ((l.filter t).map g).map MV.int
  | [] => rfl
  | k :: l => by
    have e : fSel t g (.int (k : Int)) = if t k then some (.int (g k)) else none := by simp [fSel]
    rw [List.map_cons, List.filterMap_cons, e]
    cases h : t k with
    | true => rw [List.filter_cons_of_pos h]; simp only [if_true]; rw [fSel_map t g l]; rfl
    | false => rw [List.filter_cons_of_neg (by rw [h]; decide)]; simp only [Bool.false_eq_true, if_false]; exact fSel_map t g l
def colsFor (cov : List (List Int)) (cols : List Int) (p : Int) : List Int := ((List.range 4).filter fun k => inRow cov k p).map fun k => cols.getD k 0
def nextCols (cov : List (List Int)) (cols : List Int) (p M : Int) : List Int := (List.range 4).map fun k => if inRow cov k p then M + 1 else cols.getD k 0
/-- the levels so far -/
structure LI (cov : List (List Int)) (done : List Int) (lev : Int → Int) (cols : List Int) : Prop where
  ge : ∀ p ∈ done, 0 ≤ lev p
  up : ∀ p ∈ done, ∀ a ∈ ah cov p, lev a + 1 ≤ lev p
  ex : ∀ p ∈ done, lev p = 0 ∨ ∃ a ∈ ah cov p, lev p = lev a + 1
  len : cols.length = 4
  col : ∀ k, k < 4 → cols.getD k 0 = (((done.filter (inRow cov k)).getLast?).map fun a => lev a + 1).getD 0
theorem LI.zero (cov : List (List Int)) : LI cov [] (fun _ => 0) [0, 0, 0, 0] := ⟨by simp, by simp, by simp, rfl, fun k hk => by
  have : k = 0 ∨ k = 1 ∨ k = 2 ∨ k = 3 := by omega
  rcases this with rfl | rfl | rfl | rfl <;> rfl⟩
theorem LI.step {cov : List (List Int)} (hc : CovOk cov) {done rest : List Int} {lev : Int → Int} {cols : List Int} {p M : Int} (h : LI cov done lev cols) (hd : places = done ++ p :: rest) (hM : M ∈ 0 :: colsFor cov cols p) (hm : ∀ a ∈ 0 :: colsFor cov cols p, a ≤ M) :
    LI cov (done ++ [p]) (fun q => if q = p then M else lev q) (nextCols cov cols p M) ∧ (∀ q ∈ done, (if q = p then M else lev q) = lev q) := by
  have hpp : p ∈ places := by rw [hd]; simp
  have hnd := places_nd
  rw [hd] at hnd
  have hpd : p ∉ done := fun h => (List.nodup_append.mp hnd).2.2 p h p (by simp) rfl
  have ne : ∀ q ∈ done, q ≠ p := fun q hq e => hpd (e ▸ hq)
  have same : ∀ q ∈ done, (if q = p then M else lev q) = lev q := fun q hq => if_neg (ne q hq)
  have hb : ∀ k, inRow cov k p = true → before (rowOf cov k) p = done.filter (inRow cov k) := fun k hk => by
    have : rowOf cov k = done.filter (inRow cov k) ++ p :: rest.filter (inRow cov k) := by
      unfold rowOf; rw [hd, List.filter_append, List.filter_cons_of_pos hk]
    rw [this]; exact before_of fun h => hpd (List.mem_filter.mp h).1
  have had : ∀ q ∈ done, ∀ a ∈ ah cov q, a ≠ p := fun q hq a ha e => by
    have hqp : q ∈ places := by rw [hd]; exact List.mem_append_left _ hq
    have h1 := (ah_lt hc hqp ha).2
    have hlt := places_lt
    rw [hd] at hlt
    have := (List.pairwise_append.mp hlt).2.2 q hq p (by simp)
    omega
  have hap : ∀ a ∈ ah cov p, a ∈ done ∧ a ≠ p ∧ ∃ k, k < 4 ∧ inRow cov k p = true ∧ (done.filter (inRow cov k)).getLast? = some a := fun a ha => by
    obtain ⟨k, hk, h1, h2⟩ := (ah_mem hc hpp).mp ha
    rw [hb k h1] at h2
    have hda := (List.mem_filter.mp (List.mem_of_getLast? h2)).1
    exact ⟨hda, ne a hda, k, hk, h1, h2⟩
  refine ⟨⟨fun q hq => ?_, fun q hq a ha => ?_, fun q hq => ?_, rfl, fun k hk => ?_⟩, same⟩
  · rcases List.mem_append.mp hq with h1 | h1
    · rw [same q h1]; exact h.ge q h1
    · simp only [List.mem_singleton] at h1; subst h1
      rw [if_pos rfl]; exact hm 0 List.mem_cons_self
  · rcases List.mem_append.mp hq with h1 | h1
    · rw [same q h1, if_neg (had q h1 a ha)]; exact h.up q h1 a ha
    · simp only [List.mem_singleton] at h1; subst h1
      obtain ⟨h2, h3, k, hk, h4, h5⟩ := hap a ha
      rw [if_pos rfl, if_neg h3]
      have hck := h.col k hk
      rw [h5] at hck
      have : lev a + 1 = cols.getD k 0 := hck.symm
      rw [this]
      exact hm _ (List.mem_cons_of_mem _ (List.mem_map.mpr ⟨k, List.mem_filter.mpr ⟨List.mem_range.mpr hk, h4⟩, rfl⟩))
  · rcases List.mem_append.mp hq with h1 | h1
    · rw [same q h1]
      rcases h.ex q h1 with h2 | ⟨a, ha, h2⟩
      · exact .inl h2
      · exact .inr ⟨a, ha, by rw [if_neg (had q h1 a ha)]; exact h2⟩
    · simp only [List.mem_singleton] at h1; subst h1
      rw [if_pos rfl]
      rcases List.mem_cons.mp hM with h2 | h2
      · exact .inl h2
      · obtain ⟨k, hk, e⟩ := List.mem_map.mp h2
        obtain ⟨hk1, hk2⟩ := List.mem_filter.mp hk
        have hk4 := List.mem_range.mp hk1
        rw [h.col k hk4] at e
        cases hg : (done.filter (inRow cov k)).getLast? with
        | none => rw [hg] at e; exact .inl e.symm
        | some a =>
          rw [hg] at e
          have hda := (List.mem_filter.mp (List.mem_of_getLast? hg)).1
          refine .inr ⟨a, (ah_mem hc hpp).mpr ⟨k, hk4, hk2, by rw [hb k hk2]; exact hg⟩, ?_⟩
          rw [if_neg (ne a hda)]; exact e.symm
  · have e1 : (nextCols cov cols p M).getD k 0 = if inRow cov k p then M + 1 else cols.getD k 0 := by
      unfold nextCols
      rw [List.getD_eq_getElem?_getD, List.getElem?_map, List.getElem?_range hk]; rfl
    rw [e1, List.filter_append]
    cases hi : inRow cov k p with
    | true => rw [List.filter_cons_of_pos hi]; simp
    | false =>
      rw [List.filter_cons_of_neg (by rw [hi]; decide)]
      simp only [List.filter_nil, List.append_nil, Bool.false_eq_true, if_false]
      rw [h.col k hk]
      cases hg : (done.filter (inRow cov k)).getLast? with
      | none => rfl
      | some a =>
        have hda := (List.mem_filter.mp (List.mem_of_getLast? hg)).1
        simp [ne a hda]
def lFor26 : List Stmt := match lSt 26 with | .For _ _ b _ _ => b | _ => []
def eSt (n : Nat) : Stmt := lFor26.getD n (.Pass ⟨0, 0, 0, 0⟩)
section
variable {X : Cx} {A : Around} {φ₀ φ : MEnv} {σ₀ σ : MHeap} {P : MF → MEnv → MHeap → Prop} {cov : List (List Int)} {ad : Loc → Addr} {S : SS}
theorem law_s24 {z : FnRest} {L : Addr} (h : P .next (("columns", intsMV [0, 0, 0, 0]) :: φ) σ) : WS1 X A (lEnv z L) (lSt 24) φ σ P := by
  refine WS1_assign ?_
  refine EV.go (mv := .list (([0, 0, 0, 0] : List Int).map .int)) ?_ ?_
  · refine EV_list (ms := ([0, 0, 0, 0] : List Int).map .int) ?_ ?_
    · refine .cons EV_int ?_
      refine .cons EV_int ?_
      refine .cons EV_int ?_
      refine .cons EV_int ?_
      exact .nil
    · exact szl rfl
  · exact h
theorem law_s25 {z : FnRest} {L : Addr} (h : ∀ a, σ a = none → P .next (("levels", .ref a) :: φ) (σ.put a (mlist []))) : WS1 X A (lEnv z L) (lSt 25) φ σ P :=
  WS1_assign (WE_listM (WL_nil ⟨by decide, fun a ha => h a ha⟩))
theorem rowsC_get {k : Nat} (hk : k < 4) : ((rowsC cov).map intsMV)[((k : Nat) : Int).toNat]? = some (intsMV (rowOf cov k)) := by
  rw [List.getElem?_map]
  unfold rowsC
  rw [List.getElem?_map, Int.toNat_natCast, List.getElem?_range hk]; rfl
theorem in_row {p : Int} (hp : p ∈ places) (k : Nat) : (rowOf cov k).any (· == p) = inRow cov k p := by
  rw [any_mem, Bool.eq_iff_iff, decide_eq_true_eq, row_mem]
  exact ⟨fun h => h.2, fun h => ⟨hp, h⟩⟩
theorem law_e0 (hX : X.Ok) (hA : A.handled = none) {z : FnRest} {L : Addr} {p : Int} {cols : List Int} (hp : p ∈ places) (hcl : cols.length = 4) (hpl : φ.lookup ("place" : Str) = some (.int p)) (hco : φ.lookup ("columns" : Str) = some (intsMV cols)) (hr : φ.lookup ("rows" : Str) = some (rowsMV (rowsC cov)))
    (h : ∀ M, M ∈ 0 :: colsFor cov cols p → (∀ a ∈ 0 :: colsFor cov cols p, a ≤ M) → P .next (("level", .int M) :: φ) σ) : WS1 X A (lEnv z L) (eSt 0) φ σ P := by
  refine WS1_assign (WE_callB (gl_max hX) (WL_cons (WE_binop ?_)))
  refine EV.go (mv := .list [.int 0]) (EV_list (.cons EV_int .nil)) ?_
  refine WE_comp [("columns", intsMV cols), ("place", .int p), ("rows", rowsMV (rowsC cov))] (fSel (fun k => inRow cov k p) fun k => cols.getD k 0) ?_ ⟨hco, by rfl, hpl, by rfl, hr, by rfl, trivial⟩
  refine WE_callT (gl_range hX) (WL_cons (WE_int (WL_nil (T_range ?_))))
  refine ⟨_, _, iter_rng hA (by decide), trivial, by decide, ?_, ?_⟩
  · intro C mv hmv
    obtain ⟨k, hk, rfl⟩ := List.mem_map.mp hmv
    have hk4 : k < 4 := List.mem_range.mp hk
    have ef : fSel (fun k => inRow cov k p) (fun k => cols.getD k 0) (.int (k : Int)) = if inRow cov k p then some (.int (cols.getD k 0)) else none := by simp [fSel]
    refine WB_compare (WE_name rfl (EV.go (EV_item (k := (k : Int)) (xs := (rowsC cov).map intsMV) (EV_name rfl) (EV_name rfl) (by omega) (rowsC_get hk4) (by omega)) (V_inInts (Tr_bool ⟨rfl, ?_⟩))))
    rw [in_row hp]
    show match inRow cov k p with | true => _ | false => _
    cases hi : inRow cov k p with
    | true =>
      refine ⟨.int (cols.getD k 0), by rw [ef, hi]; rfl, ?_⟩
      exact EV.go (EV_ints (ns := cols) (k := (k : Int)) (EV_name rfl) (EV_name rfl) (by omega) (by omega) (by omega)) ⟨rfl, rfl⟩
    | false =>
      show fSel _ _ _ = none
      rw [ef, hi]; rfl
  · have e : (rngItems 4).filterMap (fSel (fun k => inRow cov k p) fun k => cols.getD k 0) = (colsFor cov cols p).map MV.int := fSel_map _ _ (List.range 4)
    have hl : (colsFor cov cols p).length ≤ 4 := by
      unfold colsFor; rw [List.length_map]; exact List.length_filter_le _ _
    rw [e]
    refine V_cat ?_ ?_
    · have : (100 : Nat) ≤ sizeLine := by decide
      simp; omega
    · refine WL_nil (B_max (ns := 0 :: colsFor cov cols p) hA (by simp) h)
theorem law_e1 (hX : X.Ok) (hA : A.handled = none) {z : FnRest} {L : Addr} {p M : Int} {cols : List Int} (hp : p ∈ places) (hcl : cols.length = 4) (hpl : φ.lookup ("place" : Str) = some (.int p)) (hco : φ.lookup ("columns" : Str) = some (intsMV cols)) (hr : φ.lookup ("rows" : Str) = some (rowsMV (rowsC cov))) (hle : φ.lookup ("level" : Str) = some (.int M))
    (h : P .next (("columns", intsMV (nextCols cov cols p M)) :: φ) σ) : WS1 X A (lEnv z L) (eSt 1) φ σ P := by
  refine WS1_assign (WE_comp [("columns", intsMV cols), ("place", .int p), ("rows", rowsMV (rowsC cov)), ("level", .int M)] (fSel (fun _ => true) fun k => if inRow cov k p then M + 1 else cols.getD k 0) ?_ ⟨hco, by rfl, hpl, by rfl, hr, by rfl, hle, by rfl, trivial⟩)
  refine WE_callT (gl_range hX) (WL_cons (WE_int (WL_nil (T_range ?_))))
  refine ⟨_, _, iter_rng hA (by decide), trivial, by decide, ?_, ?_⟩
  · intro C mv hmv
    obtain ⟨k, hk, rfl⟩ := List.mem_map.mp hmv
    have hk4 : k < 4 := List.mem_range.mp hk
    refine ⟨.int (if inRow cov k p then M + 1 else cols.getD k 0), by simp [fSel], ?_⟩
    refine WE_ifexp (WB_compare (WE_name rfl (EV.go (EV_item (k := (k : Int)) (xs := (rowsC cov).map intsMV) (EV_name rfl) (EV_name rfl) (by omega) (rowsC_get hk4) (by omega)) (V_inInts (Tr_bool ?_)))))
    rw [in_row hp]
    show match inRow cov k p with | true => _ | false => _
    cases hi : inRow cov k p with
    | true => exact EV.go (EV_bin (EV_name rfl) EV_int (fun Q hq => V_add hq)) ⟨rfl, rfl⟩
    | false => exact EV.go (EV_ints (ns := cols) (k := (k : Int)) (EV_name rfl) (EV_name rfl) (by omega) (by omega) (by omega)) ⟨rfl, rfl⟩
  · have e : (rngItems 4).filterMap (fSel (fun _ => true) fun k => if inRow cov k p then M + 1 else cols.getD k 0) = (nextCols cov cols p M).map MV.int := fSel_map _ _ (List.range 4)
    rw [e]; exact h
theorem law_e2 {z : FnRest} {L : Addr} {a : Addr} {M : Int} {lv : List Int} (hl : φ.lookup ("levels" : Str) = some (.ref a)) (hle : φ.lookup ("level" : Str) = some (.int M)) (ha : σ a = some (mlist (lv.map .int))) (hlen : lv.length ≤ 100)
    (h : P .next φ (σ.put a (mlist ((lv ++ [M]).map .int)))) : WS1 X A (lEnv z L) (eSt 2) φ σ P := by
  refine WS1_expr (WE_append (WE_name hl ⟨a, _, rfl, ha, WE_name hle ⟨_, ha, ?_, rfl, ?_⟩⟩))
  · rw [List.length_map]; exact Nat.le_trans hlen (by decide)
  · have e : lv.map MV.int ++ [.int M] = (lv ++ [M]).map MV.int := by simp
    rw [e]; exact h
def touched3 (x : Str) : Bool := x == ("place" : Str) || x == ("level" : Str) || x == ("columns" : Str)
def Others3 (φ₀ φ : MEnv) : Prop := ∀ x mv, touched3 x = false → φ₀.lookup x = some mv → φ.lookup x = some mv
theorem Others3.cons {φ₀ φ : MEnv} {y : Str} {m : MV} (h : Others3 φ₀ φ) (hy : touched3 y = true) : Others3 φ₀ ((y, m) :: φ) := fun x mv hx hl => by
  have e : (x == y) = false := by
    cases q : x == y with
    | false => rfl
    | true => have := beq_iff_eq.mp q; subst this; rw [hy] at hx; cases hx
  rw [List.lookup_cons, e]
  exact h x mv hx hl
theorem law_s26 (hX : X.Ok) (hA : A.handled = none) {z : FnRest} {L : Addr} {a : Addr} (hc : CovOk cov) (hpl : φ.lookup ("places" : Str) = some (intsMV places)) (hco : φ.lookup ("columns" : Str) = some (intsMV [0, 0, 0, 0])) (hr : φ.lookup ("rows" : Str) = some (rowsMV (rowsC cov))) (hl : φ.lookup ("levels" : Str) = some (.ref a)) (ha : σ a = some (mlist []))
    (h : ∀ φ' σ' lev cols, LI cov places lev cols → σ' a = some (mlist ((places.map lev).map .int)) → (∀ b, b ≠ a → σ' b = σ b) → Others3 φ φ' → P .next φ' σ') : WS1 X A (lEnv z L) (lSt 26) φ σ P := by
  have loop : ∀ (rest done : List Int) (φ' : MEnv) (σ' : MHeap) (lev : Int → Int) (cols : List Int), places = done ++ rest → LI cov done lev cols → σ' a = some (mlist ((done.map lev).map .int)) → (∀ b, b ≠ a → σ' b = σ b) → Others3 φ φ' → φ'.lookup ("columns" : Str) = some (intsMV cols) →
      LoopQ X A (lEnv z L) "place" lFor26 (fun _ => True) P (rest.map .int) φ' σ' := by
    intro rest
    induction rest with
    | nil =>
      intro done φ' σ' lev cols hd hi ha' hk hx hco'
      rw [List.append_nil] at hd; subst hd
      exact h φ' σ' lev cols hi ha' hk hx
    | cons p rest ih =>
      intro done φ' σ' lev cols hd hi ha' hk hx hco'
      have hpp : p ∈ places := by rw [hd]; simp
      have hdl : done.length ≤ 8 := by have := congrArg List.length hd; simp [places] at this; omega
      show WS X A (lEnv z L) (eSt 0 :: eSt 1 :: eSt 2 :: []) _ _ _
      refine WS_cons (law_e0 hX hA hpp hi.len lookup_cons_self hco' (hx _ _ (by decide) hr) fun M hM hm => ?_)
      refine WS_cons (law_e1 hX hA hpp hi.len (M := M) rfl hco' (hx _ _ (by decide) hr) lookup_cons_self ?_)
      refine WS_cons (law_e2 (a := a) (M := M) (hx _ _ (by decide) hl) rfl ha' (by rw [List.length_map]; omega) ?_)
      obtain ⟨i1, i2⟩ := hi.step hc hd hM hm
      refine WS_nil ⟨trivial, ih (done ++ [p]) _ _ (fun q => if q = p then M else lev q) (nextCols cov cols p M) (by rw [hd]; simp) i1 ?_ (fun b hb => by rw [MHeap.put_ne hb]; exact hk b hb) (((hx.cons (by decide)).cons (by decide)).cons (by decide)) lookup_cons_self⟩
      rw [MHeap.put_self]
      have e : done.map lev ++ [M] = (done ++ [p]).map fun q => if q = p then M else lev q := by
        rw [List.map_append]
        congr 1
        · exact List.map_congr_left fun q hq => (i2 q hq).symm
        · simp
      rw [e]
  refine WS1_for (WE_name hpl ⟨_, _, iter_list hA, trivial, ?_⟩)
  exact loop places [] φ σ (fun _ => 0) [0, 0, 0, 0] rfl (LI.zero cov) ha (fun b _ => rfl) (fun x mv _ hx => hx) hco
end
end Mine
end
section
open PySem PySem.W PyProof.Rows PySem.Calls
set_option Elab.async false
set_option maxRecDepth 100000
set_option linter.unusedVariables false
set_option linter.unusedSimpArgs false
namespace Mine
section
variable {cov : List (List Int)} {lev : Int → Int} {cols : List Int}
theorem LI.le (hc : CovOk cov) (h : LI cov places lev cols) : ∀ (n : Nat) (p : Int), p ∈ places → p.toNat ≤ n → lev p ≤ p := by
  intro n
  induction n with
  | zero =>
    intro p hp hn
    have hb := places_mem.mp hp
    rcases h.ex p hp with h1 | ⟨a, ha, h1⟩
    · omega
    · obtain ⟨h2, h3⟩ := ah_lt hc hp ha
      have := places_mem.mp h2
      omega
  | succ n ih =>
    intro p hp hn
    have hb := places_mem.mp hp
    rcases h.ex p hp with h1 | ⟨a, ha, h1⟩
    · omega
    · obtain ⟨h2, h3⟩ := ah_lt hc hp ha
      have := places_mem.mp h2
      have := ih a h2 (by omega)
      omega
theorem LI.all (hc : CovOk cov) (h : LI cov places lev cols) : ∀ (n : Nat) (p : Int), p ∈ places → lev p = n → ∀ l : Nat, l ≤ n → ∃ q ∈ places, lev q = l := by
  intro n
  induction n with
  | zero => intro p hp hn l hl; exact ⟨p, hp, by omega⟩
  | succ n ih =>
    intro p hp hn l hl
    by_cases e : l = n + 1
    · exact ⟨p, hp, by omega⟩
    · rcases h.ex p hp with h1 | ⟨a, ha, h1⟩
      · omega
      · exact ih a (ah_lt hc hp ha).1 (by omega) l (by omega)
theorem KI.len {ahf : Int → List Int} {L read given rl : List Int} {S : SS} (h : KI ahf L S read given rl) : rl.length ≤ L.length := h.rlnd.length_le_of_subset (l₂ := L) h.rlL
theorem KI.dones {ahf : Int → List Int} {L given : List Int} (hl : ∀ p ∈ L, (ahf p).length ≤ 4) (hLl : L.length ≤ 8) : ∀ (ks : List Int) (S : SS) (read rl : List Int), KI ahf L S read given rl → ks.Nodup → (∀ k ∈ ks, k ∈ given) → (∀ k ∈ ks, k ∉ read) →
    (∃ rl', KI ahf L (ks.foldl SS.done1 S) (read ++ ks) given rl') ∧ DoneOk S ks
  | [], S, read, rl, h, _, _, _ => ⟨⟨rl, by rw [List.append_nil]; exact h⟩, trivial⟩
  | k :: ks, S, read, rl, h, hn, hg, hr => by
    rw [List.nodup_cons] at hn
    obtain ⟨k2, o1, o2, o3⟩ := h.done (hg k List.mem_cons_self) (hr k List.mem_cons_self)
    obtain ⟨⟨rl', h1⟩, h2⟩ := KI.dones hl hLl ks (S.done1 k) (read ++ [k]) _ k2 hn.2 (fun j hj => hg j (List.mem_cons_of_mem _ hj)) (fun j hj hm => by
      rcases List.mem_append.mp hm with h3 | h3
      · exact hr j (List.mem_cons_of_mem _ hj) h3
      · simp only [List.mem_singleton] at h3; subst h3; exact hn.1 hj)
    refine ⟨⟨rl', by rw [List.append_assoc] at h1; exact h1⟩, o1, o2, o3, ?_, h2⟩
    have e1 : S.rl = rl := by unfold SS.rl; rw [h.rdy]; rfl
    have e2 := h.len
    have e3 : (S.succ k).length ≤ 4 * L.length := by rw [h.succ]; exact succ_len L hl
    rw [e1]; omega
theorem sorted_is {ns rl F : List Int} (h1 : ns.Perm rl) (h2 : ns.Pairwise (· ≤ ·)) (h3 : rl.Nodup) (h4 : F.Pairwise (· < ·)) (h5 : ∀ p, p ∈ rl ↔ p ∈ F) : ns = F := by
  have hF : F.Nodup := h4.imp fun h => by omega
  have hp : rl.Perm F := (List.perm_ext_iff_of_nodup h3 hF).mpr h5
  exact List.Perm.eq_of_pairwise (le := (· ≤ ·)) (fun a b _ _ h6 h7 => by omega) h2 (h4.imp fun h => by omega) (h1.trans hp)
end
def lFor27 : List Stmt := match lSt 27 with | .For _ _ b _ _ => b | _ => []
def gSt (n : Nat) : Stmt := lFor27.getD n (.Pass ⟨0, 0, 0, 0⟩)
section
variable {X : Cx} {A : Around} {φ₀ φ : MEnv} {σ₀ σ : MHeap} {P : MF → MEnv → MHeap → Prop} {cov : List (List Int)} {ad : Loc → Addr} {S : SS} {lev : Int → Int} {cols L₂ : List Int}
theorem places_get {p : Int} (hp : p ∈ places) : ((places.map lev).map MV.int)[p.toNat]? = some (.int (lev p)) := by
  have hb := places_mem.mp hp
  have : p = 0 ∨ p = 1 ∨ p = 2 ∨ p = 3 ∨ p = 4 ∨ p = 5 ∨ p = 6 ∨ p = 7 := by omega
  rcases this with rfl | rfl | rfl | rfl | rfl | rfl | rfl | rfl <;> rfl
theorem law_g0 (hX : X.Ok) (hA : AOk 1 A) {z : FnRest} {L : Addr} {rl : List Int} (hs : SorterIs X σ ad S) (hag : φ.lookup ("again" : Str) = some (.ref (ad .self))) (hr : S.ready = some rl) (hin : ∀ k ∈ rl, k ∈ S.order) (hlen : rl.length ≤ 100)
    (h : ∀ σ', SorterIs X σ' ad (S.afterReady rl) → P .next (("group", .tup (rl.map .int)) :: φ) σ') : WS1 X A (lEnv z L) (gSt 0) φ σ P :=
  WS1_assign (WE_meth hX mc_ready (fn_ts_get_ready hX) (x := ad .self) (WE_name hag ⟨rfl, hs.at_ .self trivial, hs.at_ .dict trivial, attrs_none (by decide) (by decide) (by decide) (by decide), WL_nil (ready_spec hX hA hs hr hin (by omega) fun σ' h1 h2 => h σ' h1)⟩))
theorem law_g1 (hX : X.Ok) (hA : AOk 1 A) {z : FnRest} {L : Addr} {rl : List Int} {l : Int} (hg : φ.lookup ("group" : Str) = some (.tup (rl.map .int))) (hlen : rl.length < 64) (hnd : rl.Nodup) (hm : ∀ p, p ∈ rl ↔ p ∈ places ∧ lev p = l)
    (hp : φ.lookup ("places" : Str) = some (intsMV places)) (hle : φ.lookup ("levels" : Str) = some (intsMV (places.map lev))) (hl : φ.lookup ("level" : Str) = some (.int l))
    (h : P .next φ σ) : WS1 X A (lEnv z L) (gSt 1) φ σ P := by
  have hu : A.units + 64 < cLine := by have := hA.units; omega
  refine WS1_if (WB_compare (WE_callB (gl_sorted hX) (WL_cons (WE_name hg (WL_nil (B_sortedT hlen fun ns' h1 h2 => ?_))))))
  have e : ns' = places.filter fun p => lev p == l := sorted_is h1 h2 hnd (List.Pairwise.filter _ places_lt) fun p => by
    rw [hm, List.mem_filter, beq_iff_eq]
  subst e
  refine WE_comp [("levels", intsMV (places.map lev)), ("level", .int l)] (fFilter fun p => lev p == l) ?_ ⟨hle, by rfl, hl, by rfl, trivial⟩
  refine WE_name hp ⟨_, _, iter_list hA.handled, trivial, by show 8 ≤ sizeLine; decide, ?_, ?_⟩
  · intro C mv hmv
    obtain ⟨p, hp2, rfl⟩ := List.mem_map.mp hmv
    have hpb := places_mem.mp hp2
    refine WB_compare (EV.go (EV_item (k := p) (xs := (places.map lev).map MV.int) (EV_name rfl) (EV_name rfl) hpb.1 (places_get hp2) (by omega)) (WE_name rfl (V_eq (Tr_bool ⟨rfl, ?_⟩))))
    show match (lev p == l) with | true => _ | false => _
    cases hb : (lev p == l) with
    | true => exact ⟨.int p, if_pos hb, WE_name rfl ⟨rfl, rfl⟩⟩
    | false => exact if_neg (by show ¬ ((lev p == l) = true); rw [hb]; decide)
  · rw [fFilter_map]
    refine V_neInts hu (Tr_bool ?_)
    rw [decide_eq_true rfl]
    exact WS_nil h
theorem law_g2 (hX : X.Ok) (hA : AOk 1 A) {z : FnRest} {L : Addr} {rl : List Int} (hs : SorterIs X σ ad S) (hag : φ.lookup ("again" : Str) = some (.ref (ad .self))) (hr : S.ready = some []) (hact : S.fin < S.passed) (hg : φ.lookup ("group" : Str) = some (.tup (rl.map .int))) (hlen : rl.length ≤ 100) (hok : DoneOk S rl)
    (h : ∀ σ', SorterIs X σ' ad (rl.foldl SS.done1 S) → P .next φ σ') : WS1 X A (lEnv z L) (gSt 2) φ σ P := by
  refine WS1_if (WB_boolop (WAll_or ?_))
  refine WB_compare (WE_meth hX mc_active (fn_ts_is_active hX) (x := ad .self) (WE_name hag ⟨rfl, hs.at_ .self trivial, hs.at_ .dict trivial, attrs_none (by decide) (by decide) (by decide) (by decide), WL_nil (active_spec hX hA hs hr (by decide) (WE_bool (V_isNot (Tr_bool ?_))))⟩))
  rw [decide_eq_true hact]
  refine WAll_or ?_
  refine WB_compare (WE_methS hX bc_done (x := ad .self) (WE_name hag ⟨rfl, hs.at_ .self trivial, hs.at_ .dict trivial, attrs_none (by decide) (by decide) (by decide) (by decide), WArgs_lone (WE_name hg ⟨_, rfl, ?_, ?_⟩)⟩))
  · rw [List.length_map]; exact Nat.le_trans hlen (by decide)
  refine done_spec hX hA hs (ks := rl) (by rw [hr]; exact Option.some_ne_none _) (by omega) hok fun σ' h1 h2 => ?_
  exact WE_none (V_isNot (Tr_bool (WAll_or_nil (WS_nil (h σ' h1)))))
def touched4 (x : Str) : Bool := x == ("group" : Str) || x == ("level" : Str)
def Others4 (φ₀ φ : MEnv) : Prop := ∀ x mv, touched4 x = false → φ₀.lookup x = some mv → φ.lookup x = some mv
theorem Others4.cons {φ₀ φ : MEnv} {y : Str} {m : MV} (h : Others4 φ₀ φ) (hy : touched4 y = true) : Others4 φ₀ ((y, m) :: φ) := fun x mv hx hl => by
  have e : (x == y) = false := by
    cases q : x == y with
    | false => rfl
    | true => have := beq_iff_eq.mp q; subst this; rw [hy] at hx; cases hx
  rw [List.lookup_cons, e]
  exact h x mv hx hl
theorem law_s27 (hX : X.Ok) (hA : AOk 2 A) {z : FnRest} {L : Addr} (hc : CovOk cov) (hli : LI cov places lev cols) (hL : ∀ p, p ∈ L₂ ↔ p ∈ places) {rl : List Int} (hki : KI (ah cov) L₂ S [] [] rl) (hs : SorterIs X σ ad S) (hag : φ.lookup ("again" : Str) = some (.ref (ad .self)))
    (hp : φ.lookup ("places" : Str) = some (intsMV places)) (hle : φ.lookup ("levels" : Str) = some (intsMV (places.map lev)))
    (h : ∀ φ' σ' S' read', SorterIs X σ' ad S' → KI (ah cov) L₂ S' read' read' [] → φ'.lookup ("again" : Str) = some (.ref (ad .self)) → P .next φ' σ') : WS1 X A (lEnv z L) (lSt 27) φ σ P := by
  have hA1 : AOk 1 A := hA.less (by decide)
  have hL8 : L₂.length ≤ 8 := hki.nd.length_le_of_subset (l₂ := places) fun p hp => (hL p).mp hp
  have hl4 : ∀ p ∈ L₂, (ah cov p).length ≤ 4 := fun p hp => ah_len hc ((hL p).mp hp)
  refine WS1_for (WE_callT (gl_range hX) (WL_cons (WE_binop (WE_callB (gl_max hX) (WL_cons (WE_name hle (WL_nil (B_max hA.handled (by show 0 < 8; decide) fun M hM hm => WE_int (V_add (WL_nil (T_range ⟨_, _, iter_rng hA.handled ?_, trivial, ?_⟩)))))))))))
  · obtain ⟨p, hp2, rfl⟩ := List.mem_map.mp hM
    have h1 := hli.ge p hp2
    have h2 := hli.le hc p.toNat p hp2 (Nat.le_refl _)
    have h3 := places_mem.mp hp2
    have : lev p = 0 ∨ lev p = 1 ∨ lev p = 2 ∨ lev p = 3 ∨ lev p = 4 ∨ lev p = 5 ∨ lev p = 6 ∨ lev p = 7 := by omega
    rcases this with e | e | e | e | e | e | e | e <;> rw [e] <;> decide
  obtain ⟨pM, hpM, ePM⟩ := List.mem_map.mp hM
  have hM0 : 0 ≤ M := by rw [← ePM]; exact hli.ge pM hpM
  have loop : ∀ (m t : Nat) (φ' : MEnv) (σ' : MHeap) (S' : SS) (rd rl : List Int), t + m = (M + 1).toNat → SorterIs X σ' ad S' → KI (ah cov) L₂ S' rd rd rl → (∀ p, p ∈ rd ↔ p ∈ places ∧ lev p < t) → Others4 φ φ' →
      LoopQ X A (lEnv z L) "level" lFor27 (fun _ => True) P ((List.range' t m).map fun (i : Nat) => MV.int (i : Int)) φ' σ' := by
    intro m
    induction m with
    | zero =>
      intro t φ' σ' S' rd rl ht hs' hk hrd hx
      have hnil : rl = [] := List.eq_nil_iff_forall_not_mem.mpr fun p hp => by
        obtain ⟨h1, h2, _⟩ := (hk.rlm p).mp hp
        have hpp := (hL p).mp h1
        apply h2
        refine (hrd p).mpr ⟨hpp, ?_⟩
        have := hm (lev p) (List.mem_map.mpr ⟨p, hpp, rfl⟩)
        omega
      subst hnil
      exact h φ' σ' S' rd hs' hk (hx _ _ (by decide) hag)
    | succ m ih =>
      intro t φ' σ' S' rd rl ht hs' hk hrd hx
      have hrlm : ∀ p, p ∈ rl ↔ p ∈ places ∧ lev p = (t : Int) := fun p => by
        rw [hk.rlm, hL]
        constructor
        · rintro ⟨h1, h2, h3⟩
          refine ⟨h1, ?_⟩
          have h4 : ¬ lev p < t := fun q => h2 ((hrd p).mpr ⟨h1, q⟩)
          rcases hli.ex p h1 with h5 | ⟨a, ha, h5⟩
          · omega
          · have := ((hrd a).mp (h3 a ha)).2
            omega
        · rintro ⟨h1, h2⟩
          refine ⟨h1, fun q => ?_, fun a ha => (hrd a).mpr ⟨(ah_lt hc h1 ha).1, ?_⟩⟩
          · have := ((hrd p).mp q).2; omega
          · have := hli.up p h1 a ha; omega
      have hrl8 : rl.length ≤ 8 := Nat.le_trans hk.len hL8
      have hne : 0 < rl.length := by
        obtain ⟨q, hq1, hq2⟩ := hli.all hc M.toNat pM hpM (by omega) t (by omega)
        exact List.length_pos_of_mem ((hrlm q).mpr ⟨hq1, hq2⟩)
      have k1 := hk.out
      obtain ⟨⟨rl', k2⟩, hok⟩ := KI.dones hl4 hL8 rl _ _ _ k1 hk.rlnd (fun k hk => List.mem_append_right _ hk) (fun k hk' hr => ((hk.rlm k).mp hk').2.1 hr)
      rw [List.range'_succ, List.map_cons]
      show WS X A (lEnv z L) (gSt 0 :: gSt 1 :: gSt 2 :: []) _ _ _
      refine WS_cons (law_g0 hX hA1 hs' (hx _ _ (by decide) hag) hk.rdy (fun k hkk => (hk.ord k).mpr (hk.rlL k hkk)) (by omega) fun σ1 hs1 => ?_)
      refine WS_cons (law_g1 hX hA1 (lev := lev) (l := (t : Int)) lookup_cons_self (by omega) hk.rlnd hrlm (hx _ _ (by decide) hp) (hx _ _ (by decide) hle) rfl ?_)
      refine WS_cons (law_g2 hX hA1 hs1 (hx _ _ (by decide) hag) k1.rdy ?_ lookup_cons_self (by omega) hok fun σ2 hs2 => ?_)
      · rw [k1.fin, k1.passed, List.length_append]; omega
      refine WS_nil ⟨trivial, ih (t + 1) _ σ2 _ (rd ++ rl) rl' (by omega) hs2 k2 (fun p => ?_) ((hx.cons (by decide)).cons (by decide))⟩
      rw [List.mem_append, hrd, hrlm]
      constructor
      · rintro (⟨h1, h2⟩ | ⟨h1, h2⟩)
        · exact ⟨h1, by omega⟩
        · exact ⟨h1, by omega⟩
      · rintro ⟨h1, h2⟩
        by_cases e : lev p = t
        · exact .inr ⟨h1, e⟩
        · exact .inl ⟨h1, by omega⟩
  have := loop (M + 1).toNat 0 φ σ S [] rl (by omega) hs hki (fun p => ⟨fun h => (by cases h), fun h => by have := hli.ge p h.1; omega⟩) (fun x mv _ hx => hx)
  unfold rngItems
  rw [List.range_eq_range']
  exact this
theorem law_s28 (hX : X.Ok) (hA : AOk 1 A) {z : FnRest} {L : Addr} {rd : List Int} (hs : SorterIs X σ ad S) (hki : KI (ah cov) L₂ S rd rd []) (hag : φ.lookup ("again" : Str) = some (.ref (ad .self)))
    (h : ∀ σ', P (.ret (.bool true)) φ σ') : WS1 X A (lEnv z L) (lSt 28) φ σ P := by
  have hu : A.units + 64 < cLine := by have := hA.units; omega
  have hact : ¬ S.fin < S.passed := by rw [hki.fin, hki.passed]; omega
  refine WS1_return (WE_boolop (WBo_and (WE_compare ?_)))
  refine WE_meth hX mc_active (fn_ts_is_active hX) (x := ad .self) (WE_name hag ⟨rfl, hs.at_ .self trivial, hs.at_ .dict trivial, attrs_none (by decide) (by decide) (by decide) (by decide), WL_nil (active_spec hX hA hs hki.rdy (by decide) (WE_bool (V_is (Tr_bool ?_))))⟩)
  rw [decide_eq_false hact]
  refine ⟨rfl, WBo_last (WE_compare ?_)⟩
  refine WE_meth hX mc_ready (fn_ts_get_ready hX) (x := ad .self) (WE_name hag ⟨rfl, hs.at_ .self trivial, hs.at_ .dict trivial, attrs_none (by decide) (by decide) (by decide) (by decide), WL_nil (ready_spec hX hA hs hki.rdy (by simp) (by decide) fun σ' h1 h2 => ?_)⟩)
  exact WE_tuple (WL_nil ⟨by decide, V_eqTup (ns := []) (ms := []) hu (h σ')⟩)
end
end Mine
end
section
open PySem PySem.W PyProof.Rows PySem.Calls
set_option Elab.async false
set_option maxRecDepth 100000
set_option linter.unusedVariables false
set_option linter.unusedSimpArgs false
namespace Mine
structure LNm (ns : List Int) (φ : MEnv) : Prop where
  judges : φ.lookup ("judges" : Str) = some judgesMV
  picks : φ.lookup ("picks" : Str) = some (intsMV (picksOf ns))
  total : φ.lookup ("total" : Str) = some (.int ns.sum)
  things : φ.lookup ("things" : Str) = some (.list (thingsOf ns))
  places : φ.lookup ("places" : Str) = some (intsMV places)
  rows : φ.lookup ("rows" : Str) = some (rowsMV (rowsC (covOf ns)))
  covers : φ.lookup ("covers" : Str) = some (rowsMV (covOf ns))
def inNames (x : Str) : Bool := x == ("judges" : Str) || x == ("picks" : Str) || x == ("total" : Str) || x == ("things" : Str) || x == ("places" : Str) || x == ("rows" : Str) || x == ("covers" : Str)
theorem LNm.keep {ns : List Int} {φ φ' : MEnv} (h : LNm ns φ) (hk : ∀ x mv, inNames x = true → φ.lookup x = some mv → φ'.lookup x = some mv) : LNm ns φ' :=
  ⟨hk _ _ (by decide) h.judges, hk _ _ (by decide) h.picks, hk _ _ (by decide) h.total, hk _ _ (by decide) h.things, hk _ _ (by decide) h.places, hk _ _ (by decide) h.rows, hk _ _ (by decide) h.covers⟩
theorem inNames_ne {x y : Str} (h : inNames x = true) (hy : inNames y = false) : (x == y) = false := by
  cases q : x == y with
  | false => rfl
  | true => have := beq_iff_eq.mp q; subst this; rw [h] at hy; cases hy
theorem LNm.cons {ns : List Int} {φ : MEnv} {y : Str} {m : MV} (h : LNm ns φ) (hy : inNames y = false) : LNm ns ((y, m) :: φ) := h.keep fun x mv hx hl => by
  rw [List.lookup_cons, inNames_ne hx hy]; exact hl
section
variable {X : Cx} {A : Around} {φ : MEnv} {σ : MHeap} {P : MF → MEnv → MHeap → Prop} {ns : List Int} {rest : List Stmt} {z : FnRest} {L : Addr} {ad : Loc → Addr} {S : SS}
theorem seg_a (hX : X.Ok) (hA : AOk 5 A) (hsz : ns.length ≤ sizeLine) (h : ∀ φ, LNm ns φ → WS X A (lEnv z L) rest φ σ P) :
    WS X A (lEnv z L) (lSt 0 :: lSt 1 :: lSt 2 :: lSt 3 :: lSt 4 :: lSt 5 :: lSt 6 :: lSt 7 :: lSt 8 :: lSt 9 :: lSt 10 :: rest) [("script", intsMV ns)] σ P := by
  have h2 : ∀ (φ : MEnv) (P : MF → MEnv → MHeap → Prop), P .next (("cells", intsMV cells0) :: φ) σ → WS1 X A (lEnv z L) (lSt 2) φ σ P := fun φ P h => @law_s2 X A φ σ P z L h
  have h01 := fun rest φ P h => @law_01 X A φ σ P hX z L rest h
  generalize lSt 0 = t0 at h01 ⊢
  generalize lSt 1 = t1 at h01 ⊢
  generalize lSt 2 = t2 at h2 ⊢
  refine h01 _ _ _ ?_
  refine WS_cons (h2 _ _ ?_)
  clear h2 h01
  refine WS_cons (law_s3 hX hA.handled hsz lookup_cons_self rfl ?_)
  refine WS_cons (law_s4 hA.handled lookup_cons_self ?_)
  refine WS_cons (law_s5 hX hA.handled rfl ?_)
  refine WS_cons (law_s6 hX (hA.less (by decide)) rfl lookup_cons_self ?_)
  refine WS_cons (law_s7 hX hA.handled ?_)
  refine WS_cons (law_s8 hX (hA.less (by decide)) rfl ?_)
  refine WS_cons (law_s9 hA.handled lookup_cons_self rfl rfl ?_)
  refine WS_cons (law_s10 hX hA rfl rfl rfl ?_)
  exact h _ ⟨rfl, rfl, rfl, rfl, rfl, rfl, rfl⟩
theorem zero_eq (cov : List (List Int)) : (places.filter fun p => decide (ah cov p = [])) = places.filter fun p => decide (p ∉ ([] : List Int) ∧ ∀ a ∈ ah cov p, a ∈ ([] : List Int)) := by
  apply List.filter_congr
  intro p _
  rw [decide_eq_decide]
  constructor
  · intro h; rw [h]; exact ⟨by simp, by simp⟩
  · rintro ⟨_, h⟩
    cases hq : ah cov p with
    | nil => rfl
    | cons a r => rw [hq] at h; exact absurd (h a List.mem_cons_self) (by simp)
theorem seg_b (hX : X.Ok) (hA : AOk 5 A) (hbl : Below' X A) (hn : LNm ns φ)
    (h : ∀ φ σ ad S, LNm ns φ → SorterIs X σ ad S → KI (ah (covOf ns)) places S [] [] (places.filter fun p => decide (p ∉ ([] : List Int) ∧ ∀ a ∈ ah (covOf ns) p, a ∈ ([] : List Int))) → φ.lookup ("sorter" : Str) = some (.ref (ad .self)) → WS X A (lEnv z L) rest φ σ P) :
    WS X A (lEnv z L) (lSt 11 :: lSt 12 :: lSt 13 :: rest) φ σ P := by
  have hc := cov_ok ns
  refine WS_cons (law_s11 hX (hA.less (by decide)) fun σ1 ad1 hs1 _ _ => ?_)
  have hn1 : LNm ns (("sorter", .ref (ad1 .self)) :: φ) := hn.cons (by decide)
  refine WS_cons (law_s12 hX hA hc hs1 lookup_cons_self hn1.places hn1.covers fun φ2 σ2 ad2 S2 hs2 hg2 hi2 ho2 hl2 hx2 => ?_)
  have hn2 : LNm ns φ2 := hn1.keep fun x mv hx hl => hx2 x mv (by rintro rfl; revert hx; decide) (by rintro rfl; revert hx; decide) hl
  obtain ⟨g1, g2, g3, g4, g5⟩ := hi2.graph hc (fun p => Iff.rfl) places_nd (fun p => by rw [ho2])
  refine WS_cons (law_s13 hX (hA.less (by decide)) hbl hs2 hl2 hi2.ready hi2.pin g1 g2 g3 g4 fun σ3 ad3 ep hs3 hg3 => ?_)
  obtain ⟨k1, k2⟩ := g5 ep
  rw [k2, ho2, zero_eq] at k1
  exact h φ2 σ3 ad3 _ hn2 hs3 k1 (by rw [(hg3.old .self trivial).2]; exact hl2)
theorem left0 (cov : List (List Int)) : leftOf (rowsC cov) [] = rowsC cov := by
  unfold leftOf
  have : ∀ l : List (List Int), (l.map fun r => r.filter fun p => decide (p ∉ ([] : List Int))) = l := fun l => by
    induction l with
    | nil => rfl
    | cons r l ih =>
      rw [List.map_cons, ih]
      congr 1
      exact List.filter_eq_self.mpr (by simp)
  exact this _
theorem seg_c (hX : X.Ok) (hA : AOk 5 A) (hn : LNm ns φ) (hs : SorterIs X σ ad S) (hki : KI (ah (covOf ns)) places S [] [] (places.filter fun p => decide (p ∉ ([] : List Int) ∧ ∀ a ∈ ah (covOf ns) p, a ∈ ([] : List Int)))) (hl : φ.lookup ("sorter" : Str) = some (.ref (ad .self)))
    (h : ∀ φ σ read, LNm ns φ → read.Nodup → (∀ p ∈ read, p ∈ places) → read.length = 8 → (∀ k, k < 4 → read.filter (inRow (covOf ns) k) = rowOf (covOf ns) k) → φ.lookup ("read" : Str) = some (intsMV read) → WS X A (lEnv z L) rest φ σ P) :
    WS X A (lEnv z L) (lSt 14 :: lSt 15 :: lSt 16 :: lSt 17 :: lSt 18 :: rest) φ σ P := by
  have hc := cov_ok ns
  refine WS_cons (law_s14 hX hA.handled hn.rows (by show 4 ≤ 100; decide) (fun r hr => ?_) ?_)
  · obtain ⟨k, _, rfl⟩ := rowsC_mem hr
    exact Nat.le_trans (rowOf_len k) (by decide)
  refine WS_cons (law_s15 fun ag hag => ?_)
  refine WS_cons (law_s16 fun ar har => ?_)
  have hne : ar ≠ ag := by rintro rfl; rw [MHeap.put_self] at har; cases har
  have nl : ∀ l, live S l → ad l ≠ ar ∧ ad l ≠ ag := fun l hl => by
    have h2 : ad l ≠ ag := fun e => by have := hs.at_ l hl; rw [e, hag] at this; cases this
    refine ⟨fun e => ?_, h2⟩
    have := hs.at_ l hl
    rw [e] at this
    rw [MHeap.put_ne hne, this] at har
    cases har
  have hn3 : LNm ns (("read", .ref ar) :: ("given", .ref ag) :: ("left", rowsMV (rowsC (covOf ns))) :: φ) := ((hn.cons (by decide)).cons (by decide)).cons (by decide)
  refine WS_cons (law_s17 hX (hA.less (by decide)) hc (cov := covOf ns) (total := ns.sum) (ar := ar) (ag := ag) (ad := ad) (S := S) ⟨?_, hki, RowInv.nil _, MHeap.put_self _ _ _, ?_, hne, nl, hl, hn3.places, ?_, lookup_cons_self, rfl, hn3.total⟩ ?_)
  · exact hs.keep fun l hl => by rw [MHeap.put_ne (nl l hl).1, MHeap.put_ne (nl l hl).2]
  · rw [MHeap.put_ne (Ne.symm hne)]; exact MHeap.put_self _ _ _
  · rw [left0]; rfl
  intro φ4 σ4 S4 read given hr8 hm hx _
  obtain ⟨a1, a2, a3⟩ := all_given hm.ki hr8
  have hrp : ∀ p ∈ read, p ∈ places := fun p hp => (hm.ki.gL p (hm.ki.rg p hp)).1
  have hrdy := hm.ki.rdy
  rw [a2] at hrdy
  refine WS_cons (law_s18 hX (hA.less (by decide)) hm.hs hm.sorter hrdy ?_ fun σ5 hR => ?_)
  · rw [hm.ki.fin, hm.ki.passed, hr8, a3]; decide
  show WS X A (lEnv z L) rest φ4 σ5 P
  have har5 : σ5 ar = some (mlist (read.map .int)) := by
    rw [hR ar (fun l hl => Ne.symm (hm.nr l hl).1) (by rw [hm.har]; exact Option.some_ne_none _)]; exact hm.har
  refine WS.freeze (x := "read") (a := ar) har5 hm.read ?_
  refine h _ _ read ?_ hm.ki.rnd hrp hr8 (hm.ri.all a1) lookup_cons_self
  refine LNm.cons ?_ (by decide)
  exact hn3.keep fun x mv hx2 hl2 => hx x mv (by
    cases hq : touched x with
    | false => rfl
    | true =>
      exfalso
      unfold touched at hq
      simp only [Bool.or_eq_true, beq_iff_eq] at hq
      rcases hq with ((((rfl | rfl) | rfl) | rfl) | rfl) | rfl <;> revert hx2 <;> decide) hl2
theorem seg_d (hX : X.Ok) (hA : AOk 5 A) (hbl : Below' X A) {read : List Int} (hn : LNm ns φ) (hnd : read.Nodup) (hrp : ∀ p ∈ read, p ∈ places) (hr8 : read.length = 8) (hrow : ∀ k, k < 4 → read.filter (inRow (covOf ns) k) = rowOf (covOf ns) k) (hrd : φ.lookup ("read" : Str) = some (intsMV read))
    (h : ∀ φ σ ad S rl, LNm ns φ → SorterIs X σ ad S → KI (ah (covOf ns)) read.reverse S [] [] rl → φ.lookup ("again" : Str) = some (.ref (ad .self)) → WS X A (lEnv z L) rest φ σ P) :
    WS X A (lEnv z L) (lSt 19 :: lSt 20 :: lSt 21 :: lSt 22 :: lSt 23 :: rest) φ σ P := by
  have hc := cov_ok ns
  refine WS_cons (law_s19 hX hA (ns := ns) hrp (by omega) hrow hn.judges hn.picks hn.things hn.rows hrd fun φ1 hx1 => ?_)
  have hn1 : LNm ns φ1 := hn.keep fun x mv hx hl => hx1 x mv (by rintro rfl; revert hx; decide) hl
  have hrd1 := hx1 _ _ (by decide) hrd
  refine WS_cons (law_s20 hX (hA.less (by decide)) fun σ2 ad2 hs2 _ => ?_)
  refine WS_cons (law_s21 hX (hA.less (by decide)) hc hnd hrp hrow hrd1 hn1.covers (by omega) ?_)
  refine WS_cons (law_s22 hX hA hc hnd hrp hr8 lookup_cons_self hs2 rfl fun φ3 σ3 ad3 S3 hs3 hi3 ho3 hx3 hag3 => ?_)
  have hn3 : LNm ns φ3 := ((hn1.cons (y := "again") (m := .ref (ad2 .self)) (by decide)).cons (y := "ties") (m := .list (read.map fun p => .tup [.int p, intsMV (ah (covOf ns) p)])) (by decide)).keep fun x mv hx hl => hx3 x mv (by
    cases hq : touched2 x with
    | false => rfl
    | true =>
      exfalso
      unfold touched2 at hq
      simp only [Bool.or_eq_true, beq_iff_eq] at hq
      rcases hq with ((rfl | rfl) | rfl) | rfl <;> revert hx <;> decide) hl
  have hall := all_read hnd hrp hr8
  obtain ⟨g1, g2, g3, g4, g5⟩ := hi3.graph hc (fun p => ⟨fun h => hrp p (List.mem_reverse.mp h), fun h => List.mem_reverse.mpr (hall p h)⟩) (List.pairwise_reverse.mpr (hnd.imp Ne.symm)) ho3
  refine WS_cons (law_s23 hX (hA.less (by decide)) hbl hs3 hag3 hi3.ready hi3.pin g1 g2 g3 g4 fun σ4 ad4 ep hs4 hg4 => ?_)
  exact h φ3 σ4 ad4 _ _ hn3 hs4 (g5 ep).1 (by rw [(hg4.old .self trivial).2]; exact hag3)
theorem seg_e (hX : X.Ok) (hA : AOk 5 A) {L₂ : List Int} (hL : ∀ p, p ∈ L₂ ↔ p ∈ places) {rl : List Int} (hn : LNm ns φ) (hs : SorterIs X σ ad S) (hki : KI (ah (covOf ns)) L₂ S [] [] rl) (hag : φ.lookup ("again" : Str) = some (.ref (ad .self)))
    (h : ∀ φ' σ', P (.ret (.bool true)) φ' σ') : WS X A (lEnv z L) (lSt 24 :: lSt 25 :: lSt 26 :: lSt 27 :: lSt 28 :: []) φ σ P := by
  have hc := cov_ok ns
  refine WS_cons (law_s24 ?_)
  refine WS_cons (law_s25 fun a ha => ?_)
  have hn2 : LNm ns (("levels", .ref a) :: ("columns", intsMV [0, 0, 0, 0]) :: φ) := (hn.cons (by decide)).cons (by decide)
  refine WS_cons (law_s26 hX hA.handled (a := a) hc hn2.places rfl hn2.rows lookup_cons_self (MHeap.put_self _ _ _) fun φ3 σ3 lev cols hli ha3 hk3 hx3 => ?_)
  show WS X A (lEnv z L) (lSt 27 :: lSt 28 :: []) φ3 σ3 P
  have hag3 : φ3.lookup ("again" : Str) = some (.ref (ad .self)) := hx3 _ _ (by decide) hag
  refine WS.freeze (x := "levels") (a := a) ha3 (hx3 _ _ (by decide) lookup_cons_self) ?_
  have na : ∀ l, live S l → ad l ≠ a := fun l hl e => by have := hs.at_ l hl; rw [e, ha] at this; cases this
  have hs3 : SorterIs X (σ3.del a) ad S := hs.keep fun l hl => by
    have h1 : σ3.del a (ad l) = σ3 (ad l) := by unfold MHeap.del; simp [na l hl]
    rw [h1, hk3 _ (na l hl), MHeap.put_ne (na l hl)]
  refine WS_cons (law_s27 hX (hA.less (by decide)) hc hli hL hki hs3 hag3 (hx3 _ _ (by decide) hn2.places) lookup_cons_self fun φ4 σ4 S4 rd hs4 hk4 hag4 => ?_)
  exact WS_cons (law_s28 hX (hA.less (by decide)) hs4 hk4 hag4 fun σ5 => h _ σ5)
theorem law_body (hX : X.Ok) (hA : AOk 5 A) (hbl : Below' X A) (hsz : ns.length ≤ sizeLine) (h : ∀ φ' σ', P (.ret (.bool true)) φ' σ') : WS X A (lEnv z L) (fBody (top 28)) [("script", intsMV ns)] σ P := by
  have e : fBody (top 28) = lSt 0 :: lSt 1 :: lSt 2 :: lSt 3 :: lSt 4 :: lSt 5 :: lSt 6 :: lSt 7 :: lSt 8 :: lSt 9 :: lSt 10 :: lSt 11 :: lSt 12 :: lSt 13 :: lSt 14 :: lSt 15 :: lSt 16 :: lSt 17 :: lSt 18 :: lSt 19 :: lSt 20 :: lSt 21 :: lSt 22 :: lSt 23 :: lSt 24 :: lSt 25 :: lSt 26 :: lSt 27 :: lSt 28 :: [] := by kernel_rfl
  rw [e]
  refine seg_a hX hA hsz fun φ1 hn1 => ?_
  refine seg_b hX hA hbl hn1 fun φ2 σ2 ad2 S2 hn2 hs2 hk2 hl2 => ?_
  refine seg_c hX hA hn2 hs2 hk2 hl2 fun φ3 σ3 read hn3 hnd hrp hr8 hrow hrd => ?_
  refine seg_d hX hA hbl hn3 hnd hrp hr8 hrow hrd fun φ4 σ4 ad4 S4 rl hn4 hs4 hk4 hag4 => ?_
  have hall := all_read hnd hrp hr8
  exact seg_e hX hA (fun p => ⟨fun h => hrp p (List.mem_reverse.mp h), fun h => List.mem_reverse.mpr (hall p h)⟩) hn4 hs4 hk4 hag4 h
end
section
variable {X : Cx} {A : Around} {σ : MHeap} {ns : List Int}
theorem law_spec {Q : MV → MHeap → Prop} (hX : X.Ok) (hA : AOk 6 A) (hbl : Below' X A) (hsz : ns.length ≤ sizeLine) (h : ∀ σ', Q (.bool true) σ') : WCall X A 275 [intsMV ns] σ Q := by
  refine WCall1 hX hA "script" (fn_law hX) (fun z v => by kernel_rfl) (fun z => by kernel_rfl) (fun z L => ?_)
  refine WS.addFr ?_
  have hX' := hX.addFr (fEnv (top 28) "law" .none 275 z L).locals
  have hbl' := hbl.push (st := top 28) (q := "law") (d := .none) (a := 275) (z := z) (L := L) rfl
  exact law_body (P := retQ Q) (z := z) (L := L) hX' hA.deeper hbl' hsz fun φ' σ' => h σ'
end
end Mine
end
section
open PySem PySem.W PyProof.Rows PySem.Calls
set_option Elab.async false
set_option maxRecDepth 100000
set_option linter.unusedVariables false
namespace Mine
/-- the call of law, all that stands frozen -/
theorem law_call {w : World} {s₁ : Shared} {mg mb : Str → Option Value} {q : Program} {loose : List Str} {p : Program} (K : (KK w.params).In s₁.heap) (T : TopRead q loose mg mb s₁.heap) (hg : s₁.gens = #[]) {a : Addr} {n : Nat} {vs : List Value} {ns : List Int}
    (ha : s₁.heap.get? a = some (lobj vs.toArray n)) (hi : IntsAre vs ns) (hl : ns.length ≤ 63) :
    codeAny (model p w) callerA (.call (.ref 275) ⟨[.ref a], []⟩) (fun r s' => r = .ok (.ret (.bool true)) ∧ (∀ b o, s₁.heap.get? b = some o → s'.heap.get? b = some o) ∧ s'.os = s₁.os ∧ s'.gens = #[]) s₁ := by
  let X : Cx := { prog := p, w := w, h₀ := s₁.heap, os := s₁.os, gl := mg, fr := [] }
  have hX : X.Ok := ⟨K, q, loose, mg, mb, T⟩
  have hA : AOk 6 callerA := ⟨by decide, by decide, rfl⟩
  have hbl : Below' X callerA := ⟨[], rfl, fun e he => (by cases he)⟩
  have st : St X (fun b => s₁.heap.get? b) (fun _ => none) s₁ := ⟨fun b o h => h, fun b o h => h, fun b d h => (by cases h), fun b h => absurd rfl h, hg, rfl, fun f hf => (by cases hf)⟩
  have hv : VHs (fun b => s₁.heap.get? b) [intsMV ns] [.ref a] := by
    unfold intsMV
    simp only [VHs, VH]
    exact ⟨_, _, rfl, ⟨a, vs.toArray, n, rfl, ha, by simpa using VHs.ofInts hi⟩, rfl⟩
  have hsz : ns.length ≤ sizeLine := Nat.le_trans hl (by decide)
  refine codeAny_mono (law_spec (X := X) (Q := fun mv _ => mv = .bool true) hX hA hbl hsz (fun _ => rfl) _ s₁ [.ref a] st hv) ?_
  rintro r s' ⟨v, rfl, F', σ', mv, tr, hvv, rfl⟩
  simp only [VH] at hvv
  subst hvv
  exact ⟨rfl, fun b o h => tr.st.fz b o (tr.mono b o h), tr.st.os, tr.st.gens⟩
/-! The names below are taken so that the kit's head makes no quick twin of these constants: their proofs would be very long. -/
theorem law_holds.tw9797812581439246567 : True := trivial
theorem law_holds.tw12713459836128231821 : True := trivial
theorem law_holds.tw4260448847042921076 : True := trivial
theorem law_holds.tw3090774900390765698 : True := trivial
theorem law_holds.tw9843604407834444796 : True := trivial
theorem law_holds.tw6861490101519172755 : True := trivial
theorem law_holds.tw10308740554644630452 : True := trivial
theorem law_holds.tw12941704145708800945 : True := trivial
theorem law_holds.tw1646856859074649495 : True := trivial
theorem law_holds.tw13536078969547264968 : True := trivial
theorem law_holds.tw10465528174321978529 : True := trivial
theorem law_holds.tw4370086069003782432 : True := trivial
theorem law_holds.tw14390095281932903014 : True := trivial
theorem law_holds.tw17911580528928914924 : True := trivial
theorem law_holds.tw4992725456586698614 : True := trivial
theorem law_holds.tw14794473197723012142 : True := trivial
theorem law_holds.tw2136269947727277649 : True := trivial
theorem law_holds.tw11625900857008200698 : True := trivial
theorem law_holds.tw1670043908289496885 : True := trivial
theorem law_holds.tw5576560056575288128 : True := trivial
theorem law_holds.tw498061464947678834 : True := trivial
theorem law_holds.tw4464252984393422682 : True := trivial
theorem law_holds.tw7185456241796803578 : True := trivial
theorem law_holds.tw1341266762083198811 : True := trivial
theorem law_holds.tw8970147916757833333 : True := trivial
theorem law_holds.tw6776455111828631412 : True := trivial
theorem law_holds.tw8984712037535005518 : True := trivial
theorem law_holds.tw13882729330811710610 : True := trivial
theorem law_holds.tw6414236842205186250 : True := trivial
theorem law_holds.tw12116493165278983582 : True := trivial
theorem law_holds.tw13709617746848070560 : True := trivial
theorem law_holds.tw4441770287765753910 : True := trivial
theorem law_holds.tw6499956759230125245 : True := trivial
theorem law_holds.tw15452448965706171373 : True := trivial
theorem law_holds.tw14571795756577361901 : True := trivial
theorem law_holds.tw12831907817818079685 : True := trivial
theorem law_holds.tw13956741780833797525 : True := trivial
theorem law_holds.tw10666784280354678857 : True := trivial
theorem law_holds.tw10566571302883470556 : True := trivial
theorem law_holds.tw9682718004065560343 : True := trivial
theorem law_holds.tw724200737284857819 : True := trivial
theorem law_holds.tw7696488724909661519 : True := trivial
theorem law_holds.tw15527639110640922598 : True := trivial
theorem law_holds.tw9529696498207198238 : True := trivial
theorem law_holds.tw8285764192309689115 : True := trivial
theorem law_holds.tw6667284449218939238 : True := trivial
theorem law_holds.tw13392613628428298086 : True := trivial
theorem law_holds.tw4581845663705801772 : True := trivial
theorem law_holds.tw12626328134170644701 : True := trivial
theorem law_holds.tw1689763614830377041 : True := trivial
theorem law_holds.tw15806970514647361693 : True := trivial
theorem law_holds.tw13182730311906835528 : True := trivial
theorem law_holds.tw14545874151571354728 : True := trivial
theorem law_holds.tw6317479115527610633 : True := trivial
theorem law_holds.tw699380112222796084 : True := trivial
theorem law_holds.tw10486713781251687710 : True := trivial
theorem law_holds.tw18269650602155537469 : True := trivial
theorem law_holds.tw12459966957829302596 : True := trivial
theorem law_holds.tw9168033884955339765 : True := trivial
set_option maxHeartbeats 8000000 in
set_option Elab.async true in
/-- the head of the kit (o_head) with the objects of MK; then the call -/
theorem law_holds : PySem.Challenge.rw_mr0294_01.Holds := by
  w_on
  o_law
  o_head (kHook heapK addrsK addrsK_eq)
  (case hw => w_witness2)
  intro w s₀ s₁ mg mb G Y fa o pm cd doc dV kV ho hd hcd hD hmg hg args vals as hpre hlay hrd hwl hlo
  clear hd hD hcd ho
  have KX := kIn_of Y
  have hf : (Value.ref fa) = .ref 275 := by
    have h1 : mg ("law" : Str) = some (.ref 275) := mg_of KX G.T.g (by kernel_rfl)
    have h2 : mg ("law" : Str) = some (.ref fa) := hmg
    rw [h1] at h2; cases h2; rfl
  clear hmg
  cases hf
  wrow_args hpre hlay hrd hwl hlo
  clear Y
  rename_i ns _ _ _ _ _ _ _ a vs _ hL _ w1 _ hI _ hlen _
  have hT := topRead_of G.T
  have hle : ns.length ≤ 63 := by omega
  obtain ⟨n, ha⟩ : ∃ n, s₁.heap.get? a = some (lobj vs.toArray n) := by
    simp only [ofPy] at w1
    cases w1 with
    | list hget hall =>
      obtain ⟨o', ho', hc', k, hd'⟩ := hL
      rw [hget] at ho'
      cases ho'
      simp only [Data.seq.injEq] at hd'
      refine ⟨0, ?_⟩
      rw [hget, hd'.1]; rfl
  refine enter_call (codeAny_mono (law_call KX hT hg ha hI hle) ?_)
  rintro r s' ⟨rfl, h1, h2, h3⟩
  refine GoodW.toG ⟨.inl ⟨.bool true, .bool true, [], rfl, fun _ => rfl, ?_, ?_, ?_⟩, h1, h2, h3⟩
  · exact .bool _
  · exact postW_of (by wrow_shape) (w_eq_bool (w_res rfl) w_lit) rfl
  · intro _; exact ⟨by simp, by simp⟩
end Mine
theorem PySem.Challenge.cw_mr0294_01_holds : PySem.Challenge.rw_mr0294_01.Holds :=
  Mine.law_holds
end
