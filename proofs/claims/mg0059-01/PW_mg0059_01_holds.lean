import PyProof.Rows.All
import Wide.All
import OpenK.KMore
import OpenK.KCell
import OpenK.KMeth
import OpenK.KDict
import OpenK.KList
import Wide.FinOn
import PyProof.ExcBaseAll.ValueError
import PyProof.DictWalks
import PyProof.WalksMore
import PyProof.ListNew
import PyProof.NeKinds
import PySem.Challenge.RW_mg0059_01

set_option tactic.hygienic false

-- part K0
section
open PySem PySem.W PyProof.Rows
set_option Elab.async false
namespace Mine
/-! the part of the module's heap that the proof reads -/
noncomputable def nth : List Stmt → Nat → Stmt
  | s :: _, 0 => s
  | _ :: r, n + 1 => nth r n
  | [], _ => .Pass ⟨0, 0, 0, 0⟩
noncomputable def classBody : Stmt → List Stmt
  | .ClassDef _ _ _ b _ _ _ _ _ _ _ => b
  | _ => []
noncomputable def tops : List Stmt := PySem.Challenge.pw_mg0059_01.main.body
noncomputable def fnOfSt (st : Stmt) (qual : Str) (dV pm cd : Value) : Obj := match st with
  | .FunctionDef name args body _ _ _ scope _ _ _ =>
    { cls := .type "function", data := .func { name := name, qualname := qual, params := args, body := .stmts body, scope := scope, globals := 3, closure := [], defaults := dV, kwdefaults := .none, pyModule := pm, code := cd } }
  | _ => { cls := .none }
noncomputable def KF : Params → Frag := fun P => [
  (3, { cls := Value.type "dict", data := Data.dict #[{ hash := PyData.keyHash P (Str.ofString "__name__"), key := Value.str (Str.ofString "__name__") 165, val := Value.str (Str.ofString "law_mg0059_01") 446 }, { hash := PyData.keyHash P (Str.ofString "__doc__"), key := Value.str (Str.ofString "__doc__") 166, val := Value.none }, { hash := PyData.keyHash P (Str.ofString "__package__"), key := Value.str (Str.ofString "__package__") 167, val := Value.none }, { hash := PyData.keyHash P (Str.ofString "__loader__"), key := Value.str (Str.ofString "__loader__") 168, val := Value.builtin "__main__.__loader__#opaque" }, { hash := PyData.keyHash P (Str.ofString "__spec__"), key := Value.str (Str.ofString "__spec__") 169, val := Value.none }, { hash := PyData.keyHash P (Str.ofString "__annotations__"), key := Value.str (Str.ofString "__annotations__") 170, val := Value.ref 6 }, { hash := PyData.keyHash P (Str.ofString "__builtins__"), key := Value.str (Str.ofString "__builtins__") 171, val := Value.ref 4 }, { hash := PyData.keyHash P (Str.ofString "__file__"), key := Value.str (Str.ofString "__file__") 173, val := Value.str (Str.ofString "/claim/cut.py") 172 }, { hash := PyData.keyHash P (Str.ofString "__cached__"), key := Value.str (Str.ofString "__cached__") 174, val := Value.none }, { hash := PyData.keyHash P (Str.ofString "_wall"), key := Value.str (Str.ofString "_wall") 193, val := Value.ref 21 }, { hash := PyData.keyHash P (Str.ofString "_NODE_OUT"), key := Value.str (Str.ofString "_NODE_OUT") 198, val := Value.int (-1) 197 }, { hash := PyData.keyHash P (Str.ofString "_NODE_DONE"), key := Value.str (Str.ofString "_NODE_DONE") 201, val := Value.int (-2) 200 }, { hash := PyData.keyHash P (Str.ofString "_NodeInfo"), key := Value.str (Str.ofString "_NodeInfo") 238, val := Value.ref 40 }, { hash := PyData.keyHash P (Str.ofString "CycleError"), key := Value.str (Str.ofString "CycleError") 256, val := Value.ref 55 }, { hash := PyData.keyHash P (Str.ofString "TopologicalSorter"), key := Value.str (Str.ofString "TopologicalSorter") 375, val := Value.ref 137 }, { hash := PyData.keyHash P (Str.ofString "heappush"), key := Value.str (Str.ofString "heappush") 385, val := Value.ref 148 }, { hash := PyData.keyHash P (Str.ofString "heappop"), key := Value.str (Str.ofString "heappop") 394, val := Value.ref 155 }, { hash := PyData.keyHash P (Str.ofString "heapreplace"), key := Value.str (Str.ofString "heapreplace") 403, val := Value.ref 162 }, { hash := PyData.keyHash P (Str.ofString "heappushpop"), key := Value.str (Str.ofString "heappushpop") 411, val := Value.ref 169 }, { hash := PyData.keyHash P (Str.ofString "heapify"), key := Value.str (Str.ofString "heapify") 420, val := Value.ref 176 }, { hash := PyData.keyHash P (Str.ofString "_siftdown"), key := Value.str (Str.ofString "_siftdown") 432, val := Value.ref 183 }, { hash := PyData.keyHash P (Str.ofString "_siftup"), key := Value.str (Str.ofString "_siftup") 445, val := Value.ref 190 }, { hash := PyData.keyHash P (Str.ofString "_law_names"), key := Value.str (Str.ofString "_law_names") 456, val := Value.ref 197 }, { hash := PyData.keyHash P (Str.ofString "_law_steps"), key := Value.str (Str.ofString "_law_steps") 470, val := Value.ref 204 }, { hash := PyData.keyHash P (Str.ofString "_law_least"), key := Value.str (Str.ofString "_law_least") 488, val := Value.ref 211 }, { hash := PyData.keyHash P (Str.ofString "_law_waiting"), key := Value.str (Str.ofString "_law_waiting") 494, val := Value.ref 216 }, { hash := PyData.keyHash P (Str.ofString "_law_rings"), key := Value.str (Str.ofString "_law_rings") 500, val := Value.ref 221 }, { hash := PyData.keyHash P (Str.ofString "_law_led"), key := Value.str (Str.ofString "_law_led") 519, val := Value.ref 228 }, { hash := PyData.keyHash P (Str.ofString "_law_agrees"), key := Value.str (Str.ofString "_law_agrees") 530, val := Value.ref 235 }, { hash := PyData.keyHash P (Str.ofString "law"), key := Value.str (Str.ofString "law") 537, val := Value.ref 242 }] 30 }),
  (35, { cls := Value.type "code", data := Data.fields #[Value.str (Str.ofString "__init__") 218, Value.str (Str.ofString "_NodeInfo.__init__") 219, Value.str (Str.ofString "/claim/cut.py") 220, Value.int 10 0, Value.int 2 0, Value.int 0 0, Value.int 0 0, Value.int 3 0, Value.ref 30, Value.bool true, Value.int 181 0, Value.ref 31, Value.none, Value.ref 32, Value.ref 33, Value.ref 34, Value.int 223 0, Value.int 10 0, Value.str (Str.ofString "/claim/cut.py") 224] }),
  (36, fnOfSt (nth (classBody (nth tops 4)) 1) "_NodeInfo.__init__" (Value.none) (Value.str (Str.ofString "cpy313.graphlib") 194) (Value.ref 35)),
  (39, { cls := Value.type "dict", data := Data.dict #[{ hash := PyData.keyHash P (Str.ofString "__module__"), key := Value.str (Str.ofString "__module__") 209, val := Value.str (Str.ofString "cpy313.graphlib") 194 }, { hash := PyData.keyHash P (Str.ofString "__firstlineno__"), key := Value.str (Str.ofString "__firstlineno__") 213, val := Value.int 7 212 }, { hash := PyData.keyHash P (Str.ofString "__slots__"), key := Value.str (Str.ofString "__slots__") 217, val := Value.ref 29 }, { hash := PyData.keyHash P (Str.ofString "__init__"), key := Value.str (Str.ofString "__init__") 225, val := Value.ref 36 }, { hash := PyData.keyHash P (Str.ofString "__static_attributes__"), key := Value.str (Str.ofString "__static_attributes__") 229, val := Value.ref 37 }, { hash := PyData.keyHash P (Str.ofString "node"), key := Value.str (Str.ofString "node") 231, val := Value.ref 41 }, { hash := PyData.keyHash P (Str.ofString "npredecessors"), key := Value.str (Str.ofString "npredecessors") 233, val := Value.ref 42 }, { hash := PyData.keyHash P (Str.ofString "successors"), key := Value.str (Str.ofString "successors") 235, val := Value.ref 43 }, { hash := PyData.keyHash P (Str.ofString "__doc__"), key := Value.str (Str.ofString "__doc__") 236, val := Value.none }] 5 }),
  (40, { cls := Value.type "type", data := Data.cls { name := Str.ofString "_NodeInfo", bases := [Value.type "object"], mro := [Value.ref 40, Value.type "object"], ns := 39, qualname := Str.ofString "_NodeInfo", hasDict := false, slotNames := [Str.ofString "node", Str.ofString "npredecessors", Str.ofString "successors"] }, slots := #[none, none, some (Value.str (Str.ofString "_NodeInfo") 202), some (Value.str (Str.ofString "_NodeInfo") 210), some (Value.builtin "object.__new__"), some (Value.bool false)] }),
  (41, { cls := Value.type "member_descriptor", data := Data.fields #[Value.str (Str.ofString "node") 230, Value.ref 40, Value.builtin "proto.slot", Value.builtin "proto.slot#set", Value.int 2 0] }),
  (42, { cls := Value.type "member_descriptor", data := Data.fields #[Value.str (Str.ofString "npredecessors") 232, Value.ref 40, Value.builtin "proto.slot", Value.builtin "proto.slot#set", Value.int 1 0] }),
  (43, { cls := Value.type "member_descriptor", data := Data.fields #[Value.str (Str.ofString "successors") 234, Value.ref 40, Value.builtin "proto.slot", Value.builtin "proto.slot#set", Value.int 0 0] }),
  (54, { cls := Value.type "dict", data := Data.dict #[{ hash := PyData.keyHash P (Str.ofString "__module__"), key := Value.str (Str.ofString "__module__") 246, val := Value.str (Str.ofString "cpy313.graphlib") 194 }, { hash := PyData.keyHash P (Str.ofString "__firstlineno__"), key := Value.str (Str.ofString "__firstlineno__") 250, val := Value.int 14 249 }, { hash := PyData.keyHash P (Str.ofString "__static_attributes__"), key := Value.str (Str.ofString "__static_attributes__") 251, val := Value.ref 53 }, { hash := PyData.keyHash P (Str.ofString "__weakref__"), key := Value.str (Str.ofString "__weakref__") 253, val := Value.ref 56 }, { hash := PyData.keyHash P (Str.ofString "__doc__"), key := Value.str (Str.ofString "__doc__") 254, val := Value.none }] 3 }),
  (55, { cls := Value.type "type", data := Data.cls { name := Str.ofString "CycleError", bases := [Value.type "ValueError"], mro := [Value.ref 55, Value.type "ValueError", Value.type "Exception", Value.type "BaseException", Value.type "object"], ns := 54, qualname := Str.ofString "CycleError" }, slots := #[some (Value.ref 46), none, some (Value.str (Str.ofString "CycleError") 239), some (Value.str (Str.ofString "CycleError") 247), some (Value.builtin "ValueError.__new__"), some (Value.bool true)] }),
  (66, { cls := Value.type "tuple", data := Data.seq #[Value.none] }),
  (72, { cls := Value.type "code", data := Data.fields #[Value.str (Str.ofString "__init__") 269, Value.str (Str.ofString "TopologicalSorter.__init__") 270, Value.str (Str.ofString "/claim/cut.py") 271, Value.int 18 0, Value.int 2 0, Value.int 0 0, Value.int 0 0, Value.int 3 0, Value.ref 67, Value.bool true, Value.int 181 0, Value.ref 68, Value.none, Value.ref 69, Value.ref 70, Value.ref 71, Value.int 276 0, Value.int 18 0, Value.str (Str.ofString "/claim/cut.py") 277] }),
  (73, fnOfSt (nth (classBody (nth tops 6)) 0) "TopologicalSorter.__init__" (Value.ref 66) (Value.str (Str.ofString "cpy313.graphlib") 194) (Value.ref 72)),
  (79, { cls := Value.type "code", data := Data.fields #[Value.str (Str.ofString "_get_nodeinfo") 279, Value.str (Str.ofString "TopologicalSorter._get_nodeinfo") 280, Value.str (Str.ofString "/claim/cut.py") 281, Value.int 27 0, Value.int 2 0, Value.int 0 0, Value.int 0 0, Value.int 3 0, Value.ref 74, Value.bool true, Value.int 181 0, Value.ref 75, Value.none, Value.ref 76, Value.ref 77, Value.ref 78, Value.int 285 0, Value.int 27 0, Value.str (Str.ofString "/claim/cut.py") 286] }),
  (80, fnOfSt (nth (classBody (nth tops 6)) 1) "TopologicalSorter._get_nodeinfo" (Value.none) (Value.str (Str.ofString "cpy313.graphlib") 194) (Value.ref 79)),
  (86, { cls := Value.type "code", data := Data.fields #[Value.str (Str.ofString "add") 288, Value.str (Str.ofString "TopologicalSorter.add") 289, Value.str (Str.ofString "/claim/cut.py") 290, Value.int 32 0, Value.int 2 0, Value.int 0 0, Value.int 0 0, Value.int 7 0, Value.ref 81, Value.bool true, Value.int 181 0, Value.ref 82, Value.none, Value.ref 83, Value.ref 84, Value.ref 85, Value.int 297 0, Value.int 32 0, Value.str (Str.ofString "/claim/cut.py") 298] }),
  (87, fnOfSt (nth (classBody (nth tops 6)) 2) "TopologicalSorter.add" (Value.none) (Value.str (Str.ofString "cpy313.graphlib") 194) (Value.ref 86)),
  (91, { cls := Value.type "code", data := Data.fields #[Value.str (Str.ofString "prepare") 300, Value.str (Str.ofString "TopologicalSorter.prepare") 301, Value.str (Str.ofString "/claim/cut.py") 302, Value.int 41 0, Value.int 1 0, Value.int 0 0, Value.int 0 0, Value.int 3 0, Value.ref 88, Value.bool true, Value.int 181 0, Value.ref 89, Value.none, Value.none, Value.none, Value.ref 90, Value.int 303 0, Value.int 41 0, Value.str (Str.ofString "/claim/cut.py") 304] }),
  (92, fnOfSt (nth (classBody (nth tops 6)) 3) "TopologicalSorter.prepare" (Value.none) (Value.str (Str.ofString "cpy313.graphlib") 194) (Value.ref 91)),
  (98, { cls := Value.type "code", data := Data.fields #[Value.str (Str.ofString "get_ready") 306, Value.str (Str.ofString "TopologicalSorter.get_ready") 307, Value.str (Str.ofString "/claim/cut.py") 308, Value.int 49 0, Value.int 1 0, Value.int 0 0, Value.int 0 0, Value.int 3 0, Value.ref 93, Value.bool true, Value.int 181 0, Value.ref 94, Value.none, Value.ref 95, Value.ref 96, Value.ref 97, Value.int 313 0, Value.int 49 0, Value.str (Str.ofString "/claim/cut.py") 314] }),
  (99, fnOfSt (nth (classBody (nth tops 6)) 4) "TopologicalSorter.get_ready" (Value.none) (Value.str (Str.ofString "cpy313.graphlib") 194) (Value.ref 98)),
  (105, { cls := Value.type "code", data := Data.fields #[Value.str (Str.ofString "is_active") 316, Value.str (Str.ofString "TopologicalSorter.is_active") 317, Value.str (Str.ofString "/claim/cut.py") 318, Value.int 60 0, Value.int 1 0, Value.int 0 0, Value.int 0 0, Value.int 3 0, Value.ref 100, Value.bool true, Value.int 181 0, Value.ref 101, Value.none, Value.ref 102, Value.ref 103, Value.ref 104, Value.int 320 0, Value.int 60 0, Value.str (Str.ofString "/claim/cut.py") 321] }),
  (106, fnOfSt (nth (classBody (nth tops 6)) 5) "TopologicalSorter.is_active" (Value.none) (Value.str (Str.ofString "cpy313.graphlib") 194) (Value.ref 105)),
  (119, { cls := Value.type "code", data := Data.fields #[Value.str (Str.ofString "done") 330, Value.str (Str.ofString "TopologicalSorter.done") 331, Value.str (Str.ofString "/claim/cut.py") 332, Value.int 68 0, Value.int 1 0, Value.int 0 0, Value.int 0 0, Value.int 7 0, Value.ref 114, Value.bool true, Value.int 181 0, Value.ref 115, Value.none, Value.ref 116, Value.ref 117, Value.ref 118, Value.int 341 0, Value.int 68 0, Value.str (Str.ofString "/claim/cut.py") 342] }),
  (120, fnOfSt (nth (classBody (nth tops 6)) 7) "TopologicalSorter.done" (Value.none) (Value.str (Str.ofString "cpy313.graphlib") 194) (Value.ref 119)),
  (126, { cls := Value.type "code", data := Data.fields #[Value.str (Str.ofString "_find_cycle") 344, Value.str (Str.ofString "TopologicalSorter._find_cycle") 345, Value.str (Str.ofString "/claim/cut.py") 346, Value.int 91 0, Value.int 1 0, Value.int 0 0, Value.int 0 0, Value.int 3 0, Value.ref 121, Value.bool true, Value.int 181 0, Value.ref 122, Value.none, Value.ref 123, Value.ref 124, Value.ref 125, Value.int 354 0, Value.int 91 0, Value.str (Str.ofString "/claim/cut.py") 355] }),
  (127, fnOfSt (nth (classBody (nth tops 6)) 8) "TopologicalSorter._find_cycle" (Value.none) (Value.str (Str.ofString "cpy313.graphlib") 194) (Value.ref 126)),
  (136, { cls := Value.type "dict", data := Data.dict #[{ hash := PyData.keyHash P (Str.ofString "__module__"), key := Value.str (Str.ofString "__module__") 264, val := Value.str (Str.ofString "cpy313.graphlib") 194 }, { hash := PyData.keyHash P (Str.ofString "__firstlineno__"), key := Value.str (Str.ofString "__firstlineno__") 268, val := Value.int 16 267 }, { hash := PyData.keyHash P (Str.ofString "__init__"), key := Value.str (Str.ofString "__init__") 278, val := Value.ref 73 }, { hash := PyData.keyHash P (Str.ofString "_get_nodeinfo"), key := Value.str (Str.ofString "_get_nodeinfo") 287, val := Value.ref 80 }, { hash := PyData.keyHash P (Str.ofString "add"), key := Value.str (Str.ofString "add") 299, val := Value.ref 87 }, { hash := PyData.keyHash P (Str.ofString "prepare"), key := Value.str (Str.ofString "prepare") 305, val := Value.ref 92 }, { hash := PyData.keyHash P (Str.ofString "get_ready"), key := Value.str (Str.ofString "get_ready") 315, val := Value.ref 99 }, { hash := PyData.keyHash P (Str.ofString "is_active"), key := Value.str (Str.ofString "is_active") 322, val := Value.ref 106 }, { hash := PyData.keyHash P (Str.ofString "__bool__"), key := Value.str (Str.ofString "__bool__") 329, val := Value.ref 113 }, { hash := PyData.keyHash P (Str.ofString "done"), key := Value.str (Str.ofString "done") 343, val := Value.ref 120 }, { hash := PyData.keyHash P (Str.ofString "_find_cycle"), key := Value.str (Str.ofString "_find_cycle") 356, val := Value.ref 127 }, { hash := PyData.keyHash P (Str.ofString "static_order"), key := Value.str (Str.ofString "static_order") 363, val := Value.ref 134 }, { hash := PyData.keyHash P (Str.ofString "__static_attributes__"), key := Value.str (Str.ofString "__static_attributes__") 368, val := Value.ref 135 }, { hash := PyData.keyHash P (Str.ofString "__dict__"), key := Value.str (Str.ofString "__dict__") 370, val := Value.ref 138 }, { hash := PyData.keyHash P (Str.ofString "__weakref__"), key := Value.str (Str.ofString "__weakref__") 372, val := Value.ref 139 }, { hash := PyData.keyHash P (Str.ofString "__doc__"), key := Value.str (Str.ofString "__doc__") 373, val := Value.none }] 4 }),
  (137, { cls := Value.type "type", data := Data.cls { name := Str.ofString "TopologicalSorter", bases := [Value.type "object"], mro := [Value.ref 137, Value.type "object"], ns := 136, qualname := Str.ofString "TopologicalSorter" }, slots := #[none, none, some (Value.str (Str.ofString "TopologicalSorter") 257), some (Value.str (Str.ofString "TopologicalSorter") 265), some (Value.builtin "object.__new__"), some (Value.bool true)] }),
  (147, { cls := Value.type "code", data := Data.fields #[Value.str (Str.ofString "heappush") 378, Value.str (Str.ofString "heappush") 379, Value.str (Str.ofString "/claim/cut.py") 380, Value.int 123 0, Value.int 2 0, Value.int 0 0, Value.int 0 0, Value.int 3 0, Value.ref 142, Value.bool true, Value.int 181 0, Value.ref 143, Value.none, Value.ref 144, Value.ref 145, Value.ref 146, Value.int 383 0, Value.int 123 0, Value.str (Str.ofString "/claim/cut.py") 384] }),
  (148, fnOfSt (nth tops 8) "heappush" (Value.none) (Value.str (Str.ofString "cpy313.heapq") 376) (Value.ref 147)),
  (154, { cls := Value.type "code", data := Data.fields #[Value.str (Str.ofString "heappop") 386, Value.str (Str.ofString "heappop") 387, Value.str (Str.ofString "/claim/cut.py") 388, Value.int 126 0, Value.int 1 0, Value.int 0 0, Value.int 0 0, Value.int 3 0, Value.ref 149, Value.bool true, Value.int 181 0, Value.ref 150, Value.none, Value.ref 151, Value.ref 152, Value.ref 153, Value.int 392 0, Value.int 126 0, Value.str (Str.ofString "/claim/cut.py") 393] }),
  (155, fnOfSt (nth tops 9) "heappop" (Value.none) (Value.str (Str.ofString "cpy313.heapq") 376) (Value.ref 154)),
  (161, { cls := Value.type "code", data := Data.fields #[Value.str (Str.ofString "heapreplace") 395, Value.str (Str.ofString "heapreplace") 396, Value.str (Str.ofString "/claim/cut.py") 397, Value.int 134 0, Value.int 2 0, Value.int 0 0, Value.int 0 0, Value.int 3 0, Value.ref 156, Value.bool true, Value.int 181 0, Value.ref 157, Value.none, Value.ref 158, Value.ref 159, Value.ref 160, Value.int 401 0, Value.int 134 0, Value.str (Str.ofString "/claim/cut.py") 402] }),
  (162, fnOfSt (nth tops 10) "heapreplace" (Value.none) (Value.str (Str.ofString "cpy313.heapq") 376) (Value.ref 161)),
  (168, { cls := Value.type "code", data := Data.fields #[Value.str (Str.ofString "heappushpop") 404, Value.str (Str.ofString "heappushpop") 405, Value.str (Str.ofString "/claim/cut.py") 406, Value.int 139 0, Value.int 2 0, Value.int 0 0, Value.int 0 0, Value.int 3 0, Value.ref 163, Value.bool true, Value.int 181 0, Value.ref 164, Value.none, Value.ref 165, Value.ref 166, Value.ref 167, Value.int 409 0, Value.int 139 0, Value.str (Str.ofString "/claim/cut.py") 410] }),
  (169, fnOfSt (nth tops 11) "heappushpop" (Value.none) (Value.str (Str.ofString "cpy313.heapq") 376) (Value.ref 168)),
  (175, { cls := Value.type "code", data := Data.fields #[Value.str (Str.ofString "heapify") 412, Value.str (Str.ofString "heapify") 413, Value.str (Str.ofString "/claim/cut.py") 414, Value.int 144 0, Value.int 1 0, Value.int 0 0, Value.int 0 0, Value.int 3 0, Value.ref 170, Value.bool true, Value.int 181 0, Value.ref 171, Value.none, Value.ref 172, Value.ref 173, Value.ref 174, Value.int 418 0, Value.int 144 0, Value.str (Str.ofString "/claim/cut.py") 419] }),
  (176, fnOfSt (nth tops 12) "heapify" (Value.none) (Value.str (Str.ofString "cpy313.heapq") 376) (Value.ref 175)),
  (182, { cls := Value.type "code", data := Data.fields #[Value.str (Str.ofString "_siftdown") 421, Value.str (Str.ofString "_siftdown") 422, Value.str (Str.ofString "/claim/cut.py") 423, Value.int 148 0, Value.int 3 0, Value.int 0 0, Value.int 0 0, Value.int 3 0, Value.ref 177, Value.bool true, Value.int 181 0, Value.ref 178, Value.none, Value.ref 179, Value.ref 180, Value.ref 181, Value.int 430 0, Value.int 148 0, Value.str (Str.ofString "/claim/cut.py") 431] }),
  (183, fnOfSt (nth tops 13) "_siftdown" (Value.none) (Value.str (Str.ofString "cpy313.heapq") 376) (Value.ref 182)),
  (189, { cls := Value.type "code", data := Data.fields #[Value.str (Str.ofString "_siftup") 433, Value.str (Str.ofString "_siftup") 434, Value.str (Str.ofString "/claim/cut.py") 435, Value.int 159 0, Value.int 2 0, Value.int 0 0, Value.int 0 0, Value.int 3 0, Value.ref 184, Value.bool true, Value.int 181 0, Value.ref 185, Value.none, Value.ref 186, Value.ref 187, Value.ref 188, Value.int 443 0, Value.int 159 0, Value.str (Str.ofString "/claim/cut.py") 444] }),
  (190, fnOfSt (nth tops 14) "_siftup" (Value.none) (Value.str (Str.ofString "cpy313.heapq") 376) (Value.ref 189)),
  (196, { cls := Value.type "code", data := Data.fields #[Value.str (Str.ofString "_law_names") 448, Value.str (Str.ofString "_law_names") 449, Value.str (Str.ofString "/claim/cut.py") 450, Value.int 174 0, Value.int 1 0, Value.int 0 0, Value.int 0 0, Value.int 3 0, Value.ref 191, Value.bool true, Value.int 181 0, Value.ref 192, Value.none, Value.ref 193, Value.ref 194, Value.ref 195, Value.int 454 0, Value.int 174 0, Value.str (Str.ofString "/claim/cut.py") 455] }),
  (197, fnOfSt (nth tops 16) "_law_names" (Value.none) (Value.str (Str.ofString "law_mg0059_01") 446) (Value.ref 196)),
  (203, { cls := Value.type "code", data := Data.fields #[Value.str (Str.ofString "_law_steps") 457, Value.str (Str.ofString "_law_steps") 458, Value.str (Str.ofString "/claim/cut.py") 459, Value.int 180 0, Value.int 2 0, Value.int 0 0, Value.int 0 0, Value.int 3 0, Value.ref 198, Value.bool true, Value.int 181 0, Value.ref 199, Value.none, Value.ref 200, Value.ref 201, Value.ref 202, Value.int 468 0, Value.int 180 0, Value.str (Str.ofString "/claim/cut.py") 469] }),
  (204, fnOfSt (nth tops 17) "_law_steps" (Value.none) (Value.str (Str.ofString "law_mg0059_01") 446) (Value.ref 203)),
  (210, { cls := Value.type "code", data := Data.fields #[Value.str (Str.ofString "_law_least") 471, Value.str (Str.ofString "_law_least") 472, Value.str (Str.ofString "/claim/cut.py") 473, Value.int 193 0, Value.int 2 0, Value.int 0 0, Value.int 0 0, Value.int 3 0, Value.ref 205, Value.bool true, Value.int 181 0, Value.ref 206, Value.none, Value.ref 207, Value.ref 208, Value.ref 209, Value.int 486 0, Value.int 193 0, Value.str (Str.ofString "/claim/cut.py") 487] }),
  (211, fnOfSt (nth tops 18) "_law_least" (Value.none) (Value.str (Str.ofString "law_mg0059_01") 446) (Value.ref 210)),
  (215, { cls := Value.type "code", data := Data.fields #[Value.str (Str.ofString "_law_waiting") 489, Value.str (Str.ofString "_law_waiting") 490, Value.str (Str.ofString "/claim/cut.py") 491, Value.int 214 0, Value.int 3 0, Value.int 0 0, Value.int 0 0, Value.int 3 0, Value.ref 212, Value.bool true, Value.int 181 0, Value.ref 213, Value.none, Value.none, Value.none, Value.ref 214, Value.int 492 0, Value.int 214 0, Value.str (Str.ofString "/claim/cut.py") 493] }),
  (216, fnOfSt (nth tops 19) "_law_waiting" (Value.none) (Value.str (Str.ofString "law_mg0059_01") 446) (Value.ref 215)),
  (220, { cls := Value.type "code", data := Data.fields #[Value.str (Str.ofString "_law_rings") 495, Value.str (Str.ofString "_law_rings") 496, Value.str (Str.ofString "/claim/cut.py") 497, Value.int 220 0, Value.int 2 0, Value.int 0 0, Value.int 0 0, Value.int 3 0, Value.ref 217, Value.bool true, Value.int 181 0, Value.ref 218, Value.none, Value.none, Value.none, Value.ref 219, Value.int 498 0, Value.int 220 0, Value.str (Str.ofString "/claim/cut.py") 499] }),
  (221, fnOfSt (nth tops 20) "_law_rings" (Value.none) (Value.str (Str.ofString "law_mg0059_01") 446) (Value.ref 220)),
  (227, { cls := Value.type "code", data := Data.fields #[Value.str (Str.ofString "_law_led") 501, Value.str (Str.ofString "_law_led") 502, Value.str (Str.ofString "/claim/cut.py") 503, Value.int 227 0, Value.int 3 0, Value.int 0 0, Value.int 0 0, Value.int 3 0, Value.ref 222, Value.bool true, Value.int 181 0, Value.ref 223, Value.none, Value.ref 224, Value.ref 225, Value.ref 226, Value.int 517 0, Value.int 227 0, Value.str (Str.ofString "/claim/cut.py") 518] }),
  (228, fnOfSt (nth tops 21) "_law_led" (Value.none) (Value.str (Str.ofString "law_mg0059_01") 446) (Value.ref 227)),
  (234, { cls := Value.type "code", data := Data.fields #[Value.str (Str.ofString "_law_agrees") 520, Value.str (Str.ofString "_law_agrees") 521, Value.str (Str.ofString "/claim/cut.py") 522, Value.int 274 0, Value.int 2 0, Value.int 0 0, Value.int 0 0, Value.int 3 0, Value.ref 229, Value.bool true, Value.int 181 0, Value.ref 230, Value.none, Value.ref 231, Value.ref 232, Value.ref 233, Value.int 528 0, Value.int 274 0, Value.str (Str.ofString "/claim/cut.py") 529] }),
  (235, fnOfSt (nth tops 22) "_law_agrees" (Value.none) (Value.str (Str.ofString "law_mg0059_01") 446) (Value.ref 234))]
noncomputable def KA : List Addr := [3, 35, 36, 39, 40, 41, 42, 43, 54, 55, 66, 72, 73, 79, 80, 86, 87, 91, 92, 98, 99, 105, 106, 119, 120, 126, 127, 136, 137, 147, 148, 154, 155, 161, 162, 168, 169, 175, 176, 182, 183, 189, 190, 196, 197, 203, 204, 210, 211, 215, 216, 220, 221, 227, 228, 234, 235]
end Mine
end

-- part L1
section
open PySem PySem.W PySem.Calls PyProof.Rows
set_option Elab.async false
set_option genSizeOf false
set_option genInjectivity false
set_option linter.unusedVariables false
set_option autoImplicit false
namespace Mine

/-! ### abstract values and objects -/
inductive AV where
  | none | other
  | bool (b : Bool)
  | int (i : Int)
  | ref (a : Addr)

noncomputable def abs : Value → AV
  | .none => .none
  | .bool b => .bool b
  | .int i _ => .int i
  | .ref a => .ref a
  | _ => .other

theorem abs_none {v : Value} (h : abs v = .none) : v = .none := by cases v <;> first | rfl | cases h
theorem abs_bool {v : Value} {b : Bool} (h : abs v = .bool b) : v = .bool b := by cases v <;> cases h; rfl
theorem abs_int {v : Value} {i : Int} (h : abs v = .int i) : ∃ t, v = .int i t := by cases v <;> cases h; exact ⟨_, rfl⟩
theorem abs_ref {v : Value} {a : Addr} (h : abs v = .ref a) : v = .ref a := by cases v <;> cases h; rfl

inductive AO where
  | list (vs : List AV)
  | tup (vs : List AV)
  | dict (es : List (Int × AV)) (ep : Nat)
  | set (xs : List Int)
  | inst (C : Addr) (d : Addr)
  | attrs (fs : List (Str × AV))
  | node (d : Addr) (vs : List AV)
  | liter (l : Addr) (i : Nat)
  | next (it : Addr)
  | cell (v : Option AV)
  | rng (a b s : Int)
  | slc (l u : Option Int)
  | vals (d : Addr)
  | riter (x l s : Int)

noncomputable abbrev prg : Program := PySem.Challenge.rw_mg0059_01.row.prog
noncomputable abbrev KW (w : World) : Frag := KF w.params

/-- what is known of an attribute -/
noncomputable def look : List (Str × AV) → Str → Option AV
  | [], _ => none
  | (y, v) :: r, x => if x = y then some v else look r x

noncomputable def nextObj (it : Addr) : Obj := ⟨.type "method-wrapper", none, .fields #[.builtin "list_iterator.__next__", .ref it], #[]⟩

noncomputable def OIs (w : World) : AO → Obj → Prop
  | .list vs, o => ∃ items n, o = ⟨.type "list", none, .seq items n, #[]⟩ ∧ items.toList.map abs = vs
  | .tup vs, o => ∃ items n, o = ⟨.type "tuple", none, .seq items n, #[]⟩ ∧ items.toList.map abs = vs
  | .dict es ep, o => ∃ ents kvs, o.ExactDict ∧ o.data = .dict ents ep ∧ KeysOf (intKind prg w) ents ∧ Pairs (intKind prg w) ents.toList kvs ∧ (kvs.map (·.1)).Nodup ∧ kvs.map (fun p => (p.1, abs p.2)) = es
  | .set xs, o => ∃ es ep t, o.ExactSet ∧ o.data = .set es ep t ∧ ElemsOf (intKind prg w) es.toList ∧
      (∀ k, k ∈ xs ↔ ∃ e ∈ es.toList, (intKind prg w).is k e.2 = true) ∧ es.size < scanBound ∧ t.fits es.size = true ∧ es.size = xs.length
  | .inst C d, o => o = ⟨.ref C, some d, .plain, #[]⟩
  | .attrs fs, o => ∃ ents n, o.data = .dict ents n ∧ StrKeys ents ∧ UniqKeys ents ∧ ∀ x, (nsFind ents x).map abs = look fs x
  | .node d vs, o => ∃ v : Array (Option Value), o = ⟨.ref 40, some d, .plain, v⟩ ∧ v.toList.map (·.map abs) = vs.map some
  | .liter l i, o => o = ⟨.type "list_iterator", none, .fields #[.ref l, .int i 0], #[]⟩
  | .next it, o => o = nextObj it
  | .rng a b s, o => ∃ t u v, o = { cls := .type "range", dict := none, data := .fields #[.int a t, .int b u, .int s v], slots := #[] }
  | .slc l u, o => ∃ vl vu, o.cls = .type "slice" ∧ o.data = .fields #[vl, vu, .none] ∧ IsPart vl l ∧ IsPart vu u
  | .cell v, o => ∃ cv, o.data = .cell cv ∧ cv.map abs = v
  | .vals d, o => o.cls = .type "dict_values" ∧ o.data = .fields #[.ref d]
  | .riter x l s, o => o = { cls := .type "range_iterator", dict := none, data := .fields #[rawInt x, rawInt l, rawInt s], slots := #[] }

theorem OIs.live {w : World} {o : AO} {co : Obj} (h : OIs w o co) : co.isFreed = false := by
  cases o
  case list => obtain ⟨_, _, rfl, _⟩ := h; rfl
  case tup => obtain ⟨_, _, rfl, _⟩ := h; rfl
  case dict => obtain ⟨_, _, _, h, _⟩ := h; exact Obj.isFreed_of_dict h
  case set => obtain ⟨_, _, _, _, h, _⟩ := h; obtain ⟨_, _, d, _⟩ := co; cases h; rfl
  case inst => cases h; rfl
  case attrs => obtain ⟨_, _, h, _⟩ := h; exact Obj.isFreed_of_dict h
  case node => obtain ⟨_, rfl, _⟩ := h; rfl
  case liter => cases h; rfl
  case next => cases h; rfl
  case cell => obtain ⟨_, h, _⟩ := h; obtain ⟨_, _, d, _⟩ := co; cases h; rfl
  case slc => obtain ⟨_, _, _, h, _⟩ := h; exact Obj.isFreed_of_fields h
  case rng => obtain ⟨_, _, _, rfl⟩ := h; rfl
  case vals => exact Obj.isFreed_of_fields h.2
  case riter => cases h; rfl

noncomputable abbrev AH := Addr → Option AO
noncomputable def upd (H : AH) (a : Addr) (o : AO) : AH := fun b => if b = a then some o else H b
theorem upd_self (H : AH) (a : Addr) (o : AO) : upd H a o a = some o := if_pos rfl
theorem upd_ne (H : AH) {a b : Addr} (o : AO) (h : b ≠ a) : upd H a o b = H b := if_neg h
theorem upd_upd (H : AH) (a : Addr) (o o' : AO) : upd (upd H a o) a o' = upd H a o' := by
  funext b; by_cases h : b = a <;> simp [upd, h]
theorem upd_comm (H : AH) {a b : Addr} (o o' : AO) (h : a ≠ b) : upd (upd H a o) b o' = upd (upd H b o') a o := by
  funext x; by_cases h1 : x = a <;> by_cases h2 : x = b <;> simp_all [upd]
theorem upd_same (H : AH) {a : Addr} {o : AO} (h : H a = some o) : upd H a o = H := by
  funext b; by_cases q : b = a <;> simp [upd, q, h]

/-- the constants of a run; ib: an exception may be in hand -/
structure CxB (ib : Bool) where
  w : World
  h₀ : Heap
  mg : Str → Option Value
  mb : Str → Option Value
  os : OsState
  ro : AH
  X : (KW w).In h₀
  g : h₀.Ns mainGlobals mg
  b : h₀.Ns builtinsNs mb
  nolimit : h₀.NoLimit
  builtins : ∀ x : Str, x ≠ "__name__" → mb x = bootBuiltins x
  hro : ∀ a o, ro a = some o → ∃ co, h₀.get? a = some co ∧ OIs w o co
  stk : List Env

noncomputable abbrev Cx := CxB false
/-- one frame more -/
noncomputable abbrev CxB.push {ib : Bool} (c : CxB ib) (e : Env) : CxB ib := { c with stk := e :: c.stk }
noncomputable abbrev M {ib : Bool} (c : CxB ib) : Model := model prg c.w
noncomputable def gets {ib : Bool} (c : CxB ib) (H : AH) : Addr → Option AO := fun a => (H a).or (c.ro a)
theorem gets_of {ib : Bool} {c : CxB ib} {H : AH} {a : Addr} {o : AO} (h : H a = some o) : gets c H a = some o := by unfold gets; rw [h]; rfl

theorem gets_H {ib : Bool} {c : CxB ib} {H : AH} {a : Addr} (h : gets c H a = none) : H a = none := by
  unfold gets at h
  cases q : H a with
  | none => rfl
  | some o => rw [q] at h; cases h
theorem gets_ne {ib : Bool} {c : CxB ib} {H : AH} {a r : Addr} {o : AO} (h : a ≠ r) : gets c (upd H r o) a = gets c H a := by unfold gets; rw [upd_ne _ _ h]
theorem gets_under {ib : Bool} {c : CxB ib} {H : AH} {a r : Addr} {o : AO} (h : gets c (upd H a o) r = none) : r ≠ a ∧ gets c H r = none := by
  have ne : r ≠ a := fun q => by subst q; rw [gets_of (upd_self ..)] at h; cases h
  exact ⟨ne, by rw [gets_ne ne] at h; exact h⟩
theorem gets_keep {ib : Bool} {c : CxB ib} {H : AH} {a r : Addr} {o x : AO} (hr : gets c H r = none) (h : gets c H a = some x) : gets c (upd H r o) a = some x := by
  rw [gets_ne (fun q => by subst q; rw [hr] at h; cases h)]; exact h
theorem H_keep {ib : Bool} {c : CxB ib} {H : AH} {a r : Addr} {o x : AO} (hr : gets c H r = none) (h : H a = some x) : upd H r o a = some x := by
  rw [upd_ne _ _ (fun q => by subst q; rw [gets_H hr] at h; cases h)]; exact h

/-- the frames around -/
noncomputable def Stk {ib : Bool} (c : CxB ib) (H : AH) (h : Heap) : Prop := ∀ e ∈ c.stk, e.scope.kind ≠ .module ∧ ∃ L o es n, e.frame = some L ∧ c.h₀.get? L = none ∧ H L = none ∧ h.get? L = some o ∧ o.data = .dict es n
theorem Stk.step {ib : Bool} {c : CxB ib} {H H' : AH} {h h' : Heap} (x : Stk c H h) (k : ∀ b o es n, h.get? b = some o → H b = none → c.h₀.get? b = none → o.data = .dict es n → (∃ o' es' n', h'.get? b = some o' ∧ o'.data = .dict es' n') ∧ H' b = none) : Stk c H' h' := fun e he => by
  obtain ⟨h1, L, o, es, n, h2, h3, h4, h5, h6⟩ := x e he
  obtain ⟨⟨o', es', n', k1, k2⟩, k3⟩ := k L o es n h5 h4 h3 h6
  exact ⟨h1, L, o', es', n', h2, h3, k3, k1, k2⟩
theorem Stk.ext {ib : Bool} {c : CxB ib} {H H' : AH} {h h' : Heap} (x : Stk c H h) (k : ∀ b o, h.get? b = some o → H b = none → c.h₀.get? b = none → h'.get? b = some o ∧ H' b = none) : Stk c H' h' :=
  x.step fun b o es n e1 e2 e3 e4 => ⟨⟨o, es, n, (k b o e1 e2 e3).1, e4⟩, (k b o e1 e2 e3).2⟩

/-- the same thing; a frame's slots may have changed -/
noncomputable def Like (o o' : Obj) : Prop := ∃ sl, o' = { o with slots := sl } ∧ ((∀ es n, o.data ≠ .dict es n) → o' = o)
theorem Like.refl (o : Obj) : Like o o := ⟨o.slots, rfl, fun _ => rfl⟩
theorem Like.trans {o o' o'' : Obj} (a : Like o o') (b : Like o' o'') : Like o o'' := by
  obtain ⟨sl, rfl, h1⟩ := a
  obtain ⟨sl', rfl, h2⟩ := b
  exact ⟨sl', rfl, fun n => (h2 n).trans (h1 n)⟩
theorem Like.data {o o' : Obj} (a : Like o o') : o'.data = o.data := by obtain ⟨sl, rfl, _⟩ := a; rfl

structure HRep {ib : Bool} (c : CxB ib) (H : AH) (s : Shared) : Prop where
  know : ∀ a o, H a = some o → ∃ co, s.heap.get? a = some co ∧ OIs c.w o co
  base : ∀ b o, c.h₀.get? b = some o → s.heap.get? b = some o ∧ H b = none
  hi : ∀ a o, H a = some o → a ≠ sysModules
  os : s.os = c.os
  gens : s.gens = #[]
  stk : Stk c H s.heap

/-- everything that stands outside what is known stays -/
noncomputable def HF (H : AH) (s s' : Shared) (H' : AH) : Prop := ∀ b o, s.heap.get? b = some o → H b = none → (∃ o', s'.heap.get? b = some o' ∧ Like o o') ∧ H' b = none
theorem HF.of {H H' : AH} {s s' : Shared} (h : ∀ b o, s.heap.get? b = some o → H b = none → s'.heap.get? b = some o ∧ H' b = none) : HF H s s' H' :=
  fun b o e n => ⟨⟨o, (h b o e n).1, Like.refl o⟩, (h b o e n).2⟩
theorem HF.refl (H : AH) (s : Shared) : HF H s s H := HF.of fun _ _ h h' => ⟨h, h'⟩
theorem HF.trans {H H1 H2 : AH} {s s1 s2 : Shared} (a : HF H s s1 H1) (b : HF H1 s1 s2 H2) : HF H s s2 H2 :=
  fun x o h h' => let ⟨⟨_, h1, h2⟩, h3⟩ := a x o h h'; let ⟨⟨o2, k1, k2⟩, k3⟩ := b x _ h1 h3; ⟨⟨o2, k1, h2.trans k2⟩, k3⟩

/-- a frame: its names in a fixed order -/
structure Fm where
  env : Env
  ns : List Str
  nodup : ns.Nodup
  loc : ∀ x ∈ ns, env.kindOf x = some .local ∧ (x == ("__debug__" : Str)) = false
  kind : env.scope.kind = .function
  glob : env.globals = mainGlobals
  bi : env.builtins = builtinsNs

/-- what is known: the frame's values, place by place (other: nothing), and the heap -/
structure PS where
  m : List AV
  H : AH

structure Rep {ib : Bool} (c : CxB ib) (F : Fm) (P : PS) (s : Shared) : Prop where
  h : HRep c P.H s
  ns : ∃ mm, s.heap.Ns F.env.locals mm ∧ ∀ (i : Nat) (x : Str) (v : AV), F.ns[i]? = some x → P.m[i]? = some v → v ≠ .other → (mm x).map abs = some v
  own : P.H F.env.locals = none
  new : c.h₀.get? F.env.locals = none

noncomputable def FF (F : Fm) (P : PS) (s s' : Shared) (P' : PS) : Prop :=
  ∀ b o, s.heap.get? b = some o → b ≠ F.env.locals → P.H b = none → (∃ o', s'.heap.get? b = some o' ∧ Like o o') ∧ P'.H b = none
theorem FF.refl (F : Fm) (P : PS) (s : Shared) : FF F P s s P := fun _ o h _ h' => ⟨⟨o, h, Like.refl o⟩, h'⟩
theorem FF.trans {F : Fm} {P P1 P2 : PS} {s s1 s2 : Shared} (a : FF F P s s1 P1) (b : FF F P1 s1 s2 P2) : FF F P s s2 P2 :=
  fun x o h n h' => let ⟨⟨_, h1, h2⟩, h3⟩ := a x o h n h'; let ⟨⟨o2, k1, k2⟩, k3⟩ := b x _ h1 n h3; ⟨⟨o2, k1, h2.trans k2⟩, k3⟩

noncomputable def Room {ib : Bool} (c : CxB ib) (n : Nat) (A : Around) : Prop := (ib = false → A.handled = none) ∧ A.depth + 4 * n + 4 ≤ 1000 ∧ A.units + 20 * n + 100 ≤ 9900 ∧ A.frames = some c.stk
section
variable {ib : Bool} {c : CxB ib}
theorem Room.le {n k : Nat} {A : Around} (h : Room c n A) (hk : k ≤ n) : Room c k A := ⟨h.1, by have := h.2.1; lia, by have := h.2.2.1; lia, h.2.2.2⟩
theorem Room.units {n : Nat} {A : Around} (h : Room c n A) : A.units < cLine := by have := h.2.2.1; show _ < 9900; lia
theorem Room.depth {n : Nat} {A : Around} (h : Room c n A) : A.depth < recursionLimit := by have := h.2.1; show _ < 1000; lia
theorem Room.deeper {n : Nat} {A : Around} {e : Env} (h : Room c (n + 1) A) : Room (c.push e) n (A.deeper e) :=
  ⟨h.1, by have := h.2.1; show A.depth + 1 + _ + 4 ≤ _; lia, by have := h.2.2.1; show A.units + 3 + _ + 100 ≤ _; lia, Around.frames_deeper h.2.2.2⟩
end

noncomputable abbrev JP {α β : Type} {ib : Bool} (c : CxB ib) (F : Fm) (ab : α → β) (P : PS) (Q : β → PS → Prop) (s : Shared) : α → Shared → Prop := fun v s' => ∃ P', Rep c F P' s' ∧ FF F P s s' P' ∧ Q (ab v) P'
noncomputable abbrev TP {α β : Type} {ib : Bool} (c : CxB ib) (ab : α → β) (H : AH) (Q : β → AH → Prop) (s : Shared) : α → Shared → Prop := fun v s' => ∃ H', HRep c H' s' ∧ HF H s s' H' ∧ Q (ab v) H'
noncomputable abbrev TR {ib : Bool} (c : CxB ib) (H : AH) (Q : AV → AH → Prop) (s : Shared) : Result → Shared → Prop := fun r s' => match r with | .ok (.ret v) => ∃ H', HRep c H' s' ∧ HF H s s' H' ∧ Q (abs v) H' | .ok _ => False | .error _ => False
/-- the judgement: the step ends, raising nothing, and Q holds of what is known behind it -/
structure J {α β : Type} {ib : Bool} (c : CxB ib) (n : Nat) (F : Fm) (ab : α → β) (t : Sem α) (P : PS) (Q : β → PS → Prop) : Prop where
  go : ∀ A s, Room c n A → Rep c F P s → wpAny (M c) A t (JP c F ab P Q s) (fun _ _ => False) s

/-- the same, of the heap alone -/
structure TH {α β : Type} {ib : Bool} (c : CxB ib) (n : Nat) (ab : α → β) (t : Sem α) (H : AH) (Q : β → AH → Prop) : Prop where
  go : ∀ A s, Room c n A → HRep c H s → wpAny (M c) A t (TP c ab H Q s) (fun _ _ => False) s

/-- a call -/
structure TC {ib : Bool} (c : CxB ib) (n : Nat) (f : Value) (args : List AV) (H : AH) (Q : AV → AH → Prop) : Prop where
  co : ∀ vs, vs.map abs = args → ∀ A s, Room c n A → HRep c H s → codeAny (M c) A (.call f ⟨vs, []⟩) (TR c H Q s) s
theorem TC.at_ {ib : Bool} {c : CxB ib} {n : Nat} {f : Value} {args : List AV} {H : AH} {Q : AV → AH → Prop} (h : TC c n f args H Q) (vs : List Value) (e : vs.map abs = args) : TH c n abs (call f vs) H Q :=
  ⟨fun A s hr hp => wpAny_call (h.co vs e A s hr hp)⟩
theorem TC.step {ib : Bool} {c : CxB ib} {n m : Nat} {f : Value} {args : List AV} {H : AH} {Q Q' : AV → AH → Prop} (h : TC c n f args H Q) (hn : n ≤ m)
    (hq : ∀ v s s' H', HRep c H' s' → HF H s s' H' → Q v H' → ∃ H'', HRep c H'' s' ∧ HF H s s' H'' ∧ Q' v H'') : TC c m f args H Q' :=
  ⟨fun vs e A s hr hp => codeAny_mono (h.co vs e A s (hr.le hn) hp) fun r s' z => by
    rcases r with e | (v | _ | _ | _)
    · exact z
    all_goals first | exact z | (obtain ⟨H', h1, h2, h3⟩ := z; exact hq _ s s' H' h1 h2 h3)⟩

inductive AF where
  | next | brk | cont
  | ret (v : AV)
noncomputable def absF : Flow → AF
  | .next => .next
  | .brk => .brk
  | .cont => .cont
  | .ret v => .ret (abs v)

/-- less is known -/
noncomputable def HLe (H H' : AH) : Prop := ∀ a o, H a = some o → H' a = some o
theorem HLe.none {H H' : AH} (l : HLe H H') {b : Addr} (e : H' b = none) : H b = none := by
  cases q : H b with
  | none => rfl
  | some o => rw [l _ _ q] at e; cases e
theorem HLe.refl (H : AH) : HLe H H := fun _ _ h => h
theorem HLe.trans {H H' H'' : AH} (a : HLe H H') (b : HLe H' H'') : HLe H H'' := fun x o h => b x o (a x o h)
theorem HLe.upd {H : AH} {a : Addr} {o : AO} (h : H a = Option.none) : HLe H (Mine.upd H a o) := fun b x e => by
  rw [upd_ne _ _ (fun q => by subst q; rw [h] at e; cases e)]; exact e

theorem HLe.upd2 {H : AH} {a b : Addr} {o x : AO} (h : H a = Option.none) : HLe (Mine.upd H b o) (Mine.upd (Mine.upd H a x) b o) := fun d y e => by
  by_cases q : d = b
  · subst q; rw [upd_self] at e ⊢; exact e
  · rw [upd_ne _ _ q] at e ⊢; exact HLe.upd h d y e

theorem HLe.both {H G : AH} {b : Addr} {o : AO} (h : HLe H G) : HLe (Mine.upd H b o) (Mine.upd G b o) := fun d y e => by
  by_cases q : d = b
  · subst q; rw [upd_self] at e ⊢; exact e
  · rw [upd_ne _ _ q] at e ⊢; exact h d y e
theorem HLe.step {H G : AH} {a : Addr} {o : AO} (h : HLe H G) (n : H a = Option.none) : HLe H (Mine.upd G a o) := fun d y e => by
  rw [upd_ne _ _ (fun q => by subst q; rw [n] at e; cases e)]; exact h d y e

noncomputable def MLe (m m' : List AV) : Prop := ∀ (i : Nat) (v : AV), m[i]? = some v → v ≠ .other → m'[i]? = some v
theorem MLe.refl (m : List AV) : MLe m m := fun _ _ h _ => h
theorem MLe.nil (m : List AV) : MLe [] m := fun i v h _ => by simp at h
theorem MLe.cons {v w : AV} {m m' : List AV} (h : v = w ∨ v = .other) (t : MLe m m') : MLe (v :: m) (w :: m') := fun i u e n => by
  cases i with
  | zero => simp at e; subst e; rcases h with h | h
            · simp [h]
            · exact absurd h n
  | succ i => simp at e ⊢; exact t i u e n

theorem HRep.le {ib : Bool} {c : CxB ib} {H H' : AH} {s : Shared} (h : HRep c H' s) (l : HLe H H') : HRep c H s :=
  ⟨fun a o e => h.know a o (l _ _ e), fun b o e => ⟨(h.base b o e).1, l.none (h.base b o e).2⟩, fun a o e => h.hi a o (l _ _ e), h.os, h.gens, h.stk.ext fun b o e n _ => ⟨e, l.none n⟩⟩
theorem Rep.le {ib : Bool} {c : CxB ib} {F : Fm} {P P' : PS} {s : Shared} (h : Rep c F P' s) (l : MLe P.m P'.m) (k : HLe P.H P'.H) : Rep c F P s := by
  obtain ⟨mm, a, b⟩ := h.ns
  exact ⟨h.h.le k, ⟨mm, a, fun i x v e1 e2 e3 => b i x v e1 (l i v e2 e3) e3⟩, k.none h.own, h.new⟩

section
variable {α β γ δ : Type} {ib : Bool} {c : CxB ib} {n : Nat} {F : Fm} {P : PS}

theorem J.mono {ab : α → β} {t : Sem α} {Q Q' : β → PS → Prop} (h : J c n F ab t P Q) (hQ : ∀ b P', Q b P' → Q' b P') : J c n F ab t P Q' :=
  ⟨fun A s hr hp => wpAny_mono (h.go A s hr hp) (fun v s' ⟨P', a, b, d⟩ => ⟨P', a, b, hQ _ _ d⟩) fun _ _ x => x⟩
theorem TH.mono {ab : α → β} {t : Sem α} {H : AH} {Q Q' : β → AH → Prop} (h : TH c n ab t H Q) (hq : ∀ b H', Q b H' → Q' b H') : TH c n ab t H Q' :=
  ⟨fun A s hr hp => wpAny_mono (h.go A s hr hp) (fun v s' ⟨H', h1, h2, h3⟩ => ⟨H', h1, h2, hq _ _ h3⟩) fun _ _ x => x⟩
theorem TC.mono {f : Value} {args : List AV} {H : AH} {Q Q' : AV → AH → Prop} (h : TC c n f args H Q) (hq : ∀ b H', Q b H' → Q' b H') : TC c n f args H Q' :=
  h.step (Nat.le_refl _) fun v s s' H' a b d => ⟨H', a, b, hq v H' d⟩
theorem TC.room {f : Value} {args : List AV} {H : AH} {Q : AV → AH → Prop} {k : Nat} (h : TC c k f args H Q) (hk : k ≤ n) : TC c n f args H Q :=
  h.step hk fun v s s' H' a b d => ⟨H', a, b, d⟩
theorem J.room {ab : α → β} {t : Sem α} {Q : β → PS → Prop} {k : Nat} (h : J c k F ab t P Q) (hk : k ≤ n) : J c n F ab t P Q :=
  ⟨fun A s hr hp => h.go A s (hr.le hk) hp⟩

/-- forget, behind the step -/
theorem J.less {ab : α → β} {t : Sem α} {Q : β → PS → Prop} (h : J c n F ab t P fun b P' => ∃ P'', MLe P''.m P'.m ∧ HLe P''.H P'.H ∧ Q b P'') : J c n F ab t P Q :=
  ⟨fun A s hr hp => wpAny_mono (h.go A s hr hp) (fun v s' ⟨P', a, b, P'', l, k, d⟩ => ⟨P'', a.le l k, fun x o h1 h2 h3 => ⟨(b x o h1 h2 h3).1, k.none (b x _ h1 h2 h3).2⟩, d⟩) fun _ _ x => x⟩
theorem TH.less {ab : α → β} {t : Sem α} {H : AH} {Q : β → AH → Prop} (h : TH c n ab t H fun b H' => ∃ H'', HLe H'' H' ∧ Q b H'') : TH c n ab t H Q :=
  ⟨fun A s hr hp => wpAny_mono (h.go A s hr hp) (fun v s' ⟨H', a, b, H'', k, d⟩ => ⟨H'', a.le k, fun x o h1 h2 => ⟨(b x o h1 h2).1, k.none (b x _ h1 h2).2⟩, d⟩) fun _ _ x => x⟩

theorem TC.less {f : Value} {args : List AV} {H : AH} {Q : AV → AH → Prop} (h : TC c n f args H fun v H' => ∃ H'', HLe H'' H' ∧ Q v H'') : TC c n f args H Q :=
  h.step (Nat.le_refl _) fun v s s' H' a b ⟨H'', k, d⟩ => ⟨H'', a.le k, fun x o h1 h2 => ⟨(b x o h1 h2).1, k.none (b x _ h1 h2).2⟩, d⟩

theorem J.on {ab : α → β} {t : Sem α} {Q : β → PS → Prop} (h : J c n F ab t P Q) {A : Around} {s : Shared} (hr : Room c n A) (hp : Rep c F P s) {Q' : α → Shared → Prop} {E : Value → Shared → Prop}
    (k : ∀ v s' P', Rep c F P' s' → FF F P s s' P' → Q (ab v) P' → Q' v s') : wpAny (M c) A t Q' E s :=
  wpAny_mono (h.go A s hr hp) (fun v s' ⟨P', a, b, d⟩ => k v s' P' a b d) fun _ _ x => x.elim
theorem TH.on {ab : α → β} {t : Sem α} {H : AH} {Q : β → AH → Prop} (h : TH c n ab t H Q) {A : Around} {s : Shared} (hr : Room c n A) (hp : HRep c H s) {Q' : α → Shared → Prop} {E : Value → Shared → Prop}
    (k : ∀ v s' H', HRep c H' s' → HF H s s' H' → Q (ab v) H' → Q' v s') : wpAny (M c) A t Q' E s :=
  wpAny_mono (h.go A s hr hp) (fun v s' ⟨P', a, b, d⟩ => k v s' P' a b d) fun _ _ x => x.elim

theorem J.bind {ab : α → β} {ab' : γ → δ} {t : Sem α} {f : α → Sem γ} {Q : δ → PS → Prop}
    (h : J c n F ab t P fun b P1 => ∀ v, ab v = b → J c n F ab' (f v) P1 Q) : J c n F ab' (t >>= f) P Q :=
  ⟨fun A s hr hp => wpAny_bind (h.on hr hp fun v s' P1 a b d => (d v rfl).on hr a fun v' s'' P' a' b' d' => ⟨P', a', b.trans b', d'⟩)⟩
theorem J.pure {ab : α → β} {a : α} {Q : β → PS → Prop} (h : Q (ab a) P) : J c n F ab (pure a) P Q :=
  ⟨fun A s hr hp => wpAny_pure ⟨P, hp, FF.refl _ _ _, h⟩⟩
end

theorem Rep.toks {ib : Bool} {c : CxB ib} {F : Fm} {P : PS} {s : Shared} (h : Rep c F P s) (t : Nat) : Rep c F P { s with toks := t } := ⟨⟨h.h.know, h.h.base, h.h.hi, h.h.os, h.h.gens, h.h.stk⟩, h.ns, h.own, h.new⟩
theorem HRep.toks {ib : Bool} {c : CxB ib} {H : AH} {s : Shared} (h : HRep c H s) (t : Nat) : HRep c H { s with toks := t } := ⟨h.know, h.base, h.hi, h.os, h.gens, h.stk⟩

section heap
variable {ib : Bool} {c : CxB ib} {H : AH} {s : Shared} {F : Fm} {P : PS}

theorem HRep.at (h : HRep c H s) {a : Addr} {o : AO} (e : gets c H a = some o) : ∃ co, s.heap.get? a = some co ∧ OIs c.w o co := by
  unfold gets at e
  cases q : H a with
  | some o' => rw [q] at e; cases e; exact h.know a _ q
  | none =>
    rw [q] at e
    obtain ⟨co, h1, h2⟩ := c.hro a o e
    exact ⟨co, (h.base a co h1).1, h2⟩
theorem HRep.keep (h : HRep c H s) : ∀ b o, c.h₀.get? b = some o → s.heap.get? b = some o := fun b o e => (h.base b o e).1
theorem HRep.K (h : HRep c H s) : (KW c.w).In s.heap := c.X.keeps h.keep

theorem HRep.fresh (h : HRep c H s) : H s.heap.objs.size = none := by
  cases q : H s.heap.objs.size with
  | none => rfl
  | some o => obtain ⟨co, e, _⟩ := h.know _ _ q; exact absurd (Heap.lt_size e) (Nat.lt_irrefl _)
theorem HRep.base_fresh (h : HRep c H s) : c.h₀.get? s.heap.objs.size = none := by
  cases q : c.h₀.get? s.heap.objs.size with
  | none => rfl
  | some o => exact absurd (Heap.lt_size (h.base _ _ q).1) (Nat.lt_irrefl _)

theorem HRep.free (h : HRep c H s) : gets c H s.heap.objs.size = none := by
  unfold gets
  rw [h.fresh]
  cases q : c.ro s.heap.objs.size with
  | none => rfl
  | some o => obtain ⟨co, e, _⟩ := c.hro _ _ q; rw [h.base_fresh] at e; cases e

theorem HRep.ext (h : HRep c H s) {s' : Shared} (k : ∀ b o, s.heap.get? b = some o → s'.heap.get? b = some o) (ho : s'.os = s.os) (hg : s'.gens = s.gens) : HRep c H s' :=
  ⟨fun a o e => let ⟨co, h1, h2⟩ := h.know a o e; ⟨co, k _ _ h1, h2⟩, fun b o e => ⟨k _ _ (h.base b o e).1, (h.base b o e).2⟩, h.hi, ho.trans h.os, hg.trans h.gens, h.stk.ext fun b o e n _ => ⟨k b o e, n⟩⟩
theorem HF.ext {s' : Shared} (k : ∀ b o, s.heap.get? b = some o → s'.heap.get? b = some o) : HF H s s' H := HF.of fun b o e n => ⟨k b o e, n⟩

theorem HRep.alloc (h : HRep c H s) {o : AO} {co : Obj} (hi : OIs c.w o co) {s' : Shared} (hh : s'.heap = s.heap.push co) (ho : s'.os = s.os) (hg : s'.gens = s.gens) :
    HRep c (upd H s.heap.objs.size o) s' := by
  refine ⟨fun a o' e => ?_, fun b o' e => ⟨?_, ?_⟩, fun a o' e => ?_, ho.trans h.os, hg.trans h.gens, h.stk.ext fun b ob e n _ => ⟨by rw [hh]; exact Heap.get?_push_of_some _ e, by rw [upd_ne _ _ (Nat.ne_of_lt (Heap.lt_size e))]; exact n⟩⟩
  · rw [hh]
    by_cases q : a = s.heap.objs.size
    · subst q; rw [upd_self] at e; cases e; exact ⟨co, Heap.get?_push_size _ hi.live, hi⟩
    · rw [upd_ne _ _ q] at e
      obtain ⟨co', h1, h2⟩ := h.know a o' e
      exact ⟨co', Heap.get?_push_of_some _ h1, h2⟩
  · rw [hh]; exact Heap.get?_push_of_some _ (h.base b o' e).1
  · rw [upd_ne _ _ (fun q => by subst q; rw [h.base_fresh] at e; cases e)]; exact (h.base b o' e).2
  · by_cases q : a = s.heap.objs.size
    · subst q
      obtain ⟨og, es, ep, hg, _⟩ := c.g
      exact Nat.ne_of_gt (Nat.lt_trans (by decide) (Heap.lt_size (h.base _ _ hg).1))
    · rw [upd_ne _ _ q] at e; exact h.hi a o' e
theorem HF.alloc {o : AO} {co : Obj} {s' : Shared} (hh : s'.heap = s.heap.push co) : HF H s s' (upd H s.heap.objs.size o) :=
  HF.of fun b ob e n => ⟨by rw [hh]; exact Heap.get?_push_of_some _ e, by rw [upd_ne _ _ (Nat.ne_of_lt (Heap.lt_size e))]; exact n⟩

theorem HRep.change (h : HRep c H s) {a : Addr} {o o' : AO} {co' : Obj} (e : H a = some o) {s' : Shared} (hs : Heap.SameBut a s.heap s'.heap) (hx : s'.heap.get? a = some co') (hi : OIs c.w o' co')
    (ho : s'.os = s.os) (hg : s'.gens = s.gens) : HRep c (upd H a o') s' := by
  refine ⟨fun b ob q => ?_, fun b ob q => ?_, fun b ob q => ?_, ho.trans h.os, hg.trans h.gens, h.stk.ext fun b ob q n _ => ?_⟩
  · by_cases n : b = a
    · subst n; rw [upd_self] at q; cases q; exact ⟨co', hx, hi⟩
    · rw [upd_ne _ _ n] at q
      obtain ⟨cb, h1, h2⟩ := h.know b ob q
      exact ⟨cb, (hs.2 b n).trans h1, h2⟩
  · have n : b ≠ a := fun n => by subst n; rw [(h.base b ob q).2] at e; cases e
    exact ⟨(hs.2 b n).trans (h.base b ob q).1, by rw [upd_ne _ _ n]; exact (h.base b ob q).2⟩
  · by_cases n : b = a
    · subst n; exact h.hi _ _ e
    · rw [upd_ne _ _ n] at q; exact h.hi b ob q
  · have ne : b ≠ a := fun x => by subst x; rw [n] at e; cases e
    exact ⟨(hs.2 b ne).trans q, by rw [upd_ne _ _ ne]; exact n⟩
theorem HF.change {a : Addr} {o o' : AO} (e : H a = some o) {s' : Shared} (hs : Heap.SameBut a s.heap s'.heap) : HF H s s' (upd H a o') := HF.of fun b ob q n => by
  have ne : b ≠ a := fun x => by subst x; rw [n] at e; cases e
  exact ⟨(hs.2 b ne).trans q, by rw [upd_ne _ _ ne]; exact n⟩

/-- the frame stands where all else stands -/
theorem Rep.ofH (h : Rep c F P s) {s' : Shared} {H' : AH} (hr : HRep c H' s') (hf : HF P.H s s' H') : Rep c F ⟨P.m, H'⟩ s' ∧ FF F P s s' ⟨P.m, H'⟩ := by
  obtain ⟨mm, ⟨oL, es, ep, hL, hn⟩, hm⟩ := h.ns
  obtain ⟨⟨oL', k1, k3⟩, k2⟩ := hf _ _ hL h.own
  exact ⟨⟨hr, ⟨mm, ⟨oL', es, ep, k1, k3.data ▸ hn⟩, hm⟩, k2, h.new⟩, fun b o e _ n => hf b o e n⟩

theorem TH.J {α β : Type} {n : Nat} {ab : α → β} {t : Sem α} {Q : β → PS → Prop} (h : TH c n ab t P.H fun b H' => Q b ⟨P.m, H'⟩) : Mine.J c n F ab t P Q := ⟨fun A s hr hp =>
  h.on hr hp.h fun v s' H' h1 h2 h3 => ⟨⟨P.m, H'⟩, (hp.ofH h1 h2).1, (hp.ofH h1 h2).2, h3⟩⟩

theorem getElem_inj {l : List Str} (h : l.Nodup) {i j : Nat} {x : Str} (a : l[i]? = some x) (b : l[j]? = some x) : i = j := by
  obtain ⟨hi, ea⟩ := List.getElem?_eq_some_iff.mp a
  obtain ⟨hj, eb⟩ := List.getElem?_eq_some_iff.mp b
  exact (List.getElem_inj h).mp (ea.trans eb.symm)

theorem J_store {n : Nat} {i : Nat} {x : Str} {v : Value} {Q : Unit → PS → Prop} (hi : F.ns[i]? = some x) (h : Q () ⟨P.m.set i (abs v), P.H⟩) :
    Mine.J c n F id (storeName F.env x v) P Q := by
  refine ⟨fun A s hr hp => ?_⟩
  obtain ⟨mm, hn, hm⟩ := hp.ns
  refine wpAny_storeName_local (F.loc x (List.mem_of_getElem? hi)).1 hn (fun h' hn' hs => ?_) (by rw [F.kind]; rfl)
  have ne : ∀ a o, s.heap.get? a = some o → a ≠ F.env.locals → h'.get? a = some o := fun a o e n => (hs.2 a n).trans e
  refine ⟨⟨P.m.set i (abs v), P.H⟩, ⟨⟨fun a o e => ?_, fun b o e => ?_, hp.h.hi, hp.h.os, hp.h.gens, hp.h.stk.step fun b o es n e1 e2 e3 e4 => ?_⟩, ⟨_, hn', fun j y u e1 e2 e3 => ?_⟩, hp.own, hp.new⟩, fun b o e n q => ⟨⟨o, ne b o e n, Like.refl o⟩, q⟩, h⟩
  · obtain ⟨co, h1, h2⟩ := hp.h.know a o e
    exact ⟨co, ne a co h1 (fun n => by subst n; have := hp.own; rw [show P.H F.env.locals = some o from e] at this; cases this), h2⟩
  · exact ⟨ne b o (hp.h.base b o e).1 (fun n => by subst n; have := hp.new; rw [e] at this; cases this), (hp.h.base b o e).2⟩
  · by_cases q : b = F.env.locals
    · subst q
      obtain ⟨o', es', n', z1, z2, _⟩ := hn'
      exact ⟨⟨o', es', n', z1, z2⟩, e2⟩
    · exact ⟨⟨o, es, n, ne b o e1 q, e4⟩, e2⟩
  · by_cases q : y = x
    · subst q
      obtain rfl := getElem_inj F.nodup e1 hi
      have hlt : j < P.m.length := by have := (List.getElem?_eq_some_iff.mp e2).1; simpa using this
      rw [List.getElem?_set_self hlt] at e2
      rw [if_pos rfl]; exact e2
    · rw [if_neg q]
      exact hm j y u e1 (by rw [List.getElem?_set_ne (fun z => q (by subst z; rw [hi] at e1; cases e1; rfl))] at e2; exact e2) e3

theorem HRep.push {e : Env} {L : Addr} {mm : Str → Option Value} (h : HRep c H s) (hk : e.scope.kind = .function) (hf : e.frame = some L) (hn : s.heap.Ns L mm) (h0 : c.h₀.get? L = none) (h1 : H L = none) : HRep (c.push e) H s :=
  ⟨h.know, h.base, h.hi, h.os, h.gens, fun e' he => by
    rcases List.mem_cons.mp he with rfl | he
    · obtain ⟨o, es, n, z1, z2, _⟩ := hn
      exact ⟨by rw [hk]; decide, L, o, es, n, hf, h0, h1, z1, z2⟩
    · exact h.stk e' he⟩
theorem HRep.pop {e : Env} (h : HRep (c.push e) H s) : HRep c H s := ⟨h.know, h.base, h.hi, h.os, h.gens, fun e' he => h.stk e' (List.mem_cons_of_mem _ he)⟩
end heap
end Mine
end

-- part L2
section
open PySem PySem.W PySem.Calls PyProof.Rows
set_option Elab.async false
set_option linter.unusedVariables false
set_option autoImplicit false
set_option maxRecDepth 100000
namespace Mine

noncomputable abbrev JE {ib : Bool} (c : CxB ib) (n : Nat) (F : Fm) (e : Expr) (P : PS) (Q : AV → PS → Prop) : Prop := J c n F abs (eval e F.env) P Q
noncomputable abbrev JS {ib : Bool} (c : CxB ib) (n : Nat) (F : Fm) (st : Stmt) (P : PS) (Q : AF → PS → Prop) : Prop := J c n F absF (exec st F.env) P Q
noncomputable abbrev JSS {ib : Bool} (c : CxB ib) (n : Nat) (F : Fm) (sts : List Stmt) (P : PS) (Q : AF → PS → Prop) : Prop := J c n F absF (execs sts F.env) P Q
noncomputable abbrev JB {ib : Bool} (c : CxB ib) (n : Nat) (F : Fm) (e : Expr) (P : PS) (Q : Bool → PS → Prop) : Prop := J c n F (id : Bool → Bool) (isTrue e F.env (eval e F.env)) P Q
/-! continuations, named: the proof terms stay small -/
noncomputable abbrev KCons {ib : Bool} (c : CxB ib) (n : Nat) (F : Fm) (rest : List Stmt) (Q : AF → PS → Prop) : AF → PS → Prop := fun f P1 => match f with | .next => JSS c n F rest P1 Q | f => Q f P1
noncomputable abbrev KSet (i : Nat) (Q : AF → PS → Prop) : AV → PS → Prop := fun v P1 => Q .next ⟨P1.m.set i v, P1.H⟩
noncomputable abbrev KExpr (Q : AF → PS → Prop) : AV → PS → Prop := fun v P1 => (∀ a, v ≠ .ref a) ∧ Q .next P1
noncomputable abbrev KIf {ib : Bool} (c : CxB ib) (n : Nat) (F : Fm) (body orelse : List Stmt) (Q : AF → PS → Prop) : Bool → PS → Prop := fun b P1 => (b = true → JSS c n F body P1 Q) ∧ (b = false → JSS c n F orelse P1 Q)
noncomputable abbrev KRet (Q : AF → PS → Prop) : AV → PS → Prop := fun v P1 => Q (.ret v) P1
noncomputable abbrev KBin2 {ib : Bool} (c : CxB ib) (n : Nat) (F : Fm) (op : Operator) (Q : AV → PS → Prop) (a : AV) : AV → PS → Prop := fun b P2 => ∀ va vb, abs va = a → abs vb = b → J c n F abs (binaryOp op va vb) P2 Q
noncomputable abbrev KBin {ib : Bool} (c : CxB ib) (n : Nat) (F : Fm) (op : Operator) (r : Expr) (Q : AV → PS → Prop) : AV → PS → Prop := fun a P1 => JE c n F r P1 (KBin2 c n F op Q a)
noncomputable abbrev KCmp2 {ib : Bool} (c : CxB ib) (n : Nat) (F : Fm) (op : CmpOp) (Q : AV → PS → Prop) (a : AV) : AV → PS → Prop := fun b P2 => ∀ va vb, abs va = a → abs vb = b → J c n F abs (compareOp op va vb) P2 Q
noncomputable abbrev KCmp {ib : Bool} (c : CxB ib) (n : Nat) (F : Fm) (op : CmpOp) (r : Expr) (Q : AV → PS → Prop) : AV → PS → Prop := fun a P1 => JE c n F r P1 (KCmp2 c n F op Q a)
noncomputable abbrev KVal {ib : Bool} (c : CxB ib) (n : Nat) (F : Fm) (Q : Bool → PS → Prop) : AV → PS → Prop := fun v P1 => ∀ u, abs u = v → J c n F (id : Bool → Bool) (truthy u) P1 Q
noncomputable abbrev KTest (Q : Bool → PS → Prop) : AV → PS → Prop := fun v P3 => ∃ t, v = .bool t ∧ Q t P3
noncomputable abbrev KNot (Q : Bool → PS → Prop) : Bool → PS → Prop := fun b P1 => Q (!b) P1
noncomputable abbrev KAnd {ib : Bool} (c : CxB ib) (n : Nat) (F : Fm) (b : Expr) (Q : Bool → PS → Prop) : Bool → PS → Prop := fun x P1 => (x = true → JB c n F b P1 Q) ∧ (x = false → Q false P1)
noncomputable abbrev KNext (Q : AF → PS → Prop) : Unit → PS → Prop := fun _ P1 => Q .next P1


section rules
variable {α β : Type} {ib : Bool} {c : CxB ib} {n : Nat} {F : Fm} {P : PS}

theorem JSS_nil {Q : AF → PS → Prop} (h : Q .next P) : JSS c n F [] P Q := J.pure (ab := absF) (a := Flow.next) h
theorem JSS_cons {st : Stmt} {rest : List Stmt} {Q : AF → PS → Prop}
    (h : JS c n F st P (KCons c n F rest Q)) : JSS c n F (st :: rest) P Q :=
  ⟨fun A s hr hp => wpAny_execs_cons (h.on hr hp fun f s1 P1 r1 f1 k1 => by
    cases f with
    | next => exact J.on k1 hr r1 fun v s2 P2 r2 f2 k2 => ⟨P2, r2, f1.trans f2, k2⟩
    | _ => exact ⟨P1, r1, f1, k1⟩)⟩

/-- a statement, then the rest, by what holds between them -/
theorem JSS_seq (R : PS → Prop) {st : Stmt} {rest : List Stmt} {Q : AF → PS → Prop} (h : JS c n F st P fun f P1 => f = .next ∧ R P1) (k : ∀ P1, R P1 → JSS c n F rest P1 Q) : JSS c n F (st :: rest) P Q :=
  JSS_cons (h.mono fun f P1 ⟨e, r⟩ => by subst e; exact k P1 r)

/-- x = value, x the frame's i-th name -/
theorem JS_set (i : Nat) {x : Str} {pos' : Pos} {value : Expr} {pos : Pos} {Q : AF → PS → Prop} (h : JE c n F value P (KSet i Q))
    (hi : F.ns[i]? = some x := by rfl) (hs : swapsWith value (some (.Name x pos')) pos.line F.env = pure false := by rfl) : JS c n F (.Assign [.Name x pos'] value pos) P Q :=
  ⟨fun A s hr hp => wpAny_Assign_Name (h.on hr hp fun v s1 P1 r1 f1 k1 => (J_store (n := n) (Q := fun _ P2 => Q .next P2) hi k1).on hr r1 fun _ s2 P2 r2 f2 k2 => ⟨P2, r2, f1.trans f2, k2⟩) hs⟩

theorem JS_Expr {e : Expr} {pos : Pos} {Q : AF → PS → Prop} (h : JE c n F e P (KExpr Q))
    (hi : interactive F.env = false := by rfl) (hs : swapsWith e none pos.line F.env = pure false := by rfl) : JS c n F (.Expr e pos) P Q :=
  ⟨fun A s hr hp => wpAny_Expr (h.on hr hp fun v s1 P1 r1 f1 k1 => by
    cases v <;> first | exact ⟨P1, r1, f1, k1.2⟩ | exact k1.1 _ rfl) hi hs⟩

theorem JS_If {test : Expr} {body orelse : List Stmt} {pos : Pos} {Q : AF → PS → Prop}
    (h : JB c n F test P (KIf c n F body orelse Q)) : JS c n F (.If test body orelse pos) P Q :=
  ⟨fun A s hr hp => wpAny_If (h.on hr hp fun b s1 P1 r1 f1 k1 => by
    cases b
    · exact (k1.2 rfl).on hr r1 fun v s2 P2 r2 f2 k2 => ⟨P2, r2, f1.trans f2, k2⟩
    · exact (k1.1 rfl).on hr r1 fun v s2 P2 r2 f2 k2 => ⟨P2, r2, f1.trans f2, k2⟩)⟩

theorem JS_Return {e : Expr} {pos : Pos} {Q : AF → PS → Prop} (h : JE c n F e P (KRet Q)) : JS c n F (.Return (some e) pos) P Q :=
  ⟨fun A s hr hp => wpAny_Return_some (h.on hr hp fun v s1 P1 r1 f1 k1 => ⟨P1, r1, f1, k1⟩)⟩
theorem JS_Break {pos : Pos} {Q : AF → PS → Prop} (h : Q .brk P) : JS c n F (.Break pos) P Q := ⟨fun A s hr hp => wpAny_Break ⟨P, hp, FF.refl _ _ _, h⟩⟩
theorem JS_Continue {pos : Pos} {Q : AF → PS → Prop} (h : Q .cont P) : JS c n F (.Continue pos) P Q := ⟨fun A s hr hp => wpAny_Continue ⟨P, hp, FF.refl _ _ _, h⟩⟩

noncomputable def Turn (I : Nat → PS → Prop) (Q : AF → PS → Prop) (k : Nat) : AF → PS → Prop
  | .next, P => ∃ k', k' < k ∧ I k' P
  | .cont, P => ∃ k', k' < k ∧ I k' P
  | .brk, P => Q .next P
  | .ret v, P => Q (.ret v) P

theorem JS_While {test : Expr} {body orelse : List Stmt} {pos : Pos} {Q : AF → PS → Prop} (I : Nat → PS → Prop)
    (turn : ∀ k P, I k P → JB c n F test P fun b P1 => (b = true → JSS c n F body P1 (Turn I Q k)) ∧ (b = false → JSS c n F orelse P1 Q))
    (k : Nat) (h : I k P) : JS c n F (.While test body orelse pos) P Q := ⟨fun A s hr hp => by
  refine wpAny_While (codeAny_whileLoop (fun k s' => ∃ P', Rep c F P' s' ∧ FF F P s s' P' ∧ I k P') (fun k s1 ⟨P1, r1, f1, k1⟩ => ?_) k ⟨P, hp, FF.refl _ _ _, h⟩)
  refine (turn k P1 k1).on hr r1 fun b s2 P2 r2 f2 k2 => ?_
  cases b
  · exact (k2.2 rfl).on hr r2 fun v s3 P3 r3 f3 k3 => ⟨P3, r3, (f1.trans f2).trans f3, k3⟩
  · refine (k2.1 rfl).on hr r2 fun v s3 P3 r3 f3 k3 => ?_
    have ff := (f1.trans f2).trans f3
    cases v with
    | next => obtain ⟨k', hk, hi⟩ := k3; exact ⟨k', hk, P3, r3, ff, hi⟩
    | cont => obtain ⟨k', hk, hi⟩ := k3; exact ⟨k', hk, P3, r3, ff, hi⟩
    | brk => exact ⟨P3, r3, ff, k3⟩
    | ret v => exact ⟨P3, r3, ff, k3⟩⟩

/-! expressions -/
theorem JE_int {i : Int} {k : Nat} {pos : Pos} {Q : AV → PS → Prop} (h : Q (.int i) P) : JE c n F (.Constant (.int i) k pos) P Q :=
  ⟨fun A s hr hp => wpAny_Constant_int ⟨P, hp.toks _, FF.refl _ _ _, h⟩⟩
theorem JE_bool {b : Bool} {k : Nat} {pos : Pos} {Q : AV → PS → Prop} (h : Q (.bool b) P) : JE c n F (.Constant (.bool b) k pos) P Q :=
  ⟨fun A s hr hp => wpAny_Constant_bool ⟨P, hp, FF.refl _ _ _, h⟩⟩
theorem JE_none {k : Nat} {pos : Pos} {Q : AV → PS → Prop} (h : Q .none P) : JE c n F (.Constant .none k pos) P Q :=
  ⟨fun A s hr hp => wpAny_Constant_none ⟨P, hp, FF.refl _ _ _, h⟩⟩

/-- the frame's i-th name -/
theorem JE_N (i : Nat) {x : Str} {pos : Pos} {v : AV} {Q : AV → PS → Prop} (h : Q v P) (hi : F.ns[i]? = some x := by rfl) (hv : P.m[i]? = some v := by rfl) (ho : v ≠ .other := by nofun) : JE c n F (.Name x pos) P Q := ⟨fun A s hr hp => by
  obtain ⟨mm, hn, hm⟩ := hp.ns
  obtain ⟨u, hu, rfl⟩ := Option.map_eq_some_iff.mp (hm i x v hi hv ho)
  have L := F.loc x (List.mem_of_getElem? hi)
  exact wpAny_Name (wpAny_loadName_local F.kind L.1 hn hu ⟨P, hp, FF.refl _ _ _, h⟩) L.2⟩

theorem JE_BinOp {l : Expr} {op : Operator} {r : Expr} {pos : Pos} {Q : AV → PS → Prop}
    (h : JE c n F l P (KBin c n F op r Q)) : JE c n F (.BinOp l op r pos) P Q :=
  ⟨fun A s hr hp => wpAny_BinOp (h.on hr hp fun va s1 P1 r1 f1 k1 => J.on k1 hr r1 fun vb s2 P2 r2 f2 k2 => (k2 va vb rfl rfl).on hr r2 fun v s3 P3 r3 f3 k3 => ⟨P3, r3, (f1.trans f2).trans f3, k3⟩)⟩
theorem JE_Compare {l : Expr} {op : CmpOp} {r : Expr} {pos : Pos} {Q : AV → PS → Prop}
    (h : JE c n F l P (KCmp c n F op r Q))
    (hm : behindInMarks op r = false := by with_unfolding_all rfl) : JE c n F (.Compare l [op] [r] pos) P Q :=
  ⟨fun A s hr hp => wpAny_Compare1 (h.on hr hp fun va s1 P1 r1 f1 k1 => J.on k1 hr r1 fun vb s2 P2 r2 f2 k2 => (k2 va vb rfl rfl).on hr r2 fun v s3 P3 r3 f3 k3 => ⟨P3, r3, (f1.trans f2).trans f3, k3⟩) hm⟩
theorem JE_USub {x : Expr} {pos : Pos} {Q : AV → PS → Prop} (h : JE c n F x P fun v P1 => ∃ i, v = .int i ∧ Q (.int (-i)) P1) : JE c n F (.UnaryOp .USub x pos) P Q :=
  ⟨fun A s hr hp => wpAny_UnaryOp (h.on hr hp fun v s1 P1 r1 f1 k1 => by
    obtain ⟨i, e, k1⟩ := k1
    obtain ⟨t, rfl⟩ := abs_int e
    exact PyProof.Rows.neg_int ⟨P1, r1.toks _, f1, k1⟩)⟩

theorem JB_value {e : Expr} {Q : Bool → PS → Prop} (h : JE c n F e P (KVal c n F Q))
    (he : isTrue e F.env (eval e F.env) = (do let v ← eval e F.env; standAt e.pos; holding [v] (truthy v)) := by rfl) : JB c n F e P Q :=
  ⟨fun A s hr hp => wpAny_isTrue_value (h.on hr hp fun v s1 P1 r1 f1 k1 => (k1 v rfl).on hr r1 fun b s2 P2 r2 f2 k2 => ⟨P2, r2, f1.trans f2, k2⟩) he⟩
theorem JB_Compare {l : Expr} {op : CmpOp} {r : Expr} {pos : Pos} {Q : Bool → PS → Prop}
    (h : JE c n F l P (KCmp c n F op r (KTest Q)))
    (hm : behindInMarks op r = false := by with_unfolding_all rfl) : JB c n F (.Compare l [op] [r] pos) P Q :=
  ⟨fun A s hr hp => wpAny_isTrue_Compare1 (h.on hr hp fun va s1 P1 r1 f1 k1 => J.on k1 hr r1 fun vb s2 P2 r2 f2 k2 => (k2 va vb rfl rfl).on hr r2 fun v s3 P3 r3 f3 k3 => by
    obtain ⟨t, e, k3⟩ := k3
    obtain rfl := abs_bool e
    exact wpAny_truthy_bool ⟨P3, r3, (f1.trans f2).trans f3, k3⟩) hm⟩
theorem JB_Not {x : Expr} {pos : Pos} {Q : Bool → PS → Prop} (h : JB c n F x P (KNot Q)) : JB c n F (.UnaryOp .Not x pos) P Q :=
  ⟨fun A s hr hp => wpAny_isTrue_Not (h.on hr hp fun b s1 P1 r1 f1 k1 => ⟨P1, r1, f1, k1⟩)⟩
theorem JB_And {a b : Expr} {pos : Pos} {Q : Bool → PS → Prop} (h : JB c n F a P (KAnd c n F b Q)) : JB c n F (.BoolOp .And [a, b] pos) P Q :=
  ⟨fun A s hr hp => wpAny_isTrue_BoolOp (wpAny_allTrue_And_cons (h.on hr hp fun x s1 P1 r1 f1 k1 => by
    cases x
    · exact ⟨P1, r1, f1, k1.2 rfl⟩
    · exact wpAny_allTrue_And_cons ((k1.1 rfl).on hr r1 fun y s2 P2 r2 f2 k2 => by
        cases y
        · exact ⟨P2, r2, f1.trans f2, k2⟩
        · exact wpAny_allTrue_And_nil ⟨P2, r2, f1.trans f2, k2⟩)))⟩
theorem JB_Or {a b : Expr} {pos : Pos} {Q : Bool → PS → Prop} (h : JB c n F a P fun x P1 => (x = true → Q true P1) ∧ (x = false → JB c n F b P1 Q)) : JB c n F (.BoolOp .Or [a, b] pos) P Q :=
  ⟨fun A s hr hp => wpAny_isTrue_BoolOp (wpAny_allTrue_Or_cons (h.on hr hp fun x s1 P1 r1 f1 k1 => by
    cases x
    · exact wpAny_allTrue_Or_cons ((k1.2 rfl).on hr r1 fun y s2 P2 r2 f2 k2 => by
        cases y
        · exact wpAny_allTrue_Or_nil ⟨P2, r2, f1.trans f2, k2⟩
        · exact ⟨P2, r2, f1.trans f2, k2⟩)
    · exact ⟨P1, r1, f1, k1.1 rfl⟩))⟩

/-! operations on ints -/
theorem J_add {a b : Int} {Q : AV → PS → Prop} (h : Q (.int (a + b)) P) : ∀ va vb, abs va = .int a → abs vb = .int b → J c n F abs (binaryOp .Add va vb) P Q :=
  fun va vb ea eb => ⟨fun A s hr hp => by obtain ⟨t, rfl⟩ := abs_int ea; obtain ⟨u, rfl⟩ := abs_int eb; exact PyProof.Rows.add_int ⟨P, hp.toks _, FF.refl _ _ _, h⟩⟩
theorem J_sub {a b : Int} {Q : AV → PS → Prop} (h : Q (.int (a - b)) P) : ∀ va vb, abs va = .int a → abs vb = .int b → J c n F abs (binaryOp .Sub va vb) P Q :=
  fun va vb ea eb => ⟨fun A s hr hp => by obtain ⟨t, rfl⟩ := abs_int ea; obtain ⟨u, rfl⟩ := abs_int eb; exact PyProof.Rows.sub_int ⟨P, hp.toks _, FF.refl _ _ _, h⟩⟩
theorem J_mul2 {b : Int} {Q : AV → PS → Prop} (h : Q (.int (2 * b)) P) : ∀ va vb, abs va = .int 2 → abs vb = .int b → J c n F abs (binaryOp .Mult va vb) P Q :=
  fun va vb ea eb => ⟨fun A s hr hp => by obtain ⟨t, rfl⟩ := abs_int ea; obtain ⟨u, rfl⟩ := abs_int eb; exact PyProof.Rows.mul_int ⟨P, hp.toks _, FF.refl _ _ _, h⟩ (IntMulOk.of_left (by decide))⟩
theorem J_fdiv {a b : Int} {Q : AV → PS → Prop} (h : Q (.int (a.fdiv b)) P) (h0 : 0 < b := by decide) (h1 : b < 1000 := by decide) : ∀ va vb, abs va = .int a → abs vb = .int b → J c n F abs (binaryOp .FloorDiv va vb) P Q :=
  fun va vb ea eb => ⟨fun A s hr hp => by obtain ⟨t, rfl⟩ := abs_int ea; obtain ⟨u, rfl⟩ := abs_int eb; exact PyProof.Rows.floordiv_int (by lia) ⟨P, hp.toks _, FF.refl _ _ _, h⟩ (.inl (PyProof.noPylong_small (by lia)))⟩
theorem J_mod {a b : Int} {Q : AV → PS → Prop} (h : Q (.int (a.fmod b)) P) (h0 : b ≠ 0 := by decide) : ∀ va vb, abs va = .int a → abs vb = .int b → J c n F abs (binaryOp .Mod va vb) P Q :=
  fun va vb ea eb => ⟨fun A s hr hp => by obtain ⟨t, rfl⟩ := abs_int ea; obtain ⟨u, rfl⟩ := abs_int eb; exact PyProof.Rows.mod_int' h0 ⟨P, hp.toks _, FF.refl _ _ _, h⟩⟩
theorem J_or {a b : Int} {Q : AV → PS → Prop} (h : Q (.int (Builtin.bitOr a b)) P) : ∀ va vb, abs va = .int a → abs vb = .int b → J c n F abs (binaryOp .BitOr va vb) P Q :=
  fun va vb ea eb => ⟨fun A s hr hp => by obtain ⟨t, rfl⟩ := abs_int ea; obtain ⟨u, rfl⟩ := abs_int eb; exact PyProof.Rows.or_int ⟨P, hp.toks _, FF.refl _ _ _, h⟩⟩
theorem J_and {a b : Int} {Q : AV → PS → Prop} (h : Q (.int (Builtin.bitAnd a b)) P) : ∀ va vb, abs va = .int a → abs vb = .int b → J c n F abs (binaryOp .BitAnd va vb) P Q :=
  fun va vb ea eb => ⟨fun A s hr hp => by obtain ⟨t, rfl⟩ := abs_int ea; obtain ⟨u, rfl⟩ := abs_int eb; exact PyProof.Rows.and_int ⟨P, hp.toks _, FF.refl _ _ _, h⟩⟩
theorem J_shl1 {b : Nat} {Q : AV → PS → Prop} (h : Q (.int ((2 ^ b : Nat) : Int)) P) (hb : b ≤ 1000) : ∀ va vb, abs va = .int 1 → abs vb = .int b → J c n F abs (binaryOp .LShift va vb) P Q :=
  fun va vb ea eb => ⟨fun A s hr hp => by
    obtain ⟨t, rfl⟩ := abs_int ea; obtain ⟨u, rfl⟩ := abs_int eb
    exact PyProof.Rows.lshift_int_small (by lia) (by lia) (by decide) ⟨P, hp.toks _, FF.refl _ _ _, by rw [Int.toNat_natCast, Int.one_mul, show (2 : Int) ^ b = ((2 ^ b : Nat) : Int) from (Int.natCast_pow 2 b).symm]; exact h⟩⟩
theorem J_half {a : Int} {Q : AV → PS → Prop} (h : Q (.int (a / 2)) P) : ∀ va vb, abs va = .int a → abs vb = .int 1 → J c n F abs (binaryOp .RShift va vb) P Q :=
  fun va vb ea eb => ⟨fun A s hr hp => by
    obtain ⟨t, rfl⟩ := abs_int ea; obtain ⟨u, rfl⟩ := abs_int eb
    exact PyProof.Rows.rshift_int (by decide) ⟨P, hp.toks _, FF.refl _ _ _, by rw [show (2 : Int) ^ (1 : Int).toNat = 2 from rfl, Int.fdiv_eq_ediv_of_nonneg _ (by decide)]; exact h⟩⟩

theorem J_lt {a b : Int} {Q : AV → PS → Prop} (h : Q (.bool (decide (a < b))) P) : ∀ va vb, abs va = .int a → abs vb = .int b → J c n F abs (compareOp .Lt va vb) P Q :=
  fun va vb ea eb => ⟨fun A s hr hp => by obtain ⟨t, rfl⟩ := abs_int ea; obtain ⟨u, rfl⟩ := abs_int eb; exact PyProof.Rows.lt_int ⟨P, hp, FF.refl _ _ _, h⟩⟩
theorem J_gt {a b : Int} {Q : AV → PS → Prop} (h : Q (.bool (decide (b < a))) P) : ∀ va vb, abs va = .int a → abs vb = .int b → J c n F abs (compareOp .Gt va vb) P Q :=
  fun va vb ea eb => ⟨fun A s hr hp => by obtain ⟨t, rfl⟩ := abs_int ea; obtain ⟨u, rfl⟩ := abs_int eb; exact PyProof.Rows.gt_int ⟨P, hp, FF.refl _ _ _, h⟩⟩
theorem J_ge {a b : Int} {Q : AV → PS → Prop} (h : Q (.bool (decide (b ≤ a))) P) : ∀ va vb, abs va = .int a → abs vb = .int b → J c n F abs (compareOp .GtE va vb) P Q :=
  fun va vb ea eb => ⟨fun A s hr hp => by obtain ⟨t, rfl⟩ := abs_int ea; obtain ⟨u, rfl⟩ := abs_int eb; exact PyProof.Rows.ge_int ⟨P, hp, FF.refl _ _ _, h⟩⟩
theorem J_eq {a b : Int} {Q : AV → PS → Prop} (h : Q (.bool (a == b)) P) : ∀ va vb, abs va = .int a → abs vb = .int b → J c n F abs (compareOp .Eq va vb) P Q :=
  fun va vb ea eb => ⟨fun A s hr hp => by obtain ⟨t, rfl⟩ := abs_int ea; obtain ⟨u, rfl⟩ := abs_int eb; exact PyProof.Rows.eq_int ⟨P, hp, FF.refl _ _ _, h⟩⟩
theorem J_ne {a b : Int} {Q : AV → PS → Prop} (h : Q (.bool (a != b)) P) : ∀ va vb, abs va = .int a → abs vb = .int b → J c n F abs (compareOp .NotEq va vb) P Q :=
  fun va vb ea eb => ⟨fun A s hr hp => by obtain ⟨t, rfl⟩ := abs_int ea; obtain ⟨u, rfl⟩ := abs_int eb; exact PyProof.Rows.ne_int ⟨P, hp, FF.refl _ _ _, h⟩⟩
theorem J_neb {a b : Bool} {Q : AV → PS → Prop} (h : Q (.bool (a != b)) P) : ∀ va vb, abs va = .bool a → abs vb = .bool b → J c n F abs (compareOp .NotEq va vb) P Q :=
  fun va vb ea eb => ⟨fun A s hr hp => by obtain rfl := abs_bool ea; obtain rfl := abs_bool eb; exact PyProof.Rows.ne_bool ⟨P, hp, FF.refl _ _ _, h⟩⟩

noncomputable def isNone : AV → Bool
  | .none => true
  | _ => false
theorem isNone_abs (v : Value) : isNone (abs v) = (v == .none) := by cases v <;> rfl
theorem J_is {a : AV} {Q : AV → PS → Prop} (h : Q (.bool (isNone a)) P) : ∀ va vb, abs va = a → abs vb = .none → J c n F abs (compareOp .Is va vb) P Q :=
  fun va vb ea eb => ⟨fun A s hr hp => by obtain rfl := abs_none eb; exact PyProof.Rows.is_none_gen ⟨P, hp, FF.refl _ _ _, by rw [← isNone_abs, ea]; exact h⟩⟩
theorem J_isnot {a : AV} {Q : AV → PS → Prop} (h : Q (.bool (!isNone a)) P) : ∀ va vb, abs va = a → abs vb = .none → J c n F abs (compareOp .IsNot va vb) P Q :=
  fun va vb ea eb => ⟨fun A s hr hp => by obtain rfl := abs_none eb; exact PyProof.Rows.isnot_none_gen ⟨P, hp, FF.refl _ _ _, by rw [← isNone_abs, ea]; exact h⟩⟩
theorem J_truthb {b : Bool} {Q : Bool → PS → Prop} (h : Q b P) : ∀ u, abs u = .bool b → J c n F id (truthy u) P Q :=
  fun u e => ⟨fun A s hr hp => by obtain rfl := abs_bool e; exact wpAny_truthy_bool ⟨P, hp, FF.refl _ _ _, h⟩⟩
end rules
end Mine
end

-- part L3
section
open PySem PySem.W PySem.Calls PyProof.Rows
set_option Elab.async false
set_option linter.unusedVariables false
set_option autoImplicit false
set_option maxRecDepth 100000
namespace Mine

theorem intsAre_of : ∀ {vs : List Value} {ns : List Int}, vs.map abs = ns.map AV.int → IntsAre vs ns
  | [], [], _ => .nil
  | [], _ :: _, h => by cases h
  | _ :: _, [], h => by cases h
  | v :: r, n :: ns, h => by
    simp only [List.map_cons, List.cons.injEq] at h
    obtain ⟨t, rfl⟩ := abs_int h.1
    exact .cons n t (intsAre_of h.2)

theorem islist_of {w : World} {vs : List AV} {co : Obj} {h : Heap} {a : Addr} (e : h.get? a = some co) (i : OIs w (.list vs) co) : ∃ items : List Value, h.IsList a items.toArray ∧ items.map abs = vs := by
  obtain ⟨items, k, rfl, hm⟩ := i
  exact ⟨items.toList, ⟨_, e, rfl, k, rfl⟩, hm⟩
theorem istup_of {w : World} {vs : List AV} {co : Obj} {h : Heap} {a : Addr} (e : h.get? a = some co) (i : OIs w (.tup vs) co) : ∃ items : List Value, IsTup h a items.toArray ∧ items.map abs = vs := by
  obtain ⟨items, k, rfl, hm⟩ := i
  exact ⟨items.toList, ⟨_, e, rfl, k, rfl⟩, hm⟩

theorem dictAt_of {w : World} {es : List (Int × AV)} {ep : Nat} {co : Obj} {h : Heap} {a : Addr} (e : h.get? a = some co) (i : OIs w (.dict es ep) co) :
    ∃ kvs, h.DictAt (intKind prg w) a kvs ep ∧ kvs.map (fun p => (p.1, abs p.2)) = es := by
  obtain ⟨ents, kvs, h1, h2, h3, h4, h5, h6⟩ := i
  exact ⟨kvs, ⟨co, ents, e, h1, h2, h3, h4, h5⟩, h6⟩
theorem ents_find (k : Int) : ∀ kvs : List (Int × Value), (valueAt kvs k).map abs = (kvs.map (fun p => (p.1, abs p.2))).lookup k
  | [] => rfl
  | (i, v) :: r => by
    have := ents_find k r
    unfold valueAt at this ⊢
    rw [List.find?_cons, List.map_cons, List.lookup_cons]
    by_cases q : i = k
    · subst q; simp
    · simp only [decide_eq_false q, beq_eq_false_iff_ne.mpr fun z => q (Eq.symm z)]; exact this
theorem dict_find {w : World} {es : List (Int × AV)} {ep : Nat} {co : Obj} {h : Heap} {a : Addr} (e : h.get? a = some co) (i : OIs w (.dict es ep) co) :
    ∃ f : Int → Option Value, h.IntMap a f ∧ ∀ k, (f k).map abs = es.lookup k := by
  obtain ⟨kvs, hd, rfl⟩ := dictAt_of e i
  obtain ⟨o, ents, ep', h1, h2, h3, h4, h5⟩ := hd.dictOf.mapOf
  exact ⟨valueAt kvs, ⟨o, ents, ep', h1, h2.1, h3, fun en he => let ⟨k, z1, z2⟩ := h4 en he; let ⟨t, z3⟩ := Value.isInt_shape z1; ⟨k, t, z3, z2⟩, h5⟩, fun k => ents_find k kvs⟩

theorem set_of {w : World} {xs : List Int} {co : Obj} {h : Heap} {a : Addr} (e : h.get? a = some co) (i : OIs w (.set xs) co) :
    h.SetOf (intKind prg w) a (fun k => decide (k ∈ xs)) xs.length := by
  obtain ⟨es, ep, t, x1, x2, h1, h2, h3, h4, h5⟩ := i
  exact ⟨_, es, ep, t, e, x1, x2, h1, fun k => by rw [decide_eq_true_iff]; exact h2 k, h3, h4, h5⟩

noncomputable def idx (vs : List AV) (i : Int) : Option AV :=
  if 0 ≤ i then (if i < 2 ^ 63 then vs[i.toNat]? else none)
  else if -(vs.length : Int) ≤ i ∧ -2 ^ 63 ≤ i then vs[(i + vs.length).toNat]? else none
theorem idx_nat {vs : List AV} {i : Nat} {v : AV} (h : vs[i]? = some v) (hi : i < 2 ^ 63) : idx vs (i : Int) = some v := by
  unfold idx; rw [if_pos (by lia), if_pos (by lia)]; exact h
theorem idx_zero {v : AV} {vs : List AV} : idx (v :: vs) 0 = some v := rfl
theorem idx_last {vs : List AV} {v : AV} (h : vs.getLast? = some v) (hz : vs.length < 2 ^ 63) : idx vs (-1) = some v := by
  have : 0 < vs.length := by cases vs <;> simp_all
  unfold idx; rw [if_neg (by lia), if_pos (by lia), show ((-1 : Int) + vs.length).toNat = vs.length - 1 by lia, ← List.getLast?_eq_getElem?]; exact h

noncomputable def itemAt : Option AO → Int → Option AV
  | some (.list vs), k => idx vs k
  | some (.tup vs), k => idx vs k
  | some (.dict es _), k => es.lookup k
  | _, _ => none

section
variable {ib : Bool} {c : CxB ib} {n : Nat} {F : Fm} {P : PS}

theorem J_item {a : Addr} {k : Int} {vi : Value} {v : AV} {Q : AV → PS → Prop} (ei : abs vi = .int k) (h : itemAt (gets c P.H a) k = some v) (hq : Q v P) : J c n F abs (getItem (.ref a) vi) P Q := by
  refine ⟨fun A s hr hp => ?_⟩
  obtain ⟨t, rfl⟩ := abs_int ei
  cases g : gets c P.H a with
  | none => rw [g] at h; cases h
  | some o =>
    rw [g] at h
    obtain ⟨co, h1, h2⟩ := hp.h.at g
    cases o with
    | list vs =>
      replace h : idx vs k = some v := h
      obtain ⟨items, hl, rfl⟩ := islist_of h1 h2
      unfold idx at h
      split at h
      · rename_i i0
        split at h
        · rename_i i1
          rw [List.getElem?_map] at h
          obtain ⟨x, hx, rfl⟩ := Option.map_eq_some_iff.mp h
          exact wpAny_getItem_list hl i0 i1 (by simpa using hx) ⟨P, hp, FF.refl _ _ _, hq⟩
        · cases h
      · rename_i i0
        split at h
        · rename_i i1
          rw [List.getElem?_map] at h
          obtain ⟨x, hx, rfl⟩ := Option.map_eq_some_iff.mp h
          simp only [List.length_map] at hx i1
          exact wpAny_getItem_list_neg hl (by lia) (by simpa using i1.1) i1.2 (by simpa using hx) ⟨P, hp, FF.refl _ _ _, hq⟩
        · cases h
    | tup vs =>
      replace h : idx vs k = some v := h
      obtain ⟨items, hl, rfl⟩ := istup_of h1 h2
      unfold idx at h
      split at h
      · rename_i i0
        split at h
        · rename_i i1
          rw [List.getElem?_map] at h
          obtain ⟨x, hx, rfl⟩ := Option.map_eq_some_iff.mp h
          have hlt : k.toNat < items.length := (List.getElem?_eq_some_iff.mp hx).1
          exact getItem_tuple hl (by lia) i1 (j := k.toNat) (by simp only [seqIndex?, List.size_toArray, if_neg (Int.not_lt.mpr i0)]; rw [if_pos (by simp [i0]; lia)]) (by simpa using hx) ⟨P, hp, FF.refl _ _ _, hq⟩
        · cases h
      · split at h
        · rename_i i0 i1
          rw [List.getElem?_map] at h
          obtain ⟨x, hx, rfl⟩ := Option.map_eq_some_iff.mp h
          simp only [List.length_map] at hx i1
          exact getItem_tuple hl i1.2 (by lia) (j := (k + items.length).toNat) (by simp only [seqIndex?, List.size_toArray, if_pos (Int.not_le.mp i0)]; rw [if_pos (by simp; lia)]) (by simpa using hx) ⟨P, hp, FF.refl _ _ _, hq⟩
        · cases h
    | dict es ep =>
      replace h : es.lookup k = some v := h
      obtain ⟨f, hf, hk⟩ := dict_find h1 h2
      rw [← hk] at h
      obtain ⟨x, hx, rfl⟩ := Option.map_eq_some_iff.mp h
      exact wpAny_getItem_intMap hf hx ⟨P, hp.toks _, FF.refl _ _ _, hq⟩
    | _ => cases h

noncomputable def seqish : AO → Prop
  | .list _ => True
  | .tup _ => True
  | .dict _ _ => True
  | _ => False
theorem typeIs_seqish {s : Shared} (hp : HRep c P.H s) {a : Addr} {o : AO} (e : gets c P.H a = some o) (hs : seqish o) :
    ∃ T id, s.TypeIs (.ref a) T ∧ typeLookup (.type T) "__getitem__" = pure (some (.builtin id)) := by
  obtain ⟨co, h1, h2⟩ := hp.at e
  cases o with
  | list vs => obtain ⟨items, k, rfl, _⟩ := h2; exact ⟨"list", _, ⟨_, h1, rfl⟩, slot_list_getitem.lookup⟩
  | tup vs => obtain ⟨items, k, rfl, _⟩ := h2; exact ⟨"tuple", _, ⟨_, h1, rfl⟩, slot_tuple_getitem.lookup⟩
  | dict vs ep => obtain ⟨items, kvs, hx, _⟩ := h2; exact ⟨"dict", _, ⟨_, h1, hx.1⟩, slot_dict_getitem.lookup⟩
  | _ => exact hs.elim

theorem J_tail {value slice : Expr} {a : Addr} {i : Value} {o : AO} {Q : AV → PS → Prop} (e : gets c P.H a = some o) (hs : seqish o) (h : J c n F abs (getItem (.ref a) i) P Q) :
    J c n F abs (subscriptTail value slice (.ref a) i) P Q := by
  refine ⟨fun A s hr hp => ?_⟩
  obtain ⟨T, id, hT, hl⟩ := typeIs_seqish hp.h e hs
  unfold subscriptTail
  refine wpAny_bind ?_
  rw [getitemInPython_of_ne hT.not_modules]
  refine wpAny_bind (wpAny_specialOf hT hl ?_)
  have hg : ∀ vs, wpAny (M c) A (operate vs (getItem (.ref a) i)) (fun r s₃ => wpAny (M c) A (letTemporaryGo value (.ref a) r >>= fun _ => pure r) (fun v s' => ∃ P', Rep c F P' s' ∧ FF F P s s' P' ∧ Q (abs v) P') (fun _ _ => False) s₃) (fun _ _ => False) s :=
    fun vs => wpAny_operating (h.on hr hp fun v s1 P1 r1 f1 k1 => wpAny_bind (wpAny_letTemporaryGo (wpAny_pure ⟨P1, r1, f1, k1⟩)))
  have fin : wpAny (M c) A (subscripted slice false (.ref a) i) (fun r s₃ => wpAny (M c) A (letTemporaryGo value (.ref a) r >>= fun _ => pure r) (fun v s' => ∃ P', Rep c F P' s' ∧ FF F P s s' P' ∧ Q (abs v) P') (fun _ _ => False) s₃) (fun _ _ => False) s := by
    unfold subscripted
    split
    · exact hg _
    · rename_i z; cases z
    · exact hg _
  first
    | exact wpAny_pure (wpAny_bind fin)
    | exact wpAny_bind (wpAny_pure (wpAny_bind fin))
    | exact wpAny_bind fin

theorem JE_Subscript {value slice : Expr} {pos : Pos} {Q : AV → PS → Prop}
    (h : JE c n F value P fun o P1 => JE c n F slice P1 fun i P2 => ∃ a x, o = .ref a ∧ gets c P2.H a = some x ∧ seqish x ∧ ∀ vi, abs vi = i → J c n F abs (getItem (.ref a) vi) P2 Q) :
    JE c n F (.Subscript value slice pos) P Q :=
  ⟨fun A s hr hp => Subscript_ (h.on hr hp fun vo s1 P1 r1 f1 k1 => J.on k1 hr r1 fun vi s2 P2 r2 f2 k2 => by
    obtain ⟨a, x, e, h1, h2, h3⟩ := k2
    obtain rfl := abs_ref e
    exact (J_tail h1 h2 (h3 vi rfl)).on hr r2 fun v s3 P3 r3 f3 k3 => ⟨P3, r3, (f1.trans f2).trans f3, k3⟩)⟩

/-- an item -/
noncomputable abbrev KItem2 {ib : Bool} (c : CxB ib) (Q : AV → PS → Prop) (o : AV) : AV → PS → Prop := fun i P2 => ∃ a k x v, o = .ref a ∧ i = .int k ∧ gets c P2.H a = some x ∧ itemAt (some x) k = some v ∧ Q v P2
noncomputable abbrev KItem {ib : Bool} (c : CxB ib) (n : Nat) (F : Fm) (slice : Expr) (Q : AV → PS → Prop) : AV → PS → Prop := fun o P1 => JE c n F slice P1 (KItem2 c Q o)
noncomputable abbrev KSI3 {ib : Bool} (c : CxB ib) (n : Nat) (F : Fm) (Q : AF → PS → Prop) (v ov : AV) : AV → PS → Prop := fun iv P3 => ∀ vv vo vi, abs vv = v → abs vo = ov → abs vi = iv → J c n F (id : Unit → Unit) (setItem vo vi vv) P3 (KNext Q)
noncomputable abbrev KSI2 {ib : Bool} (c : CxB ib) (n : Nat) (F : Fm) (i : Expr) (Q : AF → PS → Prop) (v : AV) : AV → PS → Prop := fun ov P2 => JE c n F i P2 (KSI3 c n F Q v ov)
noncomputable abbrev KSI {ib : Bool} (c : CxB ib) (n : Nat) (F : Fm) (o i : Expr) (Q : AF → PS → Prop) : AV → PS → Prop := fun v P1 => JE c n F o P1 (KSI2 c n F i Q v)
theorem JE_item {value slice : Expr} {pos : Pos} {Q : AV → PS → Prop}
    (h : JE c n F value P (KItem c n F slice Q)) :
    JE c n F (.Subscript value slice pos) P Q :=
  JE_Subscript (h.mono fun o P1 h1 => J.mono h1 fun i P2 ⟨a, k, x, v, e1, e2, e3, e4, e5⟩ => ⟨a, x, e1, e3, (by cases x <;> first | trivial | cases e4), fun vi ei => J_item (ei.trans e2) (by rw [e3]; exact e4) e5⟩)

/-! membership -/
theorem any_mem {ns : List Int} {i : Int} : (ns.any (· == i)) = decide (i ∈ ns) := by
  rw [Bool.eq_iff_iff, List.any_eq_true, decide_eq_true_iff]
  exact ⟨fun ⟨x, h, e⟩ => (beq_iff_eq.mp e) ▸ h, fun h => ⟨i, h, beq_iff_eq.mpr rfl⟩⟩
theorem J_inList {i : Int} {a : Addr} {ns : List Int} {Q : AV → PS → Prop} (e : gets c P.H a = some (.list (ns.map .int))) (h : Q (.bool (decide (i ∈ ns))) P) :
    ∀ va vb, abs va = .int i → abs vb = .ref a → J c n F abs (compareOp .In va vb) P Q := fun va vb ea eb => ⟨fun A s hr hp => by
  obtain ⟨t, rfl⟩ := abs_int ea; obtain rfl := abs_ref eb
  obtain ⟨co, h1, h2⟩ := hp.h.at e
  obtain ⟨items, hl, hi⟩ := islist_of h1 h2
  exact @in_list_ints prg c.w A _ s a items ns i t _ hl (intsAre_of hi) ⟨P, hp, FF.refl _ _ _, any_mem ▸ h⟩⟩
theorem J_notInList {i : Int} {a : Addr} {ns : List Int} {Q : AV → PS → Prop} (e : gets c P.H a = some (.list (ns.map .int))) (h : Q (.bool (!decide (i ∈ ns))) P) :
    ∀ va vb, abs va = .int i → abs vb = .ref a → J c n F abs (compareOp .NotIn va vb) P Q := fun va vb ea eb => ⟨fun A s hr hp => by
  obtain ⟨t, rfl⟩ := abs_int ea; obtain rfl := abs_ref eb
  obtain ⟨co, h1, h2⟩ := hp.h.at e
  obtain ⟨items, hl, hi⟩ := islist_of h1 h2
  exact @notin_list_ints prg c.w A _ s a items ns i t _ hl (intsAre_of hi) ⟨P, hp, FF.refl _ _ _, any_mem ▸ h⟩⟩
theorem J_inSet {i : Int} {a : Addr} {ns : List Int} {Q : AV → PS → Prop} (e : gets c P.H a = some (.set ns)) (h : Q (.bool (decide (i ∈ ns))) P) :
    ∀ va vb, abs va = .int i → abs vb = .ref a → J c n F abs (compareOp .In va vb) P Q := fun va vb ea eb => ⟨fun A s hr hp => by
  obtain ⟨t, rfl⟩ := abs_int ea; obtain rfl := abs_ref eb
  obtain ⟨co, h1, h2⟩ := hp.h.at e
  exact wpAny_inSet_of (knd := intKind prg c.w) (k := i) (by simp [intKind, Value.isInt]) rfl (set_of h1 h2) ⟨P, hp.toks _, FF.refl _ _ _, h⟩⟩
theorem J_inDict {i : Int} {a : Addr} {es : List (Int × AV)} {ep : Nat} {Q : AV → PS → Prop} (e : gets c P.H a = some (.dict es ep)) (h : Q (.bool (es.lookup i).isSome) P) :
    ∀ va vb, abs va = .int i → abs vb = .ref a → J c n F abs (compareOp .In va vb) P Q := fun va vb ea eb => ⟨fun A s hr hp => by
  obtain ⟨t, rfl⟩ := abs_int ea; obtain rfl := abs_ref eb
  obtain ⟨co, h1, h2⟩ := hp.h.at e
  obtain ⟨f, hf, hk⟩ := dict_find h1 h2
  exact wpAny_in_intMap hf ⟨P, hp.toks _, FF.refl _ _ _, by rw [← hk, Option.isSome_map] at h; exact h⟩⟩

theorem notIn_intMap {A : Around} {E : Value → Shared → Prop} {s : Shared} {d : Addr} {f : Int → Option Value} {k : Int} {t : Tok} {Q : Value → Shared → Prop} (hm : s.heap.IntMap d f)
    (h : Q (.bool (!(f k).isSome)) { s with toks := s.toks + 1 }) : wpAny (M c) A (compareOp .NotIn (.int k t) (.ref d)) Q E s := by
  show wpAny _ _ (do return .bool (!(← contains (.ref d) (.int k t)))) Q E s
  refine wpAny_bind ?_
  unfold contains
  try with_reducible refine wpAny_holding ?_
  refine wpAny_bind (wpAny_specialOf hm.typeIs slot_dict_contains.lookup ?_)
  show wpAny _ _ (if (some (Value.builtin "dict.__contains__") == some Value.none) = true then _ else _) _ E s
  rw [if_neg (by rw [beq_builtin_none]; exact Bool.false_ne_true)]
  refine wpAny_bind (wpAny_callSpecialUnlessNone?_slot (name := Str.ofString "__contains__") hm.typeIs slot_dict_contains
    (wpAny_call_entry slot_dict_contains hm.typeIs entry_dict_contains ?_ (args_dict_contains _ _)))
  show wpAny _ _ (dictGet d (.int k t) >>= _) _ _ s
  refine wpAny_bind (wpAny_dictGet_int hm ?_)
  cases hf : f k with
  | some v =>
    rw [hf] at h
    show wpAny _ _ (ret (.bool true)) _ _ _
    exact wpAny_pure ⟨_, rfl, wpAny_truthy_bool (wpAny_pure h)⟩
  | none =>
    rw [hf] at h
    show wpAny _ _ (Builtin.Dict.pendingKey? d (.int k t) >>= _) _ _ _
    exact wpAny_bind (wpAny_pendingKey_int (wpAny_pure ⟨_, rfl, wpAny_truthy_bool (wpAny_pure h)⟩))
theorem J_notInDict {i : Int} {a : Addr} {es : List (Int × AV)} {ep : Nat} {Q : AV → PS → Prop} (e : gets c P.H a = some (.dict es ep)) (h : Q (.bool (!(es.lookup i).isSome)) P) :
    ∀ va vb, abs va = .int i → abs vb = .ref a → J c n F abs (compareOp .NotIn va vb) P Q := fun va vb ea eb => ⟨fun A s hr hp => by
  obtain ⟨t, rfl⟩ := abs_int ea; obtain rfl := abs_ref eb
  obtain ⟨co, h1, h2⟩ := hp.h.at e
  obtain ⟨f, hf, hk⟩ := dict_find h1 h2
  exact notIn_intMap hf ⟨P, hp.toks _, FF.refl _ _ _, by rw [← hk, Option.isSome_map] at h; exact h⟩⟩

/-! truth of a list, a tuple -/
theorem J_truthList {a : Addr} {vs : List AV} {Q : Bool → PS → Prop} (e : gets c P.H a = some (.list vs)) (hz : vs.length < 2 ^ 63) (h : Q (!vs.isEmpty) P) : ∀ u, abs u = .ref a → J c n F id (truthy u) P Q :=
  fun u eu => ⟨fun A s hr hp => by
    obtain rfl := abs_ref eu
    obtain ⟨co, h1, h2⟩ := hp.h.at e
    obtain ⟨items, hl, rfl⟩ := islist_of h1 h2
    refine wpAny_truthy_list hl (by simp only [List.size_toArray]; simp only [List.length_map] at hz; lia) ⟨P, hp.toks _, FF.refl _ _ _, ?_⟩
    cases items <;> exact h⟩
theorem J_truthTup {a : Addr} {vs : List AV} {Q : Bool → PS → Prop} (e : gets c P.H a = some (.tup vs)) (hz : vs.length < 2 ^ 63) (h : Q (!vs.isEmpty) P) : ∀ u, abs u = .ref a → J c n F id (truthy u) P Q :=
  fun u eu => ⟨fun A s hr hp => by
    obtain rfl := abs_ref eu
    obtain ⟨co, h1, h2⟩ := hp.h.at e
    obtain ⟨items, hl, rfl⟩ := istup_of h1 h2
    refine truthy_tuple hl (by simp only [List.size_toArray]; simp only [List.length_map] at hz; lia) ⟨P, hp.toks _, FF.refl _ _ _, ?_⟩
    cases items <;> exact h⟩

/-! setItem of a list -/
theorem J_setListZ {a : Addr} {vs : List AV} {i : Int} {vi v : Value} {Q : Unit → PS → Prop} (e : P.H a = some (.list vs)) (hi : abs vi = .int i) (h0 : 0 ≤ i) (h1 : i < vs.length) (hz : i < 2 ^ 63)
    (h : Q () ⟨P.m, upd P.H a (.list (vs.set i.toNat (abs v)))⟩) : J c n F id (setItem (.ref a) vi v) P Q := by
  refine TH.J ⟨fun A s hr hp => ?_⟩
  obtain ⟨t, rfl⟩ := abs_int hi
  obtain ⟨co, g1, items, k, rfl, hm⟩ := hp.know a _ e
  have hl : s.heap.IsList a items := ⟨_, g1, rfl, k, rfl⟩
  have hlen : items.size = vs.length := by rw [← hm]; simp
  unfold setItem
  try with_reducible refine wpAny_holding ?_
  first | refine wpAny_bind (wpAny_pure ?_) | skip
  refine wpAny_bind (wpAny_sequenceKey hl.typeIs (by decide) ?_)
  refine wpAny_bind (wpAny_callSpecial?_slot (name := Str.ofString "__setitem__") hl.typeIs slot_list_setitem
    (wpAny_call_entry slot_list_setitem hl.typeIs entry_list_setitem ?_ (args_list_setitem _ _ _)))
  show wpAny _ _ (Builtin.List.listSubscript? (.int i t) >>= _) _ _ s
  refine wpAny_bind (wpAny_listSubscript_int (fitsIndex_of h0 hz) ?_)
  clear hz
  obtain ⟨j, rfl⟩ := Int.eq_ofNat_of_zero_le h0
  have hj : j < items.size := by lia
  have hx' : items[j]? = some items[j] := Array.getElem?_eq_getElem hj
  show wpAny _ _ ((seqItemAt a j >>= fun r => pure (r.map (j, ·))) >>= _) _ _ s
  refine wpAny_bind (wpAny_bind (wpAny_seqItemAt g1 rfl (wpAny_pure ?_)))
  rw [hx']
  show wpAny _ _ (setSeqItemAt a j v >>= _) _ _ s
  have hfin : OIs c.w (.list (vs.set j (abs v))) (Obj.mapSeq (·.setIfInBounds j v) ⟨.type "list", none, .seq items k, #[]⟩) :=
    ⟨items.setIfInBounds j v, _, rfl, by rw [Array.toList_setIfInBounds, List.map_set, hm]⟩
  have key : ∃ H', HRep c H' { s with heap := s.heap.update a (Obj.mapSeq (·.setIfInBounds j v)) } ∧ HF P.H s { s with heap := s.heap.update a (Obj.mapSeq (·.setIfInBounds j v)) } H' ∧ Q () ⟨P.m, H'⟩ :=
    ⟨_, hp.change e (Heap.SameBut.update ..) (Heap.get?_update_self _ g1 hfin.live) hfin rfl rfl, HF.change e (Heap.SameBut.update ..), h⟩
  refine wpAny_bind (wpAny_setSeqItemAt g1 rfl ?_)
  first
    | exact wpAny_bind (wpAny_pure (wpAny_pure ⟨.none, rfl, wpAny_pure key⟩))
    | exact wpAny_pure ⟨.none, rfl, wpAny_pure key⟩
theorem J_setList {a : Addr} {vs : List AV} {i : Nat} {v : AV} {Q : Unit → PS → Prop} (e : P.H a = some (.list vs)) (h1 : i < vs.length) (hz : i < 2 ^ 63)
    (h : Q () ⟨P.m, upd P.H a (.list (vs.set i v))⟩) : ∀ vv vo vi, abs vv = v → abs vo = .ref a → abs vi = .int i → J c n F id (setItem vo vi vv) P Q := fun vv vo vi ev eo ei => by
  obtain rfl := abs_ref eo
  subst ev
  exact J_setListZ e ei (by lia) (by lia) (by lia) h

theorem JS_setItem {o i : Expr} {pos' : Pos} {value : Expr} {pos : Pos} {Q : AF → PS → Prop}
    (h : JE c n F value P (KSI c n F o i Q))
    (hs : swapsWith value (some (.Subscript o i pos')) pos.line F.env = pure false := by rfl) : JS c n F (.Assign [.Subscript o i pos'] value pos) P Q :=
  ⟨fun A s hr hp => wpAny_Assign_Subscript (h.on hr hp fun vv s1 P1 r1 f1 k1 => J.on k1 hr r1 fun vo s2 P2 r2 f2 k2 => J.on k2 hr r2 fun vi s3 P3 r3 f3 k3 =>
    (k3 vv vo vi rfl rfl rfl).on hr r3 fun _ s4 P4 r4 f4 k4 => ⟨P4, r4, ((f1.trans f2).trans f3).trans f4, k4⟩) hs⟩
end
end Mine
end

-- part L4
section
open PySem PySem.W PySem.Calls PyProof.Rows
set_option Elab.async false
set_option linter.unusedVariables false
set_option autoImplicit false
set_option maxRecDepth 100000
namespace Mine

section
variable {α β : Type} {ib : Bool} {c : CxB ib} {n : Nat} {F : Fm} {P : PS}

/-! names of the module and built-in names -/
theorem J_globalName {γ δ : Type} {x : Str} {pos : Pos} {v : Value} {ab : γ → δ} {f : Value → Sem γ} {Q : δ → PS → Prop} (hk : nsIn (KW c.w) mainGlobals x = some (some v))
    (h : J c n F ab (f v) P Q) (hx : F.env.kindOf x = some .globalImplicit) (hd : (x == ("__debug__" : Str)) = false) : J c n F ab (eval (.Name x pos) F.env >>= f) P Q := ⟨fun A s hr hp =>
  wpAny_bind (Name_function_global F.kind hx (loadGlobal_global (mg := c.mg) (show s.heap.Ns F.env.globals c.mg from F.glob ▸ c.g.keeps hp.h.keep) (mg_of c.X c.g hk) (h.go A s hr hp)) hd)⟩
theorem J_builtinName {γ δ : Type} {x : Str} {pos : Pos} {v : Value} {ab : γ → δ} {f : Value → Sem γ} {Q : δ → PS → Prop} (hk : nsIn (KW c.w) mainGlobals x = some none) (hv : bootBuiltins x = some v) (hn : x ≠ "__name__")
    (h : J c n F ab (f v) P Q) (hx : F.env.kindOf x = some .globalImplicit) (hd : (x == ("__debug__" : Str)) = false) : J c n F ab (eval (.Name x pos) F.env >>= f) P Q := ⟨fun A s hr hp =>
  wpAny_bind (Name_function_global F.kind hx (loadGlobal_builtin (mg := c.mg) (mb := c.mb) (show s.heap.Ns F.env.globals c.mg from F.glob ▸ c.g.keeps hp.h.keep) (mg_none_of c.X c.g hk)
    (show s.heap.Ns F.env.builtins c.mb from F.bi ▸ c.b.keeps hp.h.keep) ((c.builtins x hn).trans hv) (h.go A s hr hp)) hd)⟩
theorem JE_global {x : Str} {pos : Pos} {v : Value} {Q : AV → PS → Prop} (hk : nsIn (KW c.w) mainGlobals x = some (some v)) (h : Q (abs v) P)
    (hx : F.env.kindOf x = some .globalImplicit := by rfl) (hd : (x == ("__debug__" : Str)) = false := by decide) : JE c n F (.Name x pos) P Q := ⟨fun A s hr hp =>
  Name_function_global F.kind hx (loadGlobal_global (mg := c.mg) (show s.heap.Ns F.env.globals c.mg from F.glob ▸ c.g.keeps hp.h.keep) (mg_of c.X c.g hk) ⟨P, hp, FF.refl _ _ _, h⟩) hd⟩

/-! arguments -/
noncomputable abbrev JL {ib : Bool} (c : CxB ib) (n : Nat) (F : Fm) (pos : Pos) (es : List Expr) (P : PS) (Q : List AV → PS → Prop) : Prop := J c n F (List.map abs) (spliced (backTo pos (starEach es F.env))) P Q
noncomputable abbrev KArg2 (Q : List AV → PS → Prop) (v : AV) : List AV → PS → Prop := fun vs P2 => Q (v :: vs) P2
noncomputable abbrev KArg {ib : Bool} (c : CxB ib) (n : Nat) (F : Fm) (pos : Pos) (rest : List Expr) (Q : List AV → PS → Prop) : AV → PS → Prop := fun v P1 => JL c n F pos rest P1 (KArg2 Q v)
noncomputable abbrev KH (Q : AV → PS → Prop) (m : List AV) : AV → AH → Prop := fun v H' => Q v ⟨m, H'⟩
noncomputable abbrev KCall {ib : Bool} (c : CxB ib) (n : Nat) (fa : Addr) (Q : AV → PS → Prop) : List AV → PS → Prop := fun vs P1 => TC c n (.ref fa) vs P1.H (KH Q P1.m)
theorem JL_nil {pos : Pos} {Q : List AV → PS → Prop} (h : Q [] P) : JL c n F pos [] P Q := ⟨fun A s hr hp => spliced_nil ⟨P, hp, FF.refl _ _ _, h⟩⟩
theorem JL_cons {pos : Pos} {e : Expr} {rest : List Expr} {Q : List AV → PS → Prop} (h : JE c n F e P (KArg c n F pos rest Q))
    (he : backTo pos (starEach (e :: rest) F.env) = (false, eval e F.env) :: backTo pos (starEach rest F.env) := by rfl) : JL c n F pos (e :: rest) P Q := ⟨fun A s hr hp => by
  rw [he]
  exact spliced_cons (h.on hr hp fun v s1 P1 r1 f1 k1 => J.on k1 hr r1 fun vs s2 P2 r2 f2 k2 => ⟨P2, r2, f1.trans f2, k2⟩)⟩

noncomputable def isStar : Expr → Bool
  | .Starred .. => true
  | _ => false
theorem back_cons {pos : Pos} {e : Expr} {rest : List Expr} {env : Env} (hs : isStar e = false) : backTo pos (starEach (e :: rest) env) = (false, eval e env) :: backTo pos (starEach rest env) := by
  cases e <;> first | rfl | cases hs
theorem evalArgs_all {A : Around} {s : Shared} {E : Value → Shared → Prop} {f : Value} {pos : Pos} {env : Env} {es : List Expr} {Q : Args → Shared → Prop} (hs : es.any isStar = false)
    (h : wpAny (M c) A (spliced (backTo pos (starEach es env))) (fun vs s' => Q ⟨vs, []⟩ s') E s) : wpAny (M c) A (evalArgs f true (backTo pos (starEach es env)) []) Q E s := by
  cases es with
  | nil =>
    unfold evalArgs
    show wpAny (M c) A (spliced (backTo pos (starEach [] env)) >>= _) Q E s
    refine wpAny_bind (wpAny_mono h (fun vs s' h' => ?_) fun _ _ x => x)
    refine wpAny_bind (wpAny_pure ?_)
    refine wpAny_holding ?_
    exact wpAny_bind (wpAny_pure (wpAny_bind (wpAny_pure (wpAny_pure h'))))
  | cons e rest =>
    rw [back_cons (Bool.or_eq_false_iff.mp hs).1] at h ⊢
    exact evalArgs_plain h
theorem any_back {pos : Pos} {env : Env} : ∀ {es : List Expr}, es.any isStar = false → (backTo pos (starEach es env)).any (·.1) = false
  | [], _ => rfl
  | e :: rest, hs => by
    rw [back_cons (Bool.or_eq_false_iff.mp hs).1, List.any_cons, any_back (Bool.or_eq_false_iff.mp hs).2]; rfl

/-- calling a function of the text -/
theorem J_callFn {pos : Pos} {first : List Value} {es : List Expr} {fa : Addr} {o : Obj} {fd : FuncData} {Q : AV → PS → Prop} (ho : (KW c.w).lookup fa = some o) (hd : o.data = .func fd)
    (h : JL c n F pos es P fun vs P1 => TC c n (.ref fa) (first.map abs ++ vs) P1.H fun v H' => Q v ⟨P1.m, H'⟩) (hs : es.any isStar = false) :
    J c n F abs (callWith pos (.ref fa) first (backTo pos (starEach es F.env)) []) P Q := ⟨fun A s hr hp => by
  refine callWith_function (o := o) (fd := fd) (evalArgs_all hs (h.on hr hp fun vs s1 P1 r1 f1 k1 => ?_))
  refine ⟨⟨r1.h.K _ _ ho, hd⟩, ?_⟩
  exact (TH.J (F := F) (P := P1) (k1.at_ _ (by rw [List.map_append]))).on hr r1 fun v s2 P2 r2 f2 k2 => ⟨P2, r2, f1.trans f2, k2⟩⟩

/-- a call of a def of the text, by its name -/
theorem JE_Call {x : Str} {p pos : Pos} {es : List Expr} {fa : Addr} {o : Obj} {fd : FuncData} {Q : AV → PS → Prop} (hk : nsIn (KW c.w) mainGlobals x = some (some (.ref fa)))
    (ho : (KW c.w).lookup fa = some o) (hd : o.data = .func fd) (h : JL c n F pos es P (KCall c n fa Q))
    (hx : F.env.kindOf x = some .globalImplicit := by rfl) (hdb : (x == ("__debug__" : Str)) = false := by decide) (hs : es.any isStar = false := by rfl) :
    JE c n F (.Call (.Name x p) es [] pos) P Q := by
  show J c n F abs (eval (.Name x p) F.env >>= fun f => callWith pos f [] (backTo pos (starEach es F.env)) []) P Q
  exact J_globalName hk (J_callFn ho hd h hs) hx hdb

/-- calling a built-in function, by its name -/
theorem JE_builtin {x : Str} {p pos : Pos} {es : List Expr} {id : String} {Q : AV → PS → Prop} (hk : nsIn (KW c.w) mainGlobals x = some none) (hv : bootBuiltins x = some (.builtin id))
    (h : JL c n F pos es P fun vs P1 => ∀ us, us.map abs = vs → J c n F abs (call (.builtin id) us) P1 Q) (hn : x ≠ "__name__" := by decide)
    (hx : F.env.kindOf x = some .globalImplicit := by rfl) (hdb : (x == ("__debug__" : Str)) = false := by decide) (hs : es.any isStar = false := by rfl) :
    JE c n F (.Call (.Name x p) es [] pos) P Q := by
  show J c n F abs (eval (.Name x p) F.env >>= fun f => callWith pos f [] (backTo pos (starEach es F.env)) []) P Q
  refine J_builtinName hk hv hn ⟨fun A s hr hp => ?_⟩ hx hdb
  exact callWith_builtin (any_back hs) (evalArgs_all hs (h.on hr hp fun vs s1 P1 r1 f1 k1 => (k1 vs rfl).on hr r1 fun v s2 P2 r2 f2 k2 => ⟨P2, r2, f1.trans f2, k2⟩))
/-- calling a built-in type, by its name -/
theorem JE_type {x : Str} {p pos : Pos} {es : List Expr} {T : String} {Q : AV → PS → Prop} (hk : nsIn (KW c.w) mainGlobals x = some none) (hv : bootBuiltins x = some (.type T))
    (h : JL c n F pos es P fun vs P1 => ∀ us, us.map abs = vs → J c n F abs (call (.type T) us) P1 Q) (hn : x ≠ "__name__" := by decide)
    (hx : F.env.kindOf x = some .globalImplicit := by rfl) (hdb : (x == ("__debug__" : Str)) = false := by decide) (hs : es.any isStar = false := by rfl) :
    JE c n F (.Call (.Name x p) es [] pos) P Q := by
  show J c n F abs (eval (.Name x p) F.env >>= fun f => callWith pos f [] (backTo pos (starEach es F.env)) []) P Q
  refine J_builtinName hk hv hn ⟨fun A s hr hp => ?_⟩ hx hdb
  exact PyProof.Rows.callWith_type (any_back hs) (evalArgs_all hs (h.on hr hp fun vs s1 P1 r1 f1 k1 => (k1 vs rfl).on hr r1 fun v s2 P2 r2 f2 k2 => ⟨P2, r2, f1.trans f2, k2⟩))

/-! a def's call, by its body -/
noncomputable def retOf : AF → AV
  | .ret v => v
  | _ => .none

theorem lookup_rev_zip : ∀ {ns : List Str} {vs : List Value} {i : Nat} {x : Str} {v : Value}, ns.Nodup → ns[i]? = some x → vs[i]? = some v → (ns.zip vs).reverse.lookup x = some v
  | [], _, _, _, _, _, h, _ => by simp at h
  | _ :: _, [], _, _, _, _, _, h => by simp at h
  | y :: ns, u :: us, i, x, v, hn, h1, h2 => by
    rw [List.nodup_cons] at hn
    rw [List.zip_cons_cons, List.reverse_cons, List.lookup_append]
    cases i with
    | zero =>
      simp at h1 h2
      subst h1 h2
      have : (ns.zip us).reverse.lookup y = none := by
        rw [List.lookup_eq_none_iff]
        intro p hp
        have q : y ≠ p.1 := fun q => hn.1 (q ▸ (List.of_mem_zip (List.mem_reverse.mp hp)).1)
        simpa using q
      rw [this]; simp
    | succ i =>
      simp at h1 h2
      rw [lookup_rev_zip hn.2 h1 h2]; rfl

/-- the frame of a call -/
noncomputable abbrev fmOf (fd : FuncData) (L fa : Addr) (ns : List Str) (nodup : ns.Nodup) (loc : ∀ x ∈ ns, fd.scope.names.lookup x = some .local ∧ (x == ("__debug__" : Str)) = false) (hk : fd.scope.kind = .function)
    (hg : fd.globals = mainGlobals) (hbi : fd.builtins = builtinsNs) : Fm := ⟨callEnv fd L fa, ns, nodup, loc, hk, hg, hbi⟩

theorem TC_def (ps ls : List Str) {fa : Addr} {o : Obj} {fd : FuncData} {body : List Stmt} {args : List AV} {H : AH} {Q : AV → AH → Prop}
    (ho : (KW c.w).lookup fa = some o) (hd : o.data = .func fd) (hb : fd.body = .stmts body) (hcd : codeIn (KW c.w) fd.code fd.qualname = true)
    (hg : fd.globals = mainGlobals) (hbi : fd.builtins = builtinsNs)
    (hbind : ∀ vs : List Value, vs.length = args.length → bindArgs fd ⟨vs, []⟩ = pure (ps.zip vs))
    (hcell : ∀ x ∈ fd.scope.names, x.2 ≠ .cell) (hloc : ∀ x ∈ ps ++ ls, fd.scope.names.lookup x = some .local ∧ (x == ("__debug__" : Str)) = false) (hnd : (ps ++ ls).Nodup)
    (hco : fd.scope.isCoroutine = false) (hgen : fd.scope.isGenerator = false) (hk : fd.scope.kind = .function) (hlen : ps.length = args.length)
    (h : ∀ L, JSS (c.push (callEnv fd L fa)) n (fmOf fd L fa (ps ++ ls) hnd hloc hk hg hbi) body ⟨args ++ List.replicate ls.length .other, H⟩ fun f P' => Q (retOf f) P'.H) : TC c (n + 1) (.ref fa) args H Q := by
  refine ⟨fun vs hvs A s hr hp => ?_⟩
  subst hvs
  refine (codeAny_call_def (fd := fd) (body := body) (binds := ps.zip vs) hr.depth (hp.K _ _ ho) hd (c.nolimit.keeps hp.keep)
    (codeRec_of hp.K hcd) hb (BindsTo.of_eq (hbind vs (by simp))) hcell (fun x hx => (hloc x.1 (List.mem_append_left _ (List.of_mem_zip hx).1)).1) (fun h₁ hns hk₁ => ?_) hco hgen hk)
  have r1 : Rep (c.push (callEnv fd s.heap.objs.size fa)) (fmOf fd s.heap.objs.size fa (ps ++ ls) hnd hloc hk hg hbi) ⟨vs.map abs ++ List.replicate ls.length .other, H⟩ { s with heap := h₁, toks := s.toks + (ps.zip vs).length } := by
    refine ⟨(hp.ext (s' := { s with heap := h₁, toks := s.toks + (ps.zip vs).length }) hk₁ rfl rfl).push hk rfl hns hp.base_fresh hp.fresh, ⟨_, hns, fun i x v e1 e2 e3 => ?_⟩, hp.fresh, hp.base_fresh⟩
    rw [List.length_map] at hlen
    by_cases hi : i < vs.length
    · rw [List.getElem?_append_left (by simpa using hi), List.getElem?_map] at e2
      obtain ⟨u, hu, rfl⟩ := Option.map_eq_some_iff.mp e2
      rw [List.getElem?_append_left (by lia)] at e1
      rw [lookup_rev_zip (List.nodup_append.mp hnd).1 e1 hu]; rfl
    · rw [List.getElem?_append_right (by simpa using hi)] at e2
      exact absurd (List.mem_replicate.mp (List.mem_of_getElem? e2)).2 e3
  refine wpAny_mono ((h s.heap.objs.size).go _ _ (hr.deeper (e := callEnv fd s.heap.objs.size fa)) r1) (fun f s' ⟨P', r', f', q'⟩ => ?_) fun _ _ x => x.elim
  refine ⟨P'.H, r'.h.pop, fun b ob e1 e2 => f' b ob (hk₁ _ _ e1) (Nat.ne_of_lt (Heap.lt_size e1)) e2, ?_⟩
  cases f <;> exact q'
end
end Mine
end

-- part L5
section
open PySem PySem.W PySem.Calls PyProof.Rows
set_option Elab.async false
set_option linter.unusedVariables false
set_option autoImplicit false
set_option maxRecDepth 100000
namespace Mine

noncomputable def tyOf : AO → Option String
  | .list _ => some "list"
  | .tup _ => some "tuple"
  | .dict _ _ => some "dict"
  | .set _ => some "set"
  | _ => none

theorem map1 {us : List Value} {v : AV} (h : us.map abs = [v]) : ∃ u, us = [u] ∧ abs u = v := by
  cases us with
  | nil => cases h
  | cons u r => cases r with
    | nil => cases h; exact ⟨u, rfl, rfl⟩
    | cons _ _ => cases h
theorem map2 {us : List Value} {v w : AV} (h : us.map abs = [v, w]) : ∃ u x, us = [u, x] ∧ abs u = v ∧ abs x = w := by
  cases us with
  | nil => cases h
  | cons u r =>
    simp only [List.map_cons, List.cons.injEq] at h
    obtain ⟨x, rfl, e⟩ := map1 h.2
    exact ⟨u, x, rfl, h.1, e⟩

section
variable {ib : Bool} {c : CxB ib} {n : Nat} {F : Fm} {P : PS}

theorem tyOf_is {s : Shared} {H : AH} (hp : HRep c H s) {a : Addr} {o : AO} {T : String} (e : gets c H a = some o) (hT : tyOf o = some T) : s.TypeIs (.ref a) T ∧ ∃ ob, s.heap.get? a = some ob ∧ ob.dict = none := by
  obtain ⟨co, h1, h2⟩ := hp.at e
  cases o with
  | list vs => obtain ⟨items, k, rfl, _⟩ := h2; cases hT; exact ⟨⟨_, h1, rfl⟩, _, h1, rfl⟩
  | tup vs => obtain ⟨items, k, rfl, _⟩ := h2; cases hT; exact ⟨⟨_, h1, rfl⟩, _, h1, rfl⟩
  | dict vs ep => obtain ⟨items, kvs, hx, _⟩ := h2; cases hT; exact ⟨⟨_, h1, hx.1⟩, _, h1, hx.2.1⟩
  | set vs => obtain ⟨items, k, t, hx, _⟩ := h2; cases hT; exact ⟨⟨_, h1, hx.1⟩, _, h1, hx.2.1⟩
  | _ => cases hT

/-- a method of a built-in type -/
noncomputable abbrev KMeth2 {ib : Bool} (c : CxB ib) (n : Nat) (F : Fm) (id : String) (Q : AV → PS → Prop) (a : Addr) : List AV → PS → Prop := fun vs P2 => ∀ us, us.map abs = vs → J c n F abs (call (.builtin id) (.ref a :: us)) P2 Q
noncomputable abbrev KMeth {ib : Bool} (c : CxB ib) (n : Nat) (F : Fm) (T id : String) (pos : Pos) (es : List Expr) (Q : AV → PS → Prop) : AV → PS → Prop := fun ov P1 => ∃ a x, ov = .ref a ∧ gets c P1.H a = some x ∧ tyOf x = some T ∧ JL c n F pos es P1 (KMeth2 c n F id Q a)
noncomputable abbrev KLen {ib : Bool} (c : CxB ib) (Q : AV → PS → Prop) : AV → PS → Prop := fun v P1 => ∃ a vs, v = .ref a ∧ (gets c P1.H a = some (.list vs) ∨ gets c P1.H a = some (.tup vs)) ∧ vs.length < 2 ^ 63 ∧ Q (.int vs.length) P1
theorem JE_meth {o : Expr} {name : Str} {apos pos : Pos} {es : List Expr} {T id : String} {Q : AV → PS → Prop} (pa : PlainAttrs T) (slot : Slot T name id) (hty : typeOf (.builtin id) = pure (.type "method_descriptor"))
    (h : JE c n F o P (KMeth c n F T id pos es Q))
    (hbase : attributeBase o name F.env (eval o F.env) = eval o F.env := by rfl)
    (hfew : ((backTo pos (starEach es F.env)).all (fun x => !x.1) && (backToKw pos (keywordEach [] F.env)).all (fun x => x.1.isSome)
      && decide (es.length + ([] : List Keyword).length + (if ([] : List Keyword).isEmpty then 0 else 1) < 30)) = true := by rfl)
    (hline : (apos.endLine == pos.line) = true := by rfl) (hs : es.any isStar = false := by rfl) : JE c n F (.Call (.Attribute o name apos) es [] pos) P Q := ⟨fun A s hr hp => by
  refine wpAny_Call_method hbase hfew hline pa slot hty (h.on hr hp fun ov s1 P1 r1 f1 k1 => ?_)
  obtain ⟨a, x, e, g, ht, k1⟩ := k1
  obtain rfl := abs_ref e
  obtain ⟨t1, t2⟩ := tyOf_is r1.h g ht
  refine ⟨t1, fun b e => by cases e; exact t2, callWith_builtin (any_back hs) (evalArgs_all hs (k1.on hr r1 fun vs s2 P2 r2 f2 k2 => ?_))⟩
  exact (k2 vs rfl).on hr r2 fun v s3 P3 r3 f3 k3 => ⟨P3, r3, (f1.trans f2).trans f3, k3⟩⟩

theorem updL {s : Shared} {H : AH} {a : Addr} {o : AO} {items : Array Value} {k : Nat} {f : Array Value → Array Value} {vs' : List AV} (hp : HRep c H s) (e : H a = some o) (g : IsL s.heap a items k) (hm : (f items).toList.map abs = vs') :
    HRep c (upd H a (.list vs')) { s with heap := s.heap.update a (Obj.mapSeq f) } ∧ HF H s { s with heap := s.heap.update a (Obj.mapSeq f) } (upd H a (.list vs')) :=
  ⟨hp.change e (Heap.SameBut.update ..) (g.update f) ⟨_, _, rfl, hm⟩ rfl rfl, HF.change e (Heap.SameBut.update ..)⟩

theorem J_append {a : Addr} {vs : List AV} {v : AV} {Q : AV → PS → Prop} (e : P.H a = some (.list vs)) (hz : vs.length ≤ 10000) (h : Q .none ⟨P.m, upd P.H a (.list (vs ++ [v]))⟩) :
    ∀ us, us.map abs = [v] → J c n F abs (call (.builtin "list.append") (.ref a :: us)) P Q := fun us eu => by
  obtain ⟨u, rfl, rfl⟩ := map1 eu
  · refine TH.J ⟨fun A s hr hp => ?_⟩
    obtain ⟨co, g1, items, k, rfl, rfl⟩ := hp.know a _ e
    have hsz : items.size ≤ sizeLine := by rw [sizeLine_eq]; simp only [List.length_map, Array.length_toList] at hz; lia
    have U := updL (f := fun x => x.push u) (vs' := items.toList.map abs ++ [abs u]) hp e g1 (by simp)
    exact @call_meets prg c.w A _ s "list" "append" "list.append" _ (.ref a) [u] _ _ PySem.F.slot_list_append ⟨_, g1, rfl⟩ PySem.F.entry_list_append (PySem.F.args_list_append_2 _ _) (PySem.list_append a items k u hsz) ⟨g1, _, U.1, U.2, h⟩

theorem J_pop {a : Addr} {vs : List AV} {v : AV} {Q : AV → PS → Prop} (e : P.H a = some (.list (vs ++ [v]))) (hz : vs.length ≤ 10000) (h : Q v ⟨P.m, upd P.H a (.list vs)⟩) :
    ∀ us, us.map abs = [] → J c n F abs (call (.builtin "list.pop") (.ref a :: us)) P Q := fun us eu => by
  obtain rfl := List.map_eq_nil_iff.mp eu
  · refine TH.J ⟨fun A s hr hp => ?_⟩
    obtain ⟨co, g1, items, k, rfl, hm⟩ := hp.know a _ e
    obtain ⟨l⟩ := items
    obtain ⟨l1, l2, rfl, e1, e2⟩ := List.map_eq_append_iff.mp hm
    obtain ⟨y, rfl, rfl⟩ := map1 e2
    · subst e1
      simp only [List.length_map] at hz
      have hsz : (l1 ++ [y]).toArray.size ≤ sizeLine := by rw [sizeLine_eq]; simp; lia
      have U := updL (f := fun xs => xs.eraseIdxIfInBounds ((l1 ++ [y]).toArray.size - 1)) (vs' := l1.map abs) hp e g1 (by
        simp [Array.eraseIdxIfInBounds, List.eraseIdx_append_of_length_le])
      exact @call_meets prg c.w A _ s "list" "pop" "list.pop" _ (.ref a) [] _ _ PySem.F.slot_list_pop ⟨_, g1, rfl⟩ PySem.F.entry_list_pop (PySem.F.args_list_pop_1 _) (MeetsSeq.list_pop_last a _ k y (by simp) hsz) ⟨g1, _, U.1, U.2, h⟩

theorem J_clear {a : Addr} {vs : List AV} {Q : AV → PS → Prop} (e : P.H a = some (.list vs)) (hz : vs.length ≤ 10000) (h : Q .none ⟨P.m, upd P.H a (.list [])⟩) :
    ∀ us, us.map abs = [] → J c n F abs (call (.builtin "list.clear") (.ref a :: us)) P Q := fun us eu => by
  obtain rfl := List.map_eq_nil_iff.mp eu
  · refine TH.J ⟨fun A s hr hp => ?_⟩
    obtain ⟨co, g1, items, k, rfl, rfl⟩ := hp.know a _ e
    have hsz : items.size ≤ sizeLine := by rw [sizeLine_eq]; simp only [List.length_map, Array.length_toList] at hz; lia
    have U := updL (f := fun _ => #[]) (vs' := []) hp e g1 rfl
    exact @call_meets prg c.w A _ s "list" "clear" "list.clear" _ (.ref a) [] _ _ PySem.F.slot_list_clear ⟨_, g1, rfl⟩ PySem.F.entry_list_clear (PySem.F.args_list_clear_1 _) (AutoSeq1.list_clear_list_0 a items k hsz) ⟨g1, _, U.1, U.2, h⟩

theorem J_lenList {a : Addr} {vs : List AV} {Q : AV → PS → Prop} (e : gets c P.H a = some (.list vs)) (hz : vs.length < 2 ^ 63) (h : Q (.int vs.length) P) :
    ∀ us, us.map abs = [.ref a] → J c n F abs (call (.builtin "len") us) P Q := fun us eu => by
  obtain ⟨u, rfl, ev⟩ := map1 eu
  · obtain rfl := abs_ref ev
    refine ⟨fun A s hr hp => ?_⟩
    obtain ⟨co, h1, h2⟩ := hp.h.at e
    obtain ⟨items, hl, rfl⟩ := islist_of h1 h2
    simp only [List.length_map] at hz h
    exact call_len_list hl (by simp only [List.size_toArray]; lia) ⟨P, hp.toks _, FF.refl _ _ _, h⟩
theorem J_lenTup {a : Addr} {vs : List AV} {Q : AV → PS → Prop} (e : gets c P.H a = some (.tup vs)) (hz : vs.length < 2 ^ 63) (h : Q (.int vs.length) P) :
    ∀ us, us.map abs = [.ref a] → J c n F abs (call (.builtin "len") us) P Q := fun us eu => by
  obtain ⟨u, rfl, ev⟩ := map1 eu
  · obtain rfl := abs_ref ev
    refine ⟨fun A s hr hp => ?_⟩
    obtain ⟨co, h1, h2⟩ := hp.h.at e
    obtain ⟨items, hl, rfl⟩ := istup_of h1 h2
    simp only [List.length_map] at hz h
    exact PyProof.Rows.len_tuple hl (by simp only [List.size_toArray]; lia) ⟨P, hp.toks _, FF.refl _ _ _, h⟩

theorem nin_len (w : World) : nsIn (KW w) mainGlobals "len" = some none := by kernel_rfl
theorem boot_len : bootBuiltins "len" = some (.builtin "len") := by kernel_rfl
/-- len(e) -/
theorem JE_len {p pos : Pos} {e : Expr} {Q : AV → PS → Prop} (h : JE c n F e P (KLen c Q))
    (hx : F.env.kindOf "len" = some .globalImplicit := by rfl) (he : isStar e = false := by rfl) : JE c n F (.Call (.Name "len" p) [e] [] pos) P Q := by
  refine JE_builtin (nin_len c.w) boot_len (JL_cons (h.mono fun v P1 ⟨a, vs, e1, e2, e3, e4⟩ => JL_nil fun us eu => ?_) (back_cons he)) (by decide) hx (by decide) (by rw [List.any_cons, he]; rfl)
  subst e1
  rcases e2 with e2 | e2
  · exact J_lenList e2 e3 e4 us eu
  · exact J_lenTup e2 e3 e4 us eu
end
end Mine
end

-- part L6
section
open PySem PySem.W PySem.Calls PyProof.Rows
set_option Elab.async false
set_option genSizeOf false
set_option genInjectivity false
set_option linter.unusedVariables false
set_option autoImplicit false
set_option maxRecDepth 100000
namespace Mine

section
variable {c : Cx} {n : Nat} {F : Fm} {P : PS}

/-- a thing that is not known, nor the frame's, nor older than the call, may change -/
theorem Rep.other {s : Shared} (h : Rep c F P s) {a : Addr} {h' : Heap} {t : Nat} (hs : Heap.ExtBut a s.heap h') (hH : P.H a = none) (hL : a ≠ F.env.locals) (hb : c.h₀.get? a = none)
    (hd : ∀ b o es n, s.heap.get? b = some o → o.data = .dict es n → b ≠ a) : Rep c F P { s with heap := h', toks := t } := by
  obtain ⟨mm, ⟨oL, es, ep, h1, h2⟩, hm⟩ := h.ns
  refine ⟨⟨fun b o e => ?_, fun b o e => ⟨?_, (h.h.base b o e).2⟩, h.h.hi, h.h.os, h.h.gens, h.h.stk.step fun b o es' n' e1 e2 e3 e4 => ?_⟩, ⟨mm, ⟨oL, es, ep, hs _ _ (Ne.symm hL) h1, h2⟩, hm⟩, h.own, h.new⟩
  · obtain ⟨co, k1, k2⟩ := h.h.know b o e
    exact ⟨co, hs b co (fun q => by subst q; rw [hH] at e; cases e) k1, k2⟩
  · exact hs b o (fun q => by subst q; rw [hb] at e; cases e) (h.h.base b o e).1
  · exact ⟨⟨o, es', n', hs b o (hd b o es' n' e1 e4) e1, e4⟩, e2⟩

noncomputable def owners : List String := ["enumerate", "zip", "dict_itemiterator", "dict_reverseitemiterator", "odict_iterator", "itertools.zip_longest", "itertools.pairwise"]

/-- an iterator: what it still gives -/
structure Itr (c : Cx) (n : Nat) (it : Addr) (vs : List AV) (K : AH → Prop) (C : Nat → Obj → Prop) : Prop where
  item : ∀ {A : Around} {s : Shared} {H : AH} {k : Nat} {o : Obj} {v : AV}, Room c n A → HRep c H s → K H → s.heap.get? it = some o → C k o → vs[k]? = some v → ∀ {Q' : Option Value → Shared → Prop} {E : Value → Shared → Prop},
    (∀ u h' o' t, abs u = v → Heap.SameBut it s.heap h' → h'.get? it = some o' → C (k + 1) o' → Q' (some u) { s with heap := h', toks := t }) → wpAny (M c) A (pyNext (.ref it)) Q' E s
  fin : ∀ {A : Around} {s : Shared} {H : AH} {k : Nat} {o : Obj}, Room c n A → HRep c H s → K H → s.heap.get? it = some o → C k o → vs[k]? = none → ∀ {Q' : Option Value → Shared → Prop} {E : Value → Shared → Prop},
    (∀ h', Heap.ExtBut it s.heap h' → Q' none { s with heap := h' }) → wpAny (M c) A (pyNext (.ref it)) Q' E s
  plain : ∀ k o, C k o → ∃ T, o.cls = .type T ∧ owners.contains T = false
  nd : ∀ k o, C k o → ∃ vs, o.data = .fields vs

set_option tactic.hygienic true in
theorem tupleGo {A : Around} {s : Shared} {E : Value → Shared → Prop} {Q : Unit → Shared → Prop} {target : Expr} {it : Addr} {o : Obj} {v : Value} (ho : s.heap.get? it = some o) (hT : ∃ T, o.cls = .type T ∧ owners.contains T = false)
    (h : Q () s) : wpAny (M c) A (letOwnedTupleGo target (.ref it) v) Q E s := by
  obtain ⟨T, hc, hT⟩ := hT
  unfold owners at hT
  unfold letOwnedTupleGo
  split
  case h_3 => exact wpAny_pure h
  all_goals
    cases v with
    | ref a =>
      refine wpAny_bind (wpAny_load ho ?_)
      rw [hc]
      try dsimp only
      split
      · rename_i n' vs' e1 e2
        cases e1
        rw [if_neg (by rw [hT]; exact Bool.false_ne_true)]
        exact wpAny_pure h
      · exact wpAny_pure h
    | _ => exact wpAny_pure h

noncomputable def TurnF (I : PS → Prop) (Q : AF → PS → Prop) : AF → PS → Prop
  | .next, P => I P
  | .cont, P => I P
  | .brk, P => Q .next P
  | .ret v, P => Q (.ret v) P

theorem for_core {it : Addr} {vs : List AV} {K : AH → Prop} {C : Nat → Obj → Prop} (T : Itr c n it vs K C) {target : Expr} {body orelse : List Stmt} {Q : AF → PS → Prop} (I : Nat → PS → Prop)
    (hK : ∀ k P, I k P → K P.H)
    (step : ∀ k v P, vs[k]? = some v → I k P → ∀ u, abs u = v → J c n F id (assign target F.env u) P fun _ P1 => JSS c n F body P1 (TurnF (I (k + 1)) Q))
    (done : ∀ P, I vs.length P → JSS c n F orelse P Q) {A : Around} {s : Shared} {o : Obj} (hr : Room c n A) (hp : Rep c F P s) (ho : s.heap.get? it = some o) (hC : C 0 o) (hH : P.H it = none) (hL : it ≠ F.env.locals) (hb : c.h₀.get? it = none) (h : I 0 P)
    {R : Result → Shared → Prop} (hR : ∀ f s' P', Rep c F P' s' → (∀ b o, s.heap.get? b = some o → b ≠ F.env.locals → b ≠ it → P.H b = none → (∃ o', s'.heap.get? b = some o' ∧ Like o o') ∧ P'.H b = none) → Q (absF f) P' → R (.ok f) s') :
    codeAny (M c) A (.forLoop target (.ref it) body orelse F.env) R s := by
  have nd1 : ∀ k o, C k o → ∀ {s : Shared}, s.heap.get? it = some o → ∀ b ob es n, s.heap.get? b = some ob → ob.data = .dict es n → b ≠ it := fun k o hc s g b ob es n e1 e2 q => by
    subst q
    rw [g] at e1; cases e1
    obtain ⟨vs, hv⟩ := T.nd k _ hc
    rw [hv] at e2; cases e2
  refine codeAny_loop' rfl (fun m s' => ∃ k P' o', m = vs.length - k ∧ k ≤ vs.length ∧ Rep c F P' s' ∧ (∀ b o, s.heap.get? b = some o → b ≠ F.env.locals → b ≠ it → P.H b = none → (∃ o', s'.heap.get? b = some o' ∧ Like o o') ∧ P'.H b = none) ∧
    s'.heap.get? it = some o' ∧ C k o' ∧ P'.H it = none ∧ I k P') (fun m s1 ⟨k, P1, o1, hm, hk, r1, f1, g1, c1, n1, i1⟩ => ?_) vs.length
    ⟨0, P, o, rfl, Nat.zero_le _, hp, fun b o e _ _ q => ⟨⟨o, e, Like.refl o⟩, q⟩, ho, hC, hH, h⟩
  show wpAny _ _ ((forTurn target (.ref it) body orelse F.env).onRaise (fun x => do noteFrame x F.env; theTreesLotGoes x)) _ _ s1
  refine wpAny_noted ?_
  unfold forTurn
  refine wpAny_bind (wpAny_standAt (wpAny_bind (wpAny_onRaise ?_)))
  cases hv : vs[k]? with
  | none =>
    have hkl : k = vs.length := Nat.le_antisymm hk (List.getElem?_eq_none_iff.mp hv)
    subst hkl
    refine T.fin hr r1.h (hK _ _ i1) g1 c1 hv fun h' hs => wpAny_pure (.inr ⟨rfl, codeAny_block ?_⟩)
    have r2 := r1.other (t := s1.toks) hs n1 hL hb (nd1 _ o1 c1 g1)
    exact (done P1 i1).on hr r2 fun f s3 P3 r3 f3 q3 => hR f s3 P3 r3 (fun b ob e1 e2 e3 e4 =>
      let ⟨⟨o2, z1, z2⟩, z3⟩ := f1 b ob e1 e2 e3 e4
      let ⟨⟨o3, y1, y2⟩, y3⟩ := f3 b o2 (hs b o2 e3 z1) e2 z3
      ⟨⟨o3, y1, z2.trans y2⟩, y3⟩) q3
  | some v =>
    refine T.item hr r1.h (hK _ _ i1) g1 c1 hv fun u h' o' t hu hs ho' hC' => ?_
    have r2 := r1.other (t := t) hs.extBut n1 hL hb (nd1 k o1 c1 g1)
    refine wpAny_bind (tupleGo (c := c) ho' (T.plain _ _ hC') ?_)
    refine wpAny_bind ((step k v P1 hv i1 u hu).on hr r2 fun _ s3 P3 r3 f3 k3 => ?_)
    refine wpAny_bind (J.on k3 hr r3 fun f s4 P4 r4 f4 k4 => ?_)
    obtain ⟨vs', hvs'⟩ := T.nd _ _ hC'
    have nd' : ∀ es n, o'.data ≠ .dict es n := fun es n q => by rw [hvs'] at q; cases q
    obtain ⟨⟨o3, z31, z32⟩, z33⟩ := f3 it o' ho' hL n1
    obtain ⟨_, _, z34⟩ := z32
    rw [z34 nd'] at z31
    obtain ⟨⟨o4, z41, z42⟩, z43⟩ := f4 it o' z31 hL z33
    obtain ⟨_, _, z44⟩ := z42
    rw [z44 nd'] at z41
    have z4 : s4.heap.get? it = some o' ∧ P4.H it = none := ⟨z41, z43⟩
    have ff : ∀ b o, s.heap.get? b = some o → b ≠ F.env.locals → b ≠ it → P.H b = none → (∃ o', s4.heap.get? b = some o' ∧ Like o o') ∧ P4.H b = none := fun b ob e1 e2 e3 e4 =>
      let ⟨⟨o2, z1, z2⟩, z3⟩ := f1 b ob e1 e2 e3 e4
      let ⟨⟨o3, y1, y2⟩, y3⟩ := f3 b o2 ((hs.2 b e3).trans z1) e2 z3
      let ⟨⟨o4, x1, x2⟩, x3⟩ := f4 b o3 y1 e2 y3
      ⟨⟨o4, x1, (z2.trans y2).trans x2⟩, x3⟩
    have hlt : k < vs.length := (List.getElem?_eq_some_iff.mp hv).1
    cases f with
    | next => exact wpAny_pure (.inl ⟨rfl, vs.length - (k + 1), by lia, k + 1, P4, o', rfl, hlt, r4, ff, z4.1, hC', z4.2, k4⟩)
    | cont => exact wpAny_pure (.inl ⟨rfl, vs.length - (k + 1), by lia, k + 1, P4, o', rfl, hlt, r4, ff, z4.1, hC', z4.2, k4⟩)
    | brk => exact wpAny_pure (hR .next s4 P4 r4 ff k4)
    | ret v => exact wpAny_pure (hR (.ret v) s4 P4 r4 ff k4)

/-- for, over what an iterator gives -/
theorem JS_For {target iter : Expr} {body orelse : List Stmt} {pos : Pos} {Q : AF → PS → Prop}
    (h : JE c n F iter P fun o P1 => ∃ (vs : List AV) (K : AH → Prop) (C : Nat → Obj → Prop) (I : Nat → PS → Prop),
      (∀ vo, abs vo = o → ∀ (A : Around) (s : Shared), Room c n A → HRep c P1.H s → ∀ (Q' : Value → Shared → Prop) (E : Value → Shared → Prop),
        (∀ it s' o, (∀ b o, s.heap.get? b = some o → s'.heap.get? b = some o) → s'.os = s.os → s'.gens = s.gens → s.heap.objs.size ≤ it → s'.heap.get? it = some o → C 0 o → Itr c n it vs K C → Q' (.ref it) s') → wpAny (M c) A (pyIter vo) Q' E s) ∧
      (∀ k P, I k P → K P.H) ∧ (∃ P2, MLe P2.m P1.m ∧ HLe P2.H P1.H ∧ I 0 P2) ∧
      (∀ k v P, vs[k]? = some v → I k P → ∀ u, abs u = v → J c n F id (assign target F.env u) P fun _ P1 => JSS c n F body P1 (TurnF (I (k + 1)) Q)) ∧ (∀ P, I vs.length P → JSS c n F orelse P Q))
    (hs : ∀ x, foldedSetIterable iter F.env x = pure x := by intro _; rfl) : JS c n F (.For target iter body orelse pos) P Q := ⟨fun A s hr hp => by
  refine wpAny_For (h.on hr hp fun vo s1 P1 r1 f1 k1 => ?_) hs
  obtain ⟨vs, K, C, I, mk, hK, ⟨P2, l1, l2, h0⟩, step, done⟩ := k1
  refine mk vo rfl A s1 hr r1.h _ _ fun it s2 o ext e1 e2 hit ho hC T => ?_
  have hH : P1.H it = none := by
    cases q : P1.H it with
    | none => rfl
    | some x => obtain ⟨co, z, _⟩ := r1.h.know _ _ q; exact absurd (Heap.lt_size z) (Nat.not_lt.mpr hit)
  have hb : c.h₀.get? it = none := by
    cases q : c.h₀.get? it with
    | none => rfl
    | some x => exact absurd (Heap.lt_size (r1.h.base _ _ q).1) (Nat.not_lt.mpr hit)
  obtain ⟨mm, ⟨oL, es, ep, hL, _⟩, _⟩ := id r1.ns
  have hLn : it ≠ F.env.locals := fun q => absurd (Heap.lt_size hL) (Nat.not_lt.mpr (q ▸ hit))
  obtain ⟨r2, f2⟩ := r1.ofH (r1.h.ext ext e1 e2) (HF.ext ext)
  refine for_core (R := fun r s' => match r with | .ok f => ∃ P', Rep c F P' s' ∧ FF F P s s' P' ∧ Q (absF f) P' | .error e => cameBackBy (M c) A F.env (fun _ _ => False) e s') T I hK step done hr (r2.le (P := P2) l1 l2) ho hC (l2.none hH) hLn hb h0 fun f s' P' r' f' q' => ⟨P', r', fun b ob z1 z2 z3 => ?_, q'⟩
  obtain ⟨⟨o1, y1, y2⟩, y3⟩ := f1 b ob z1 z2 z3
  obtain ⟨⟨o2, x1, x2⟩, x3⟩ := f' b o1 (ext _ _ y1) z2 (fun q => absurd (Heap.lt_size y1) (Nat.not_lt.mpr (q ▸ hit))) (l2.none y3)
  exact ⟨⟨o2, x1, y2.trans x2⟩, x3⟩⟩

/-! the iterators -/
theorem itr_list {l it : Addr} {vs : List AV} : Itr c n it vs (fun H => gets c H l = some (.list vs)) (fun k o => o.cls = .type "list_iterator" ∧ o.data = .fields #[.ref l, .int k 0]) where
  item := fun {A s H k o v} hr hp hK ho hC hv {Q' E} h => by
    obtain ⟨co, h1, h2⟩ := hp.at hK
    obtain ⟨items, hl, rfl⟩ := islist_of h1 h2
    rw [List.getElem?_map] at hv
    obtain ⟨x, hx, rfl⟩ := Option.map_eq_some_iff.mp hv
    exact wpAny_pyNext_list_item ⟨o, ho, hC⟩ hl (x := x) (by simpa using hx) fun h' ⟨o', z1, z2⟩ hs => h x h' o' s.toks rfl hs z1 z2
  fin := fun {A s H k o} hr hp hK ho hC hv {Q' E} h => by
    obtain ⟨co, h1, h2⟩ := hp.at hK
    obtain ⟨items, hl, rfl⟩ := islist_of h1 h2
    exact wpAny_pyNext_list_end (hr.1 rfl) ⟨o, ho, hC⟩ hl (by simpa using hv) h
  plain := fun k o h => ⟨_, h.1, by decide⟩
  nd := fun k o h => ⟨_, h.2⟩

theorem itr_tup {l it : Addr} {vs : List AV} : Itr c n it vs (fun H => gets c H l = some (.tup vs)) (fun k o => o.cls = .type "tuple_iterator" ∧ o.data = .fields #[.ref l, .int k 0]) where
  item := fun {A s H k o v} hr hp hK ho hC hv {Q' E} h => by
    obtain ⟨co, h1, h2⟩ := hp.at hK
    obtain ⟨items, hl, rfl⟩ := istup_of h1 h2
    rw [List.getElem?_map] at hv
    obtain ⟨x, hx, rfl⟩ := Option.map_eq_some_iff.mp hv
    exact PySem.wpAny_pyNext_tuple_item (items := items.toArray) ⟨o, ho, hC⟩ hl (x := x) (by simpa using hx) fun h' ⟨o', z1, z2⟩ hs => h x h' o' s.toks rfl hs z1 z2
  fin := fun {A s H k o} hr hp hK ho hC hv {Q' E} h => by
    obtain ⟨co, h1, h2⟩ := hp.at hK
    obtain ⟨items, hl, rfl⟩ := istup_of h1 h2
    exact PySem.wpAny_pyNext_tuple_end (items := items.toArray) (hr.1 rfl) ⟨o, ho, hC⟩ hl (by simpa using hv) h
  plain := fun k o h => ⟨_, h.1, by decide⟩
  nd := fun k o h => ⟨_, h.2⟩

noncomputable def upTo (m : Nat) : List AV := (List.range m).map fun i => AV.int (i : Nat)
theorem upTo_get {m k : Nat} {v : AV} (h : (upTo m)[k]? = some v) : k < m ∧ v = .int k := by
  unfold upTo at h
  rw [List.getElem?_map] at h
  obtain ⟨x, hx, rfl⟩ := Option.map_eq_some_iff.mp h
  have := List.getElem?_eq_some_iff.mp hx
  simp at this
  exact ⟨this.1, by rw [this.2]⟩
theorem upTo_len (m : Nat) : (upTo m).length = m := by simp [upTo]

theorem itr_range {it : Addr} {m : Nat} : Itr c n it (upTo m) (fun _ => True) (fun k o => o = { cls := .type "range_iterator", dict := none, data := .fields #[rawInt k, rawInt (m - k : Int), rawInt 1], slots := #[] }) where
  item := fun {A s H k o v} hr hp hK ho hC hv {Q' E} h => by
    subst hC
    obtain ⟨h1, rfl⟩ := upTo_get hv
    exact wpAny_pyNext_range_item (x := k) ho (by lia) fun h' z hs => h _ h' _ _ rfl hs z (by rw [show (m : Int) - k - 1 = m - ((k + 1 : Nat) : Int) by lia]; rfl)
  fin := fun {A s H k o} hr hp hK ho hC hv {Q' E} h => by
    subst hC
    have := List.getElem?_eq_none_iff.mp hv
    rw [upTo_len] at this
    exact wpAny_pyNext_range_end (hr.1 rfl) ho (by lia) h
  plain := fun k o h => ⟨"range_iterator", by rw [h], by decide⟩
  nd := fun k o h => by subst h; exact ⟨_, rfl⟩

/-- for over a list -/
theorem JS_ForList {target iter : Expr} {body orelse : List Stmt} {pos : Pos} {Q : AF → PS → Prop}
    (h : JE c n F iter P fun o P1 => ∃ (l : Addr) (vs : List AV) (I : Nat → PS → Prop), o = .ref l ∧ (∃ P2, MLe P2.m P1.m ∧ HLe P2.H P1.H ∧ I 0 P2) ∧ (∀ k P, I k P → gets c P.H l = some (.list vs)) ∧
      (∀ k v P, vs[k]? = some v → I k P → ∀ u, abs u = v → J c n F id (assign target F.env u) P fun _ P1 => JSS c n F body P1 (TurnF (I (k + 1)) Q)) ∧ (∀ P, I vs.length P → JSS c n F orelse P Q))
    (hs : ∀ x, foldedSetIterable iter F.env x = pure x := by intro _; rfl) : JS c n F (.For target iter body orelse pos) P Q := by
  refine JS_For (h.mono fun o P1 ⟨l, vs, I, e1, e3, hK, step, done⟩ => ⟨vs, fun H => gets c H l = some (.list vs), fun k o => o.cls = .type "list_iterator" ∧ o.data = .fields #[.ref l, .int k 0], I, fun vo eo A s hr hp Q' E k => ?_, hK, e3, step, done⟩) hs
  obtain rfl := abs_ref (eo.trans e1)
  obtain ⟨P2, l1, l2, i0⟩ := e3
  obtain ⟨co, h1, h2⟩ := (hp.le l2).at (hK 0 P2 i0)
  obtain ⟨items, hl, hm⟩ := islist_of h1 h2
  exact wpAny_pyIter_list hl (k _ _ _ (fun b o z => Heap.get?_push_of_some _ z) rfl rfl (Nat.le_refl _) (Heap.get?_push_size _ rfl) ⟨rfl, rfl⟩ itr_list)

/-- for over a tuple -/
theorem JS_ForTup {target iter : Expr} {body orelse : List Stmt} {pos : Pos} {Q : AF → PS → Prop}
    (h : JE c n F iter P fun o P1 => ∃ (l : Addr) (vs : List AV) (I : Nat → PS → Prop), o = .ref l ∧ (∃ P2, MLe P2.m P1.m ∧ HLe P2.H P1.H ∧ I 0 P2) ∧ (∀ k P, I k P → gets c P.H l = some (.tup vs)) ∧
      (∀ k v P, vs[k]? = some v → I k P → ∀ u, abs u = v → J c n F id (assign target F.env u) P fun _ P1 => JSS c n F body P1 (TurnF (I (k + 1)) Q)) ∧ (∀ P, I vs.length P → JSS c n F orelse P Q))
    (hs : ∀ x, foldedSetIterable iter F.env x = pure x := by intro _; rfl) : JS c n F (.For target iter body orelse pos) P Q := by
  refine JS_For (h.mono fun o P1 ⟨l, vs, I, e1, e3, hK, step, done⟩ => ⟨vs, fun H => gets c H l = some (.tup vs), fun k o => o.cls = .type "tuple_iterator" ∧ o.data = .fields #[.ref l, .int k 0], I, fun vo eo A s hr hp Q' E k => ?_, hK, e3, step, done⟩) hs
  obtain rfl := abs_ref (eo.trans e1)
  obtain ⟨P2, l1, l2, i0⟩ := e3
  obtain ⟨co, h1, h2⟩ := (hp.le l2).at (hK 0 P2 i0)
  obtain ⟨items, hl, hm⟩ := istup_of h1 h2
  exact PySem.wpAny_pyIter_tuple (items := items.toArray) hl (k _ _ _ (fun b o z => Heap.get?_push_of_some _ z) rfl rfl (Nat.le_refl _) (Heap.get?_push_size _ rfl) ⟨rfl, rfl⟩ itr_tup)

/-- assigning a loop's item to the frame's i-th name -/
theorem J_asg (i : Nat) {x : Str} {pos : Pos} {u : Value} {Q : Unit → PS → Prop} (h : Q () ⟨P.m.set i (abs u), P.H⟩) (hi : F.ns[i]? = some x := by rfl) : J c n F id (assign (.Name x pos) F.env u) P Q :=
  ⟨fun A s hr hp => wpAny_assign_Name ((J_store (n := n) hi h).go A s hr hp)⟩

/-! range -/
theorem nin_range (w : World) : nsIn (KW w) mainGlobals "range" = some none := by kernel_rfl
theorem boot_range : bootBuiltins "range" = some (.type "range") := by kernel_rfl
theorem JE_range {p pos : Pos} {e : Expr} {Q : AV → PS → Prop} (h : JE c n F e P fun v P1 => ∃ m, v = .int m ∧ ∀ r, gets c P1.H r = none → Q (.ref r) ⟨P1.m, upd P1.H r (.rng 0 m 1)⟩)
    (hx : F.env.kindOf "range" = some .globalImplicit := by rfl) (he : isStar e = false := by rfl) : JE c n F (.Call (.Name "range" p) [e] [] pos) P Q := by
  refine JE_type (nin_range c.w) boot_range (JL_cons (h.mono fun v P1 ⟨m, e1, e2⟩ => JL_nil fun us eu => ?_) (back_cons he)) (by decide) hx (by decide) (by rw [List.any_cons, he]; rfl)
  subst e1
  obtain ⟨u, rfl, ev⟩ := map1 eu
  obtain ⟨t, rfl⟩ := abs_int ev
  refine TH.J ⟨fun A s hr hp => call_range_1 ⟨_, hp.alloc (o := .rng 0 m 1) ⟨_, _, _, rfl⟩ rfl rfl rfl, HF.alloc rfl, e2 _ hp.free⟩⟩

/-- for over range(m) -/
theorem JS_ForRange {target e : Expr} {body orelse : List Stmt} {p pos' pos : Pos} {Q : AF → PS → Prop} (I : Nat → PS → Prop) (m : Nat) (hm : m < 2 ^ 60)
    (h : JE c n F e P fun v P1 => v = .int m ∧ I 0 P1)
    (step : ∀ k P, k < m → I k P → ∀ u, abs u = .int (k : Nat) → J c n F id (assign target F.env u) P fun _ P1 => JSS c n F body P1 (TurnF (I (k + 1)) Q))
    (done : ∀ P, I m P → JSS c n F orelse P Q)
    (hx : F.env.kindOf "range" = some .globalImplicit := by rfl) (he : isStar e = false := by rfl) : JS c n F (.For target (.Call (.Name "range" p) [e] [] pos') body orelse pos) P Q := by
  refine JS_For (JE_range (h.mono fun v P1 ⟨e1, e2⟩ => ⟨m, e1, fun r hr => ⟨upTo m, fun _ => True, fun k o => o = { cls := .type "range_iterator", dict := none, data := .fields #[rawInt k, rawInt (m - k : Int), rawInt 1], slots := #[] },
    I, fun vo eo A s hr hp Q' E k => ?_, fun _ _ _ => trivial, ⟨P1, MLe.refl _, HLe.upd (gets_H hr), e2⟩, fun k v P' hv hi u hu => ?_, fun P' hi => done P' (by rw [upTo_len] at hi; exact hi)⟩⟩) hx he) (by intro _; rfl)
  · obtain rfl := abs_ref eo
    obtain ⟨co, h1, t, u, v, rfl⟩ := hp.know r _ (upd_self ..)
    refine wpAny_pyIter_range h1 (small_one (by lia) (by lia) (by lia) (by lia)) (k _ _ _ (fun b o z => Heap.get?_push_of_some _ z) rfl rfl (Nat.le_refl _) (Heap.get?_push_size _ rfl) ?_ itr_range)
    rw [show Builtin.Range.rangeSize 0 m 1 = (m : Int) - (0 : Nat) by rw [rangeSize_one]; split <;> lia]
    rfl
  · obtain ⟨hk, rfl⟩ := upTo_get hv
    exact step k P' hk hi u hu
end
end Mine
end

-- part L7
section
open PySem PySem.W PySem.Calls PyProof.Rows PySem.SeqAt
set_option Elab.async false
set_option linter.unusedVariables false
set_option autoImplicit false
set_option maxRecDepth 100000
namespace Mine

section
variable {c : Cx} {n : Nat} {F : Fm} {P : PS}

/-! displays -/
noncomputable abbrev KList {ib : Bool} (c : CxB ib) (Q : AV → PS → Prop) : List AV → PS → Prop := fun vs P1 => vs.length ≤ 10000 ∧ ∀ r, gets c P1.H r = none → Q (.ref r) ⟨P1.m, upd P1.H r (.list vs)⟩
theorem JE_List {es : List Expr} {pos : Pos} {Q : AV → PS → Prop} (h : JL c n F pos es P (KList c Q)) : JE c n F (.List es pos) P Q :=
  ⟨fun A s hr hp => wpAny_List (h.on hr hp fun vs s1 P1 r1 f1 k1 => by
    refine ⟨by have := k1.1; rw [List.length_map] at this; rw [sizeLine_eq]; lia, ?_⟩
    obtain ⟨r2, f2⟩ := r1.ofH (r1.h.alloc (o := .list (vs.map abs)) (co := { cls := .type "list", data := .seq vs.toArray }) (s' := { s1 with heap := s1.heap.push { cls := .type "list", data := .seq vs.toArray } }) ⟨_, _, rfl, by simp⟩ rfl rfl rfl) (HF.alloc rfl)
    exact ⟨_, r2, f1.trans f2, k1.2 _ r1.h.free⟩)⟩
theorem JE_Tuple {es : List Expr} {k : Nat} {pos : Pos} {Q : AV → PS → Prop} (h : JL c n F pos es P fun vs P1 => vs.length ≤ 10000 ∧ ∀ r, gets c P1.H r = none → Q (.ref r) ⟨P1.m, upd P1.H r (.tup vs)⟩) : JE c n F (.Tuple es k pos) P Q :=
  ⟨fun A s hr hp => wpAny_Tuple (h.on hr hp fun vs s1 P1 r1 f1 k1 => by
    refine ⟨by have := k1.1; rw [List.length_map] at this; rw [sizeLine_eq]; lia, ?_⟩
    obtain ⟨r2, f2⟩ := r1.ofH (r1.h.alloc (o := .tup (vs.map abs)) (co := { cls := .type "tuple", data := .seq vs.toArray }) (s' := { s1 with heap := s1.heap.push { cls := .type "tuple", data := .seq vs.toArray } }) ⟨_, _, rfl, by simp⟩ rfl rfl rfl) (HF.alloc rfl)
    exact ⟨_, r2, f1.trans f2, k1.2 _ r1.h.free⟩)⟩

/-! lists put together -/
theorem J_concat {a b : Addr} {vs ws : List AV} {Q : AV → PS → Prop} (ea : gets c P.H a = some (.list vs)) (eb : gets c P.H b = some (.list ws)) (hz : vs.length + ws.length ≤ 10000)
    (h : ∀ r, gets c P.H r = none → Q (.ref r) ⟨P.m, upd P.H r (.list (vs ++ ws))⟩) : ∀ va vb, abs va = .ref a → abs vb = .ref b → J c n F abs (binaryOp .Add va vb) P Q := fun va vb e1 e2 => by
  obtain rfl := abs_ref e1; obtain rfl := abs_ref e2
  refine TH.J ⟨fun A s hr hp => ?_⟩
  obtain ⟨_, g1, i1, k1, rfl, rfl⟩ := hp.at ea
  obtain ⟨_, g2, i2, k2, rfl, rfl⟩ := hp.at eb
  simp only [List.length_map, Array.length_toList] at hz
  exact @PySem.P.add_list prg c.w A _ s a b i1 i2 k1 k2 _ g1 g2 ⟨_, hp.alloc (o := .list (i1.toList.map abs ++ i2.toList.map abs)) ⟨_, _, rfl, by simp⟩ rfl rfl rfl, HF.alloc rfl, h _ hp.free⟩ (by rw [sizeLine_eq]; lia)

theorem rep_one {x : Value} {k : Nat} : List.foldl (fun x1 x2 => x1 ++ x2) (#[] : Array Value) (List.replicate (if (#[x] : Array Value).isEmpty = true then 0 else k) #[x]) = (List.replicate k x).toArray := by
  have : ∀ (k : Nat) (acc : List Value), List.foldl (fun x1 x2 => x1 ++ x2) acc.toArray (List.replicate k #[x]) = (acc ++ List.replicate k x).toArray := by
    intro k
    induction k with
    | zero => intro acc; simp
    | succ k ih => intro acc; rw [List.replicate_succ, List.foldl_cons, show acc.toArray ++ #[x] = (acc ++ [x]).toArray by simp, ih, List.replicate_succ]; simp
  exact this k []
/-- [x] * k -/
theorem J_timesZ {a : Addr} {v : AV} {z : Int} {Q : AV → PS → Prop} (ea : gets c P.H a = some (.list [v])) (h0 : 0 ≤ z) (hz : z ≤ 10000)
    (h : ∀ r, gets c P.H r = none → Q (.ref r) ⟨P.m, upd P.H r (.list (List.replicate z.toNat v))⟩) : ∀ va vb, abs va = .ref a → abs vb = .int z → J c n F abs (binaryOp .Mult va vb) P Q := fun va vb e1 e2 => by
  obtain rfl := abs_ref e1; obtain ⟨u, rfl⟩ := abs_int e2
  refine TH.J ⟨fun A s hr hp => ?_⟩
  obtain ⟨_, g1, ⟨i1⟩, k1, rfl, hm⟩ := hp.at ea
  obtain ⟨x, e, rfl⟩ := map1 hm
  cases e
  refine wpAny_binaryOp_repeat_ref (T := "list") (U := "int") (by decide) ⟨_, g1, rfl⟩ (fun s' => typeIs_int s' z u) noFill_list_mul PySem.F.fills_int_mul PySem.F.slot_int_rmul repeat_list PySem.F.slot_int_index.lookup
    (call_meets PySem.F.slot_int_rmul (typeIs_int s z u) PySem.F.entry_int_rmul (PySem.F.args_int_rmul_2 _ _) (int___rmul___int_list z u a #[x] k1)
      ⟨g1, rfl, ⟨_, g1, rfl⟩, call_meets PySem.F.slot_list_mul ⟨_, g1, rfl⟩ PySem.F.entry_list_mul (PySem.F.args_list_mul_2 _ _)
        (AutoListH.list___mul___list_int_3 a #[x] k1 z u (by simp [Builtin.List.listFitsIndex]; lia) (by simp only [show (#[x] : Array Value).size = 1 from rfl]; lia) (by simp only [show (#[x] : Array Value).size = 1 from rfl]; simp [Builtin.List.listTooLong, sizeLine]; lia)) ⟨g1, ?_⟩⟩)
  rw [rep_one]
  exact ⟨_, hp.alloc (o := .list (List.replicate z.toNat (abs x))) ⟨_, _, rfl, by simp⟩ rfl rfl rfl, HF.alloc rfl, h _ hp.free⟩
theorem J_times {a : Addr} {v : AV} {k : Nat} {Q : AV → PS → Prop} (ea : gets c P.H a = some (.list [v])) (hz : k ≤ 10000)
    (h : ∀ r, gets c P.H r = none → Q (.ref r) ⟨P.m, upd P.H r (.list (List.replicate k v))⟩) : ∀ va vb, abs va = .ref a → abs vb = .int k → J c n F abs (binaryOp .Mult va vb) P Q :=
  J_timesZ ea (by lia) (by lia) h

/-! slices -/
theorem J_part {l u : Option Int} {vl vu : Value} {Q : AV → PS → Prop} (hl : IsPart vl l) (hu : IsPart vu u) (h : ∀ r, gets c P.H r = none → Q (.ref r) ⟨P.m, upd P.H r (.slc l u)⟩) :
    J c n F abs (newFields "slice" [vl, vu, .none]) P Q :=
  TH.J ⟨fun A s hr hp => wpAny_newObj_type ⟨_, hp.alloc (o := .slc l u) ⟨vl, vu, rfl, rfl, hl, hu⟩ rfl rfl rfl, HF.alloc rfl, h _ hp.free⟩⟩
theorem JE_SliceTo {e : Expr} {pos : Pos} {Q : AV → PS → Prop} (h : JE c n F e P fun v P1 => ∃ k : Int, v = .int k ∧ ∀ r, gets c P1.H r = none → Q (.ref r) ⟨P1.m, upd P1.H r (.slc none (some k))⟩) :
    JE c n F (.Slice none (some e) none pos) P Q := ⟨fun A s hr hp => by
  rw [arm_eval_Slice]
  refine wpAny_bind (wpAny_pure (wpAny_bind (wpAny_holding (h.on hr hp fun v s1 P1 r1 f1 k1 => wpAny_bind (wpAny_holding (wpAny_pure ?_))))))
  obtain ⟨k, e1, e2⟩ := k1
  obtain ⟨t, rfl⟩ := abs_int e1
  exact (J_part .none (.int k t) e2).on hr r1 fun v s2 P2 r2 f2 k2 => ⟨P2, r2, f1.trans f2, k2⟩⟩
theorem JE_SliceFrom {e : Expr} {pos : Pos} {Q : AV → PS → Prop} (h : JE c n F e P fun v P1 => ∃ k : Int, v = .int k ∧ ∀ r, gets c P1.H r = none → Q (.ref r) ⟨P1.m, upd P1.H r (.slc (some k) none)⟩) :
    JE c n F (.Slice (some e) none none pos) P Q := ⟨fun A s hr hp => by
  rw [arm_eval_Slice]
  refine wpAny_bind (h.on hr hp fun v s1 P1 r1 f1 k1 => wpAny_bind (wpAny_holding (wpAny_pure (wpAny_bind (wpAny_holding (wpAny_pure ?_))))))
  obtain ⟨k, e1, e2⟩ := k1
  obtain ⟨t, rfl⟩ := abs_int e1
  exact (J_part (.int k t) .none e2).on hr r1 fun v s2 P2 r2 f2 k2 => ⟨P2, r2, f1.trans f2, k2⟩⟩

theorem J_getSlice {a sl : Addr} {vs : List AV} {l u : Option Int} {Q : AV → PS → Prop} (ea : gets c P.H a = some (.list vs)) (es : P.H sl = some (.slc l u)) (hz : vs.length ≤ 10000)
    (h : ∀ r (items : Array Value), gets c P.H r = none → items.toList.map abs = vs → Q (.ref r) ⟨P.m, upd P.H r (.list ((slicePick items l u none).toList.map abs))⟩) :
    ∀ vi, abs vi = .ref sl → J c n F abs (getItem (.ref a) vi) P Q := fun vi ei => by
  obtain rfl := abs_ref ei
  refine TH.J ⟨fun A s hr hp => ?_⟩
  obtain ⟨_, g1, i1, k1, rfl, rfl⟩ := hp.at ea
  obtain ⟨_, g2, vl, vu, h1, h2, h3, h4⟩ := hp.know _ _ es
  simp only [List.length_map, Array.length_toList] at hz
  exact wpAny_getItem_list_slice (items := i1) ⟨_, g1, rfl, k1, rfl⟩ ⟨_, g2, h1, h2⟩ h3 h4 .none (by nofun)
    ⟨_, hp.alloc (o := .list ((slicePick i1 l u none).toList.map abs)) ⟨_, _, rfl, rfl⟩ rfl rfl rfl, HF.alloc rfl, h _ i1 hp.free rfl⟩ (by rw [sizeLine_eq]; lia)

/-- xs[:k] -/
theorem JE_upto {value e : Expr} {pos pos' : Pos} {Q : AV → PS → Prop}
    (h : JE c n F value P fun o P1 => JE c n F e P1 fun v P2 => ∃ (a : Addr) (vs : List AV) (k : Nat), o = .ref a ∧ v = .int k ∧ gets c P2.H a = some (.list vs) ∧ vs.length ≤ 10000 ∧ ∀ r, gets c P2.H r = none → Q (.ref r) ⟨P2.m, upd P2.H r (.list (vs.take k))⟩) :
    JE c n F (.Subscript value (.Slice none (some e) none pos') pos) P Q := by
  refine J.less (JE_Subscript (h.mono fun o P1 h1 => JE_SliceTo (J.mono h1 fun v P2 ⟨a, vs, k, e1, e2, e3, hz, e4⟩ => ⟨k, e2, fun sl hsl => ⟨a, .list vs, e1, gets_keep hsl e3, trivial,
    J_getSlice (gets_keep hsl e3) (upd_self ..) hz fun r items hr hi => ⟨⟨P2.m, upd P2.H r (.list (vs.take k))⟩, MLe.refl _, ?_, e4 r (gets_under hr).2⟩⟩⟩)))
  rw [slicePick_upto', List.map_take, hi]
  exact HLe.upd2 (gets_H hsl)
/-- xs[k:] -/
theorem JE_from {value e : Expr} {pos pos' : Pos} {Q : AV → PS → Prop}
    (h : JE c n F value P fun o P1 => JE c n F e P1 fun v P2 => ∃ (a : Addr) (vs : List AV) (k : Nat), o = .ref a ∧ v = .int k ∧ gets c P2.H a = some (.list vs) ∧ vs.length ≤ 10000 ∧ ∀ r, gets c P2.H r = none → Q (.ref r) ⟨P2.m, upd P2.H r (.list (vs.drop k))⟩) :
    JE c n F (.Subscript value (.Slice (some e) none none pos') pos) P Q := by
  refine J.less (JE_Subscript (h.mono fun o P1 h1 => JE_SliceFrom (J.mono h1 fun v P2 ⟨a, vs, k, e1, e2, e3, hz, e4⟩ => ⟨k, e2, fun sl hsl => ⟨a, .list vs, e1, gets_keep hsl e3, trivial,
    J_getSlice (gets_keep hsl e3) (upd_self ..) hz fun r items hr hi => ⟨⟨P2.m, upd P2.H r (.list (vs.drop k))⟩, MLe.refl _, ?_, e4 r (gets_under hr).2⟩⟩⟩)))
  rw [slicePick_from', List.map_drop, hi]
  exact HLe.upd2 (gets_H hsl)

/-! sorted, min, max -/
theorem nin_sorted (w : World) : nsIn (KW w) mainGlobals "sorted" = some none := by kernel_rfl
theorem boot_sorted : bootBuiltins "sorted" = some (.builtin "sorted") := by kernel_rfl
theorem ints_map : ∀ {vs : List Value} {ns : List Int}, IntsAre vs ns → vs.map abs = ns.map AV.int
  | _, _, .nil => rfl
  | _, _, .cons n t h => by rw [List.map_cons, List.map_cons, ints_map h]; rfl
theorem JE_sorted {p pos : Pos} {e : Expr} {Q : AV → PS → Prop}
    (h : JE c n F e P fun v P1 => ∃ (a : Addr) (ns : List Int), v = .ref a ∧ gets c P1.H a = some (.list (ns.map .int)) ∧ ns.length < 64 ∧ ∀ (r : Addr) (ns' : List Int), ns'.Perm ns → ns'.Pairwise (· ≤ ·) → gets c P1.H r = none → Q (.ref r) ⟨P1.m, upd P1.H r (.list (ns'.map .int))⟩)
    (hx : F.env.kindOf "sorted" = some .globalImplicit := by rfl) (he : isStar e = false := by rfl) : JE c n F (.Call (.Name "sorted" p) [e] [] pos) P Q := by
  refine JE_builtin (nin_sorted c.w) boot_sorted (JL_cons (h.mono fun v P1 ⟨a, ns, e1, e2, e3, e4⟩ => JL_nil fun us eu => ?_) (back_cons he)) (by decide) hx (by decide) (by rw [List.any_cons, he]; rfl)
  subst e1
  obtain ⟨u, rfl, ev⟩ := map1 eu
  obtain rfl := abs_ref ev
  refine TH.J ⟨fun A s hr hp => ?_⟩
  obtain ⟨co, h1, h2⟩ := hp.at e2
  obtain ⟨items, hl, hi⟩ := islist_of h1 h2
  have hlen : items.length = ns.length := by rw [← List.length_map (f := abs), hi, List.length_map]
  refine sorted_ints hl (intsAre_of hi) (by lia) fun out ns' a1 a2 a3 => ?_
  obtain ⟨e, he⟩ := sortedAll_at s.heap items out
  have free : gets c P1.H (s.heap.objs.size + 1) = none := by
    cases q : gets c P1.H (s.heap.objs.size + 1) with
    | none => rfl
    | some o => obtain ⟨co, z, _⟩ := hp.at q; exact absurd (Heap.lt_size z) (Nat.not_lt.mpr (Nat.le_succ _))
  have ext : ∀ b o, s.heap.get? b = some o → (sortedAll s.heap items out).get? b = some o := fun _ _ z => sortedAll_old z
  have hb : c.h₀.get? (s.heap.objs.size + 1) = none := by
    cases q : c.h₀.get? (s.heap.objs.size + 1) with
    | none => rfl
    | some o => exact absurd (Heap.lt_size (hp.base _ _ q).1) (Nat.not_lt.mpr (Nat.le_succ _))
  have hr2 := hp.ext (s' := { s with heap := sortedAll s.heap items out }) ext rfl rfl
  refine ⟨upd P1.H (s.heap.objs.size + 1) (.list (ns'.map .int)), ⟨fun b o z => ?_, fun b o z => ⟨(hr2.base b o z).1, ?_⟩, fun b o z => ?_, hr2.os, hr2.gens, hp.stk.ext fun b o z1 z2 _ => ⟨ext b o z1, ?_⟩⟩, HF.of fun b o z1 z2 => ⟨ext b o z1, ?_⟩, e4 _ ns' a2 a3 free⟩
  · by_cases q : b = s.heap.objs.size + 1
    · subst q; rw [upd_self] at z; cases z; exact ⟨_, he, _, _, rfl, ints_map a1⟩
    · rw [upd_ne _ _ q] at z; exact hr2.know b o z
  · rw [upd_ne _ _ (fun q => by subst q; rw [hb] at z; cases z)]; exact (hr2.base b o z).2
  · by_cases q : b = s.heap.objs.size + 1
    · subst q
      obtain ⟨og, es, ep, hg, _⟩ := c.g
      exact Nat.ne_of_gt (Nat.lt_succ_of_lt (Nat.lt_trans (by decide) (Heap.lt_size (hp.base _ _ hg).1)))
    · rw [upd_ne _ _ q] at z; exact hr2.hi b o z
  · rw [upd_ne _ _ (fun q => absurd (Heap.lt_size (q ▸ z1)) (Nat.not_lt.mpr (Nat.le_succ _)))]; exact z2
  · rw [upd_ne _ _ (fun q => absurd (Heap.lt_size (q ▸ z1)) (Nat.not_lt.mpr (Nat.le_succ _)))]; exact z2

theorem nin_min (w : World) : nsIn (KW w) mainGlobals "min" = some none := by kernel_rfl
theorem boot_min : bootBuiltins "min" = some (.builtin "min") := by kernel_rfl
theorem nin_max (w : World) : nsIn (KW w) mainGlobals "max" = some none := by kernel_rfl
theorem boot_max : bootBuiltins "max" = some (.builtin "max") := by kernel_rfl
theorem J_min {a b : Int} {Q : AV → PS → Prop} (h : Q (.int (if b < a then b else a)) P) : ∀ us, us.map abs = [.int a, .int b] → J c n F abs (call (.builtin "min") us) P Q := fun us eu => by
  obtain ⟨u, x, rfl, e1, e2⟩ := map2 eu
  obtain ⟨t, rfl⟩ := abs_int e1; obtain ⟨t', rfl⟩ := abs_int e2
  refine TH.J ⟨fun A s hr hp => min_two_ints (hr.1 rfl) fun h' tk ext => ⟨P.H, hp.ext ext rfl rfl, HF.ext ext, ?_⟩⟩
  split <;> rename_i q <;> simp only [q, if_true, if_false] at h <;> exact h
theorem J_max {a b : Int} {Q : AV → PS → Prop} (h : Q (.int (if b > a then b else a)) P) : ∀ us, us.map abs = [.int a, .int b] → J c n F abs (call (.builtin "max") us) P Q := fun us eu => by
  obtain ⟨u, x, rfl, e1, e2⟩ := map2 eu
  obtain ⟨t, rfl⟩ := abs_int e1; obtain ⟨t', rfl⟩ := abs_int e2
  refine TH.J ⟨fun A s hr hp => max_two_ints (hr.1 rfl) fun h' tk ext => ⟨P.H, hp.ext ext rfl rfl, HF.ext ext, ?_⟩⟩
  split <;> rename_i q <;> simp only [q, if_true, if_false] at h <;> exact h

/-- xs.index(k) -/
theorem J_index {a : Addr} {ns : List Int} {k : Int} {Q : AV → PS → Prop} (e : gets c P.H a = some (.list (ns.map .int))) (hz : ns.length ≤ 10000) (hk : k ∈ ns) (h : Q (.int (ns.idxOf k : Nat)) P) :
    ∀ us, us.map abs = [.int k] → J c n F abs (call (.builtin "list.index") (.ref a :: us)) P Q := fun us eu => by
  obtain ⟨u, rfl, ev⟩ := map1 eu
  obtain ⟨t, rfl⟩ := abs_int ev
  refine ⟨fun A s hr hp => ?_⟩
  obtain ⟨co, h1, h2⟩ := hp.h.at e
  obtain ⟨items, hl, hi⟩ := islist_of h1 h2
  obtain ⟨⟨cls, dd, data, sl⟩, ho, hc, m, hd⟩ := id hl
  simp only at hc hd
  subst hc hd
  have hI := intsAre_of hi
  have hlen := hI.length
  have hj : ns.idxOf k < ns.length := List.idxOf_lt_length_iff.mpr hk
  refine call_meets PySem.F.slot_list_index ⟨_, ho, rfl⟩ PySem.F.entry_list_index (PySem.F.args_list_index_2 _ _)
    (list_indexAt a items.toArray m dd sl (.int k t) (isInt k) (ns.idxOf k) (by simpa [hlen] using hj) (by lia) ?_ ?_) ⟨ho, fun y hy => (eq_isInt k t hI y (by simpa using hy)).at _ _, P, hp.toks _, FF.refl _ _ _, h⟩
  · show isInt k items[ns.idxOf k] = true
    rw [isInt_at k hI _ (by lia) hj]
    simpa using List.getElem_idxOf hj
  · intro j hjs hlt
    show isInt k items[j] = false
    rw [isInt_at k hI j (by simpa using hjs) (by lia)]
    exact ne_of_lt_idxOf hlt _
end
end Mine
end

-- part L8
section
open PySem PySem.W PySem.Calls PyProof.Rows
set_option Elab.async false
set_option linter.unusedVariables false
set_option autoImplicit false
set_option maxRecDepth 100000
namespace Mine
section
variable {c : Cx} {n : Nat} {F : Fm} {P : PS}

theorem J_iadd {a b : Int} {Q : AV → PS → Prop} (h : Q (.int (a + b)) P) : ∀ va vb, abs va = .int a → abs vb = .int b → J c n F abs (inplaceOp .Add va vb) P Q :=
  fun va vb ea eb => ⟨fun A s hr hp => by obtain ⟨t, rfl⟩ := abs_int ea; obtain ⟨u, rfl⟩ := abs_int eb; exact PySem.AutoIntOps.iadd_0 ⟨P, hp.toks _, FF.refl _ _ _, h⟩⟩
theorem J_isub {a b : Int} {Q : AV → PS → Prop} (h : Q (.int (a - b)) P) : ∀ va vb, abs va = .int a → abs vb = .int b → J c n F abs (inplaceOp .Sub va vb) P Q :=
  fun va vb ea eb => ⟨fun A s hr hp => by obtain ⟨t, rfl⟩ := abs_int ea; obtain ⟨u, rfl⟩ := abs_int eb; exact PySem.AutoIntOps.isub_0 ⟨P, hp.toks _, FF.refl _ _ _, h⟩⟩
theorem J_ior {a b : Int} {Q : AV → PS → Prop} (h : Q (.int (Builtin.bitOr a b)) P) : ∀ va vb, abs va = .int a → abs vb = .int b → J c n F abs (inplaceOp .BitOr va vb) P Q :=
  fun va vb ea eb => ⟨fun A s hr hp => by
    obtain ⟨t, rfl⟩ := abs_int ea; obtain ⟨u, rfl⟩ := abs_int eb
    exact wpAny_inplaceOp_same (op := .BitOr) (T := "int") (typeIs_int s a t) (typeIs_int s b u) PySem.F.noI_int_or fills_int_or slot_int_or (call_int_or ⟨P, hp.toks _, FF.refl _ _ _, h⟩)⟩

theorem JS_augItem {o i value : Expr} {tpos pos : Pos} {op : Operator} {Q : AF → PS → Prop}
    (h : JE c n F o P fun ov P1 => JE c n F i P1 fun iv P2 => ∀ vo vi, abs vo = ov → abs vi = iv → J c n F abs (getItem vo vi) P2 fun old P3 => JE c n F value P3 fun v P4 =>
      ∀ v1 v2, abs v1 = old → abs v2 = v → J c n F abs (inplaceOp op v1 v2) P4 fun new P5 => ∀ vn, abs vn = new → J c n F id (setItem vo vi vn) P5 fun _ P6 => Q .next P6)
    (hi : ∀ ov iv new, augStore i ov iv new = (do holding [new, ov, iv] (setItem ov iv new); release [new, ov, iv] []; pure .next) := by intros; rfl) : JS c n F (.AugAssign (.Subscript o i tpos) op value pos) P Q :=
  ⟨fun A s hr hp => wpAny_AugAssign_SubscriptAny (h.on hr hp fun vo s1 P1 r1 f1 k1 => J.on k1 hr r1 fun vi s2 P2 r2 f2 k2 => J.on (k2 vo vi rfl rfl) hr r2 fun vold s3 P3 r3 f3 k3 =>
    J.on k3 hr r3 fun v s4 P4 r4 f4 k4 => J.on (k4 vold v rfl rfl) hr r4 fun vn s5 P5 r5 f5 k5 => J.on (k5 vn rfl) hr r5 fun _ s6 P6 r6 f6 k6 =>
      ⟨P6, r6, ((((f1.trans f2).trans f3).trans f4).trans f5).trans f6, k6⟩) hi⟩
theorem JS_augAttr {o value : Expr} {attr : Str} {tpos pos : Pos} {op : Operator} {Q : AF → PS → Prop}
    (h : JE c n F o P fun ov P1 => ∀ vo, abs vo = ov → J c n F abs (getAttr vo attr true) P1 fun old P3 => JE c n F value P3 fun v P4 =>
      ∀ v1 v2, abs v1 = old → abs v2 = v → J c n F abs (inplaceOp op v1 v2) P4 fun new P5 => ∀ vn, abs vn = new → J c n F id (setAttr vo attr vn) P5 fun _ P6 => Q .next P6) : JS c n F (.AugAssign (.Attribute o attr tpos) op value pos) P Q :=
  ⟨fun A s hr hp => wpAny_AugAssign_AttributeAny (h.on hr hp fun vo s1 P1 r1 f1 k1 => J.on (k1 vo rfl) hr r1 fun vold s3 P3 r3 f3 k3 =>
    J.on k3 hr r3 fun v s4 P4 r4 f4 k4 => J.on (k4 vold v rfl rfl) hr r4 fun vn s5 P5 r5 f5 k5 => J.on (k5 vn rfl) hr r5 fun _ s6 P6 r6 f6 k6 =>
      ⟨P6, r6, (((f1.trans f3).trans f4).trans f5).trans f6, k6⟩)⟩

theorem JE_named {target value : Expr} {pos : Pos} {Q : AV → PS → Prop} (h : JE c n F value P fun v P1 => ∀ u, abs u = v → J c n F id (assign target F.env u) P1 fun _ P2 => Q v P2) : JE c n F (.NamedExpr target value pos) P Q :=
  ⟨fun A s hr hp => wpAny_NamedExpr (h.on hr hp fun v s1 P1 r1 f1 k1 => J.on (k1 v rfl) hr r1 fun _ s2 P2 r2 f2 k2 => ⟨P2, r2, f1.trans f2, k2⟩)⟩

theorem JS_two {t₁ t₂ value : Expr} {pos : Pos} {Q : AF → PS → Prop} (h : JE c n F value P fun v P1 => ∀ u, abs u = v → J c n F id (assign t₁ F.env u) P1 fun _ P2 => J c n F id (assign t₂ F.env u) P2 fun _ P3 => Q .next P3)
    (he : (assignEach [t₁, t₂] F.env).map (·.2) = [assign t₁ F.env, assign t₂ F.env] := by rfl)
    (hw : swappedStores [t₁, t₂] value F.env = pure none := by rfl) : JS c n F (.Assign [t₁, t₂] value pos) P Q :=
  ⟨fun A s hr hp => wpAny_Assign_two (h.on hr hp fun v s1 P1 r1 f1 k1 => J.on (k1 v rfl) hr r1 fun _ s2 P2 r2 f2 k2 => J.on k2 hr r2 fun _ s3 P3 r3 f3 k3 => ⟨P3, r3, (f1.trans f2).trans f3, k3⟩) he hw⟩

/-- a subscript as a target -/
theorem J_asgItem {o i : Expr} {pos : Pos} {u : Value} {Q : Unit → PS → Prop} (h : JE c n F o P fun ov P2 => JE c n F i P2 fun iv P3 => ∀ vo vi, abs vo = ov → abs vi = iv → J c n F id (setItem vo vi u) P3 Q) :
    J c n F id (assign (.Subscript o i pos) F.env u) P Q := ⟨fun A s hr hp => by
  rw [arm_assign_Subscript]
  refine wpAny_bind (wpAny_holding (h.on hr hp fun vo s1 P1 r1 f1 k1 => ?_))
  refine wpAny_bind (wpAny_holding (J.on k1 hr r1 fun vi s2 P2 r2 f2 k2 => ?_))
  refine wpAny_bind (wpAny_standAt (wpAny_bind (wpAny_holding (J.on (k2 vo vi rfl rfl) hr r2 fun _ s3 P3 r3 f3 k3 => ?_))))
  exact wpAny_release ⟨P3, r3, (f1.trans f2).trans f3, k3⟩⟩
theorem J_asgAttr {o : Expr} {attr : Str} {pos : Pos} {u : Value} {Q : Unit → PS → Prop} (h : JE c n F o P fun ov P2 => ∀ vo, abs vo = ov → J c n F id (setAttr vo attr u) P2 Q) :
    J c n F id (assign (.Attribute o attr pos) F.env u) P Q := ⟨fun A s hr hp => by
  rw [arm_assign_Attribute]
  refine wpAny_bind (wpAny_holding (h.on hr hp fun vo s1 P1 r1 f1 k1 => ?_))
  refine wpAny_bind (wpAny_standAt (wpAny_bind (wpAny_holding (J.on (k1 vo rfl) hr r1 fun _ s3 P3 r3 f3 k3 => ?_))))
  exact wpAny_release ⟨P3, r3, f1.trans f3, k3⟩⟩

/-! unpacking two -/
theorem unpackTwo {l : Addr} {x y : Value} {A : Around} {E : Value → Shared → Prop} {s : Shared} {Q : List Value → Shared → Prop} (hh : A.handled = none) (hl : s.heap.IsList l #[x, y])
    (hQ : ∀ h', Heap.ExtBut s.heap.objs.size s.heap h' → Q [x, y] { s with heap := h' }) : wpAny (M c) A (unpackItems (.ref l) 2 none) Q E s := by
  have hlt : l ≠ s.heap.objs.size := by obtain ⟨o, ho, _⟩ := hl; exact Nat.ne_of_lt (Heap.lt_size ho)
  unfold unpackItems
  refine wpAny_bind ?_
  unfold notIterableAtAll
  refine wpAny_bind (wpAny_specialOf hl.typeIs PySem.F.slot_list_iter.lookup (wpAny_pure ?_))
  simp only [Bool.false_eq_true, if_false]
  refine wpAny_bind (wpAny_holding (wpAny_pyIter_list hl ?_))
  have hl1 := hl.push { cls := .type "list_iterator", data := .fields #[.ref l, .int 0 0] }
  refine wpAny_bind (wpAny_holding (wpAny_bind (wpAny_pyNext_list_item (i := 0) ⟨_, Heap.get?_push_size _ rfl, rfl, rfl⟩ hl1 rfl fun h1 i1 s1 => ?_)))
  have hl2 := hl1.extBut s1.extBut hlt
  refine wpAny_bind (wpAny_holding (wpAny_bind (wpAny_pyNext_list_item (i := 1) i1 hl2 rfl fun h2 i2 s2 => ?_)))
  have hl3 := hl2.extBut s2.extBut hlt
  refine wpAny_bind (wpAny_holding (wpAny_pure (wpAny_pure (wpAny_pure ?_))))
  show wpAny _ _ (if 2 < 2 then _ else _) _ _ _
  rw [if_neg (by decide)]
  refine wpAny_bind (wpAny_holding (wpAny_pyNext_list_end hh i2 hl3 rfl fun h3 e3 => ?_))
  exact wpAny_pure (hQ h3 fun b o hb e => e3 b o hb (s2.extBut b o hb (s1.extBut b o hb (Heap.get?_push_of_some _ e))))
theorem unpackTwoT {l : Addr} {x y : Value} {A : Around} {E : Value → Shared → Prop} {s : Shared} {Q : List Value → Shared → Prop} (hh : A.handled = none) (hl : s.heap.IsTuple l #[x, y])
    (hQ : ∀ h', Heap.ExtBut s.heap.objs.size s.heap h' → Q [x, y] { s with heap := h' }) : wpAny (M c) A (unpackItems (.ref l) 2 none) Q E s :=
  PySem.wpAny_unpackItems_tuple (items := #[x, y]) hh hl hQ

theorem two_abs {items : List Value} {v w : AV} (h : items.map abs = [v, w]) : ∃ x y, items = [x, y] ∧ abs x = v ∧ abs y = w := by
  rcases items with _ | ⟨x, _ | ⟨y, _ | _⟩⟩ <;> simp at h
  exact ⟨x, y, rfl, h.1, h.2⟩

/-- a, b = a list or tuple of two -/
theorem J_asgTwo {e1 e2 : Expr} {k : Nat} {pos : Pos} {l : Addr} {v w : AV} {Q : Unit → PS → Prop} (h : gets c P.H l = some (.list [v, w]) ∨ gets c P.H l = some (.tup [v, w]))
    (hQ : ∀ x y, abs x = v → abs y = w → J c n F id (assign e1 F.env x) P fun _ P1 => J c n F id (assign e2 F.env y) P1 Q)
    (he : assignEach [e1, e2] F.env = [(false, assign e1 F.env), (false, assign e2 F.env)] := by rfl) :
    ∀ u, abs u = .ref l → J c n F id (assign (.Tuple [e1, e2] k pos) F.env u) P Q := fun u eu => ⟨fun A s hr hp => by
  obtain rfl := abs_ref eu
  rw [arm_assign_Tuple, he]
  refine wpAny_bind (wpAny_standAt ?_)
  unfold unpack
  have fin : ∀ x y, abs x = v → abs y = w → ∀ h', Heap.ExtBut s.heap.objs.size s.heap h' → wpAny (M c) A (assignInOrder [assign e1 F.env, assign e2 F.env] [x, y]) (fun v s' => ∃ P', Rep c F P' s' ∧ FF F P s s' P' ∧ Q (id v) P') (fun _ _ => False) { s with heap := h' } := by
    intro x y ex ey h' hx
    obtain ⟨r0, f0⟩ := hp.ofH (s' := { s with heap := h' }) (hp.h.ext (fun b o e => hx b o (Nat.ne_of_lt (Heap.lt_size e)) e) rfl rfl) (HF.ext fun b o e => hx b o (Nat.ne_of_lt (Heap.lt_size e)) e)
    refine wpAny_bind (wpAny_holding ((hQ x y ex ey).on hr r0 fun _ s1 P1 r1 f1 k1 => ?_))
    refine wpAny_bind (wpAny_holding (J.on k1 hr r1 fun _ s2 P2 r2 f2 k2 => wpAny_pure ⟨P2, r2, (f0.trans f1).trans f2, k2⟩))
  rcases h with h | h
  · obtain ⟨co, h1, h2⟩ := hp.h.at h
    obtain ⟨items, hl, hi⟩ := islist_of h1 h2
    obtain ⟨x, y, rfl, ex, ey⟩ := two_abs hi
    exact wpAny_bind (wpAny_holding (unpackTwo (hr.1 rfl) hl (fin x y ex ey)))
  · obtain ⟨co, h1, h2⟩ := hp.h.at h
    obtain ⟨items, hl, hi⟩ := istup_of h1 h2
    obtain ⟨x, y, rfl, ex, ey⟩ := two_abs hi
    exact wpAny_bind (wpAny_holding (unpackTwoT (hr.1 rfl) hl (fin x y ex ey)))⟩

/-- a, b = .. -/
theorem JS_pair {e1 e2 value : Expr} {k : Nat} {pos' pos : Pos} {Q : AF → PS → Prop} (h : JE c n F value P fun v P1 => ∀ u, abs u = v → J c n F id (assign (.Tuple [e1, e2] k pos') F.env u) P1 fun _ P2 => Q .next P2)
    (hs : swapsWithSole [.Tuple [e1, e2] k pos'] value pos.line F.env = pure false := by rfl) (hw : swappedStores [.Tuple [e1, e2] k pos'] value F.env = pure none := by rfl)
    (he : (assignEach [.Tuple [e1, e2] k pos'] F.env).map (·.2) = [assign (.Tuple [e1, e2] k pos') F.env] := by rfl) : JS c n F (.Assign [.Tuple [e1, e2] k pos'] value pos) P Q :=
  ⟨fun A s hr hp => wpAny_Assign_stores (h.on hr hp fun v s1 P1 r1 f1 k1 => by
    rw [he]
    exact (k1 v rfl).on hr r1 fun _ s2 P2 r2 f2 k2 => ⟨P2, r2, f1.trans f2, k2⟩) hs hw⟩
end
end Mine
end

-- part L9
section
open PySem PySem.W PySem.Calls PyProof.Rows
set_option Elab.async false
set_option linter.unusedVariables false
set_option autoImplicit false
set_option maxRecDepth 100000
namespace Mine

noncomputable def dset (es : List (Int × AV)) (k : Int) (v : AV) : List (Int × AV) := if es.any (fun kv => kv.1 = k) then es.map (fun kv => if kv.1 = k then (kv.1, v) else kv) else es ++ [(k, v)]
noncomputable def ddel (es : List (Int × AV)) (k : Int) : List (Int × AV) := es.filter fun kv => decide (kv.1 ≠ k)
theorem dset_map (kvs : List (Int × Value)) (k : Int) (v : Value) : (stored kvs k v).map (fun p => (p.1, abs p.2)) = dset (kvs.map (fun p => (p.1, abs p.2))) k (abs v) := by
  unfold stored dset
  rw [List.any_map]
  show _ = if (kvs.any fun kv => decide (kv.1 = k)) = true then _ else _
  split
  · rw [List.map_map, List.map_map]; congr 1; funext p; simp only [Function.comp]; split <;> rfl
  · rw [List.map_append]; rfl
theorem ddel_map (kvs : List (Int × Value)) (k : Int) : (without kvs k).map (fun p => (p.1, abs p.2)) = ddel (kvs.map (fun p => (p.1, abs p.2))) k := by
  unfold without ddel; rw [List.filter_map]; rfl

section
variable {c : Cx} {n : Nat} {F : Fm} {P : PS}

theorem ois_dict {w : World} {h : Heap} {a : Addr} {kvs : List (Int × Value)} (m : h.DictOf (intKind prg w) a kvs) : ∃ co ep, h.get? a = some co ∧ OIs w (.dict (kvs.map (fun p => (p.1, abs p.2))) ep) co := by
  obtain ⟨o, es, ep, h1, h2, h3, h4, h5, h6⟩ := m
  exact ⟨o, ep, h1, es, kvs, h2, h3, h4, h5, h6, rfl⟩
theorem isK {ib : Bool} {c : CxB ib} (i : Int) (t : Tok) : (intKind prg c.w).is i (.int i t) = true := by simp [intKind, Value.isInt]

/-- {} -/
theorem JE_dict0 {pos : Pos} {Q : AV → PS → Prop} (h : ∀ r, gets c P.H r = none → Q (.ref r) ⟨P.m, upd P.H r (.dict [] 0)⟩) : JE c n F (.Dict [] [] pos) P Q :=
  TH.J ⟨fun A s hr hp => wpAny_Dict_empty ⟨_, hp.alloc (o := .dict [] 0) ⟨#[], [], ⟨rfl, rfl, rfl⟩, rfl, fun e he => by simp at he, .nil, List.nodup_nil, rfl⟩ rfl rfl rfl, HF.alloc rfl, h _ hp.free⟩⟩

/-- d[k] = v -/
theorem J_setDict {a : Addr} {es : List (Int × AV)} {ep : Nat} {i : Int} {v : AV} {Q : Unit → PS → Prop} (e : P.H a = some (.dict es ep)) (hz : es.length ≤ 10000)
    (h : ∀ ep', Q () ⟨P.m, upd P.H a (.dict (dset es i v) ep')⟩) : ∀ vv vo vi, abs vv = v → abs vo = .ref a → abs vi = .int i → J c n F id (setItem vo vi vv) P Q := fun vv vo vi ev eo ei => by
  obtain rfl := abs_ref eo
  obtain ⟨t, rfl⟩ := abs_int ei
  subst ev
  refine TH.J ⟨fun A s hr hp => ?_⟩
  obtain ⟨co, g1, g2⟩ := hp.know a _ e
  obtain ⟨kvs, hd, rfl⟩ := dictAt_of g1 g2
  refine wpAny_setItem_pairs (isK i t) hd.dictOf (fun h' hm hs => ?_) (by rw [sizeLine_eq]; simp only [List.length_map] at hz; lia)
  obtain ⟨co', ep', k1, k2⟩ := ois_dict hm
  rw [dset_map] at k2
  exact ⟨_, (hp.change e hs k1 k2 rfl rfl : HRep c _ { s with heap := h' }).toks _, HF.change e hs, h ep'⟩

/-- d.get(k) -/
theorem J_getDict {a : Addr} {es : List (Int × AV)} {ep : Nat} {i : Int} {Q : AV → PS → Prop} (e : P.H a = some (.dict es ep)) (h : Q ((es.lookup i).getD .none) P) :
    ∀ us, us.map abs = [.int i] → J c n F abs (call (.builtin "dict.get") (.ref a :: us)) P Q := fun us eu => by
  obtain ⟨u, rfl, ev⟩ := map1 eu
  obtain ⟨t, rfl⟩ := abs_int ev
  refine ⟨fun A s hr hp => ?_⟩
  obtain ⟨co, g1, g2⟩ := hp.h.know a _ e
  obtain ⟨kvs, hd, rfl⟩ := dictAt_of g1 g2
  refine call_meetsIn PySem.F.slot_dict_get hd.dictOf.typeIs PySem.F.entry_dict_get (PySem.F.args_dict_get_2 _ _) (meets_dict_get (intKind prg c.w) a (isK i t) (beq_eq_false_iff_ne.mpr (hp.h.hi _ _ e))) ⟨_, hd.dictOf.mapOf, ?_⟩
  refine ⟨P, hp.toks _, FF.refl _ _ _, ?_⟩
  rw [← ents_find] at h
  cases q : valueAt kvs i <;> rw [q] at h <;> exact h

/-- {k: v} -/
theorem JE_dict1 {k v : Expr} {pos : Pos} {Q : AV → PS → Prop} (h : ∀ r, gets c P.H r = none → JE c n F k ⟨P.m, upd P.H r (.dict [] 0)⟩ fun kv P1 => JE c n F v P1 fun vv P2 => ∃ i, kv = .int i ∧ P2.H r = some (.dict [] 0) ∧ ∀ ep', Q (.ref r) ⟨P2.m, upd P2.H r (.dict [(i, vv)] ep')⟩) :
    JE c n F (.Dict [some k] [v] pos) P Q := ⟨fun A s hr hp => by
  refine wpAny_Dict_pairs (knd := intKind prg c.w) (pairs := [(eval k F.env, do let x ← eval v F.env; standAt pos; pure x)]) rfl (by simp) (by simp) ?_
  have R0 := hp.ofH (hp.h.alloc (o := .dict [] 0) (s' := { s with heap := s.heap.push { cls := .type "dict", data := .dict #[] } }) ⟨#[], [], ⟨rfl, rfl, rfl⟩, rfl, fun e he => by simp at he, .nil, List.nodup_nil, rfl⟩ rfl rfl rfl) (HF.alloc rfl)
  refine wpAny_bind ((h _ hp.h.free).on hr R0.1 fun kv s1 P1 r1 f1 k1 => ?_)
  refine wpAny_bind (wpAny_holding (wpAny_bind (J.on k1 hr r1 fun vv s2 P2 r2 f2 k2 => wpAny_bind (wpAny_standAt (wpAny_pure ?_)))))
  obtain ⟨i, e1, e2, e3⟩ := k2
  obtain ⟨t, rfl⟩ := abs_int e1
  obtain ⟨co, g1, g2⟩ := r2.h.know _ _ e2
  obtain ⟨kvs, hd, hk⟩ := dictAt_of g1 g2
  obtain rfl := List.map_eq_nil_iff.mp hk
  refine wpAny_bind (wpAny_holding (wpAny_pure (wpAny_pure ⟨[(i, vv)], ?_, hd.dictOf, fun h' hm hs => ?_⟩)))
  · exact ⟨isK i t, rfl, trivial⟩
  · obtain ⟨co', ep', z1, z2⟩ := ois_dict hm
    have R := r2.ofH ((r2.h.change e2 hs z1 z2 rfl rfl : HRep c _ { s2 with heap := h' }).toks (s2.toks + 1)) (HF.change e2 hs)
    exact ⟨_, R.1, ((R0.2.trans f1).trans f2).trans R.2, e3 ep'⟩⟩

/-! the keys of a dict -/
theorem itr_keys {d it : Addr} {es : List (Int × AV)} {ep : Nat} : Itr c n it (es.map fun p => AV.int p.1) (fun H => H d = some (.dict es ep))
    (fun k o => o.cls = .type "dict_keyiterator" ∧ o.data = .fields #[.ref d, .int k 0, .int es.length 0, .int ep 0]) where
  item := fun {A s H k o v} hr hp hK ho hC hv {Q' E} h => by
    obtain ⟨co, h1, h2⟩ := hp.know _ _ hK
    obtain ⟨kvs, hd, rfl⟩ := dictAt_of h1 h2
    rw [List.getElem?_map, List.getElem?_map] at hv
    obtain ⟨y, hy, rfl⟩ := Option.map_eq_some_iff.mp hv
    obtain ⟨⟨i, x⟩, hx, rfl⟩ := Option.map_eq_some_iff.mp hy
    rw [List.length_map] at hC
    refine wpAny_pyNext_dict_item ⟨o, ho, hC⟩ hd hx fun key h' hkey ⟨o', z1, z2⟩ hs => ?_
    obtain ⟨t, rfl⟩ := Value.isInt_shape hkey
    exact h _ h' o' s.toks rfl hs z1 (by rw [List.length_map]; exact z2)
  fin := fun {A s H k o} hr hp hK ho hC hv {Q' E} h => by
    obtain ⟨co, h1, h2⟩ := hp.know _ _ hK
    obtain ⟨kvs, hd, rfl⟩ := dictAt_of h1 h2
    rw [List.length_map] at hC
    exact wpAny_pyNext_dict_end (hr.1 rfl) ⟨o, ho, hC⟩ hd (by simpa using hv) h
  plain := fun k o h => ⟨_, h.1, by decide⟩
  nd := fun k o h => ⟨_, h.2⟩

/-- for over a dict -/
theorem JS_ForDict {target iter : Expr} {body orelse : List Stmt} {pos : Pos} {Q : AF → PS → Prop}
    (h : JE c n F iter P fun o P1 => ∃ (d : Addr) (es : List (Int × AV)) (ep : Nat) (I : Nat → PS → Prop), o = .ref d ∧ (∃ P2, MLe P2.m P1.m ∧ HLe P2.H P1.H ∧ I 0 P2) ∧ (∀ k P, I k P → P.H d = some (.dict es ep)) ∧
      (∀ k i v P, es[k]? = some (i, v) → I k P → ∀ u, abs u = .int i → J c n F id (assign target F.env u) P fun _ P1 => JSS c n F body P1 (TurnF (I (k + 1)) Q)) ∧ (∀ P, I es.length P → JSS c n F orelse P Q))
    (hs : ∀ x, foldedSetIterable iter F.env x = pure x := by intro _; rfl) : JS c n F (.For target iter body orelse pos) P Q := by
  refine JS_For (h.mono fun o P1 ⟨d, es, ep, I, e1, e3, hK, step, done⟩ => ⟨es.map fun p => AV.int p.1, fun H => H d = some (.dict es ep), fun k o => o.cls = .type "dict_keyiterator" ∧ o.data = .fields #[.ref d, .int k 0, .int es.length 0, .int ep 0], I, fun vo eo A s hr hp Q' E k => ?_, hK, e3, fun k v P hv hi => ?_, fun P hi => done P (by rw [List.length_map] at hi; exact hi)⟩) hs
  · obtain rfl := abs_ref (eo.trans e1)
    obtain ⟨P2, l1, l2, i0⟩ := e3
    obtain ⟨co, h1, h2⟩ := (hp.le l2).know _ _ (hK 0 P2 i0)
    obtain ⟨kvs, hd, hm⟩ := dictAt_of h1 h2
    refine wpAny_pyIter_dict (beq_eq_false_iff_ne.mpr ((hp.le l2).hi _ _ (hK 0 P2 i0))) hd (k _ _ _ (fun b o z => Heap.get?_push_of_some _ z) rfl rfl (Nat.le_refl _) (Heap.get?_push_size _ rfl) ⟨rfl, ?_⟩ itr_keys)
    rw [← hm, List.length_map]; rfl
  · rw [List.getElem?_map] at hv
    obtain ⟨⟨i, x⟩, hx, rfl⟩ := Option.map_eq_some_iff.mp hv
    exact step k i x P hx hi

/-! sets -/
theorem nin_set (w : World) : nsIn (KW w) mainGlobals "set" = some none := by kernel_rfl
theorem boot_set : bootBuiltins "set" = some (.type "set") := by kernel_rfl
theorem JE_set0 {p pos : Pos} {Q : AV → PS → Prop} (h : ∀ r, gets c P.H r = none → Q (.ref r) ⟨P.m, upd P.H r (.set [])⟩) (hx : F.env.kindOf "set" = some .globalImplicit := by rfl) : JE c n F (.Call (.Name "set" p) [] [] pos) P Q := by
  refine JE_type (nin_set c.w) boot_set (JL_nil fun us eu => ?_) (by decide) hx (by decide) rfl
  obtain rfl := List.map_eq_nil_iff.mp eu
  refine TH.J ⟨fun A s hr hp => call_set_0 fun led => ⟨_, hp.alloc (o := .set []) ⟨#[], 0, _, ⟨rfl, rfl, rfl⟩, rfl, ?_, fun k => by simp, by decide, ?_, rfl⟩ rfl rfl rfl, HF.alloc rfl, h _ hp.free⟩⟩
  · intro e he; simp at he
  · cases led <;> rfl
theorem J_setAdd {a : Addr} {xs : List Int} {i : Int} {Q : AV → PS → Prop} (e : P.H a = some (.set xs)) (hz : xs.length ≤ 1000) (hn : i ∉ xs) (h : Q .none ⟨P.m, upd P.H a (.set (i :: xs))⟩) :
    ∀ us, us.map abs = [.int i] → J c n F abs (call (.builtin "set.add") (.ref a :: us)) P Q := fun us eu => by
  obtain ⟨u, rfl, ev⟩ := map1 eu
  obtain ⟨t, rfl⟩ := abs_int ev
  refine TH.J ⟨fun A s hr hp => ?_⟩
  obtain ⟨co, g1, g2⟩ := hp.know a _ e
  refine call_set_add (isK i t) rfl (set_of g1 g2) (by show xs.length + 1 < 4096; lia) fun h' hs hS => ?_
  obtain ⟨o, es, ep, tb, k1, k2, k3, k4, k5, k6, k7, k8⟩ := hS
  rw [if_neg (by simpa using hn)] at k8
  exact ⟨_, (hp.change e hs k1 (o' := .set (i :: xs)) ⟨es, ep, tb, k2, k3, k4, fun k => by rw [← k5]; simp [or_comm], k6, k7, k8⟩ rfl rfl : HRep c _ { s with heap := h' }).toks _, HF.change e hs, h⟩
end
section
variable {ib : Bool} {c : CxB ib} {n : Nat} {F : Fm} {P : PS}
/-- del d[k] -/
theorem JS_delDict {o i : Expr} {pos' pos : Pos} {Q : AF → PS → Prop}
    (h : JE c n F o P fun ov P1 => JE c n F i P1 fun iv P2 => ∃ a es ep k, ov = .ref a ∧ iv = .int k ∧ P2.H a = some (.dict es ep) ∧ (es.lookup k).isSome = true ∧ es.length ≤ 10000 ∧ ∀ ep', Q .next ⟨P2.m, upd P2.H a (.dict (ddel es k) ep')⟩) :
    JS c n F (.Delete [.Subscript o i pos'] pos) P Q := ⟨fun A s hr hp => by
  refine wpAny_Delete ?_
  show wpAny _ _ (delete (.Subscript o i pos') F.env >>= fun _ => _) _ _ s
  refine wpAny_bind (delete_Subscript (h.on hr hp fun vo s1 P1 r1 f1 k1 => J.on k1 hr r1 fun vi s2 P2 r2 f2 k2 => ?_))
  obtain ⟨a, es, ep, k, e1, e2, e3, e4, e5, e6⟩ := k2
  obtain rfl := abs_ref e1
  obtain ⟨t, rfl⟩ := abs_int e2
  obtain ⟨co, g1, g2⟩ := r2.h.know a _ e3
  obtain ⟨kvs, hd, rfl⟩ := dictAt_of g1 g2
  have hD := hd.dictOf
  rw [← ents_find, Option.isSome_map] at e4
  unfold delItem
  try with_reducible refine wpAny_holding ?_
  refine wpAny_bind (wpAny_sequenceKey hD.typeIs (by decide) ?_)
  refine wpAny_bind (wpAny_callSpecial?_slot (name := Str.ofString "__delitem__") hD.typeIs PySem.F.slot_dict_delitem
    (call_meetsIn PySem.F.slot_dict_delitem hD.typeIs PySem.F.entry_dict_delitem (PySem.F.args_dict_delitem_2 _ _) (meets_dict_delitem_pairs (intKind prg c.w) a (isK k t)) ⟨kvs, hD, (by rw [sizeLine_eq]; simp only [List.length_map] at e5; lia), e4, fun h' hmm hs => ?_⟩))
  obtain ⟨co', ep', k1, k2⟩ := ois_dict hmm
  rw [ddel_map] at k2
  have R := r2.ofH ((r2.h.change e3 hs k1 k2 rfl rfl : HRep c _ { s2 with heap := h' }).toks (s2.toks + 1)) (HF.change e3 hs)
  exact wpAny_pure (wpAny_pure ⟨_, R.1, (f1.trans f2).trans R.2, e6 ep'⟩)⟩

end
end Mine
end

-- part L10
section
open PySem PySem.W PySem.Calls PyProof.Rows PySem.Builtin PySem.Builtin.ObjectAttr PySem.Builtin.Getset_descriptor
set_option Elab.async false
set_option linter.unusedVariables false
set_option autoImplicit false
set_option maxRecDepth 100000
namespace Mine

/-! attributes -/
theorem lookIn_of {o : Obj} {ents : Array DictEntry} {n : Nat} {x : Str} (hd : o.data = .dict ents n) (hk : StrKeys ents) : lookIn x o = some (nsFind ents x) := by
  unfold lookIn
  rw [hd]
  dsimp only
  rw [Array.find?_toList]
  unfold nsFind findBy
  cases q : ents.find? (fun e => e.key.isStr x) with
  | some e => rfl
  | none =>
    have : ents.toList.any (·.refKey) = false := by
      rw [Array.any_toList, Array.any_eq_false']; intro e he; obtain ⟨k, t, h⟩ := hk e he; simp [DictEntry.refKey, h]
    simp [this]

theorem pg137 (w : World) : findIn (KW w) (.ref 137) "__getattribute__" = some (some (.builtin "object.__getattribute__")) := by kernel_rfl
theorem pk137 (w : World) : findIn (KW w) (.ref 137) "__getattr__" = some none := by kernel_rfl
theorem pg40 (w : World) : findIn (KW w) (.ref 40) "__getattribute__" = some (some (.builtin "object.__getattribute__")) := by kernel_rfl
theorem pk40 (w : World) : findIn (KW w) (.ref 40) "__getattr__" = some none := by kernel_rfl
theorem ps137 (w : World) : findIn (KW w) (.ref 137) "__setattr__" = some (some (.builtin "object.__setattr__")) := by kernel_rfl
theorem ps40 (w : World) : findIn (KW w) (.ref 40) "__setattr__" = some (some (.builtin "object.__setattr__")) := by kernel_rfl
theorem po137 (w : World) : plainOver (KW w) 137 = true := by kernel_rfl
theorem po40 (w : World) : plainOver (KW w) 40 = true := by kernel_rfl
theorem hd137 (w : World) : hasDictIn (KW w) 137 = true := by kernel_rfl
theorem hh137 (w : World) : (clsIn (KW w) 137).any (·.hasDict) = true := by kernel_rfl
theorem fo1 (w : World) (od : Obj) : findObj (KW w) 40 (some od) "node" = some (.bind (.builtin "member_descriptor.__get__") (.ref 41)) := by kernel_rfl
theorem fo2 (w : World) (od : Obj) : findObj (KW w) 40 (some od) "npredecessors" = some (.bind (.builtin "member_descriptor.__get__") (.ref 42)) := by kernel_rfl
theorem fo3 (w : World) (od : Obj) : findObj (KW w) 40 (some od) "successors" = some (.bind (.builtin "member_descriptor.__get__") (.ref 43)) := by kernel_rfl
theorem ft1 (w : World) : takerIn (KW w) 40 "node" = some (some (.ref 41)) := by kernel_rfl
theorem ft2 (w : World) : takerIn (KW w) 40 "npredecessors" = some (some (.ref 42)) := by kernel_rfl
theorem ft3 (w : World) : takerIn (KW w) 40 "successors" = some (some (.ref 43)) := by kernel_rfl
theorem sl1 (w : World) : slotIn (KW w) 41 40 = some 0 := by kernel_rfl
theorem sl2 (w : World) : slotIn (KW w) 42 40 = some 1 := by kernel_rfl
theorem sl3 (w : World) : slotIn (KW w) 43 40 = some 2 := by kernel_rfl
theorem ty1 (w : World) : typeIn (KW w) (.ref 41) = some (.type "member_descriptor") := by kernel_rfl
theorem ty2 (w : World) : typeIn (KW w) (.ref 42) = some (.type "member_descriptor") := by kernel_rfl
theorem ty3 (w : World) : typeIn (KW w) (.ref 43) = some (.type "member_descriptor") := by kernel_rfl

/-- an attribute set -/
noncomputable def fset : List (Str × AV) → Str → AV → List (Str × AV)
  | [], x, v => [(x, v)]
  | (y, w) :: r, x, v => if x = y then (y, v) :: r else (y, w) :: fset r x v
theorem look_fset : ∀ (fs : List (Str × AV)) (x y : Str) (v : AV), look (fset fs x v) y = if y = x then some v else look fs y
  | [], x, y, v => rfl
  | (z, w) :: r, x, y, v => by
    unfold fset
    by_cases q : x = z
    · subst q; rw [if_pos rfl]; show (if y = x then some v else look r y) = if y = x then some v else (if y = x then some w else look r y); split <;> rfl
    · rw [if_neg q]
      show (if y = z then some w else look (fset r x v) y) = if y = x then some v else (if y = z then some w else look r y)
      rw [look_fset r x y v]
      by_cases p : y = z
      · subst p; rw [if_pos rfl, if_neg (fun e => q e.symm), if_pos rfl]
      · rw [if_neg p, if_neg p]

theorem fset_len (fs : List (Str × AV)) (x : Str) (v : AV) : (fset fs x v).length ≤ fs.length + 1 := by
  induction fs with
  | nil => exact Nat.le_refl _
  | cons p r ih => obtain ⟨y, w⟩ := p; unfold fset; split <;> simp <;> lia
theorem look_mem : ∀ {fs : List (Str × AV)} {x : Str} {v : AV}, look fs x = some v → x ∈ fs.map (·.1)
  | [], _, _, h => by cases h
  | (y, w) :: r, x, v, h => by
    unfold look at h
    split at h
    · rename_i e; subst e; simp
    · exact List.mem_cons_of_mem _ (look_mem h)
theorem nodup_len {α : Type} [DecidableEq α] : ∀ {l m : List α}, l.Nodup → (∀ x ∈ l, x ∈ m) → l.length ≤ m.length
  | [], m, _, _ => Nat.zero_le _
  | x :: l, m, hn, hs => by
    rw [List.nodup_cons] at hn
    have h1 : x ∈ m := hs x (by simp)
    have := nodup_len (l := l) (m := m.erase x) hn.2 fun y hy => (List.mem_erase_of_ne (fun e : y = x => hn.1 (e ▸ hy))).mpr (hs y (by simp [hy]))
    rw [List.length_erase_of_mem h1] at this
    have : 0 < m.length := List.length_pos_of_mem h1
    simp; lia
theorem keys_of : ∀ {l : List DictEntry}, (∀ e ∈ l, ∃ k t, e.key = .str k t) → l.Pairwise (fun a b => ∀ n, a.key.isStr n = true → b.key.isStr n = true → False) →
    ∃ ks : List Str, ks.length = l.length ∧ ks.Nodup ∧ ∀ k ∈ ks, ∃ e ∈ l, e.key.isStr k = true
  | [], _, _ => ⟨[], rfl, List.nodup_nil, nofun⟩
  | e :: l, h, hp => by
    rw [List.pairwise_cons] at hp
    obtain ⟨k, t, hk⟩ := h e (by simp)
    obtain ⟨ks, h1, h2, h3⟩ := keys_of (fun e he => h e (by simp [he])) hp.2
    refine ⟨k :: ks, by simp [h1], List.nodup_cons.mpr ⟨fun hm => ?_, h2⟩, fun x hx => ?_⟩
    · obtain ⟨e', he', hk'⟩ := h3 k hm
      exact hp.1 e' he' k (by rw [hk]; simp [Value.isStr]) hk'
    · rcases List.mem_cons.mp hx with rfl | hx
      · exact ⟨e, by simp, by rw [hk]; simp [Value.isStr]⟩
      · obtain ⟨e', he', hk'⟩ := h3 x hx; exact ⟨e', by simp [he'], hk'⟩
theorem attrs_len {w : World} {fs : List (Str × AV)} {o : Obj} {ents : Array DictEntry} {n : Nat} (h : OIs w (.attrs fs) o) (hd : o.data = .dict ents n) : ents.size ≤ fs.length := by
  obtain ⟨ents', n', h1, h2, h3, h4⟩ := h
  rw [hd] at h1
  cases h1
  obtain ⟨ks, e1, e2, e3⟩ := keys_of (l := ents.toList) (fun e he => h2 e (by simpa using he)) h3
  have := nodup_len (m := fs.map (·.1)) e2 fun k hk => by
    obtain ⟨e, he, hs⟩ := e3 k hk
    have : (nsFind ents k).isSome := by
      unfold nsFind findBy
      rw [Option.isSome_map, Array.find?_isSome]
      exact ⟨e, by simpa using he, hs⟩
    obtain ⟨v, hv⟩ := Option.isSome_iff_exists.mp this
    have := h4 k
    rw [hv] at this
    exact look_mem this.symm
  simp only [List.length_map, e1] at this
  simpa using this

theorem handed {v : Value} {r : AV} (h : abs v = r) (hr : r ≠ .other) : handedIn v = true := by
  subst h
  cases v <;> first | rfl | exact absurd rfl hr

theorem slot_join {v : Array (Option Value)} {vs : List AV} {i : Nat} {r : AV} (hm : v.toList.map (·.map abs) = vs.map some) (hi : vs[i]? = some r) : ∃ x, (v[i]?).join = some x ∧ abs x = r := by
  have h2 : (v.toList.map (·.map abs))[i]? = some (some r) := by rw [hm, List.getElem?_map, hi]; rfl
  rw [List.getElem?_map, Array.getElem?_toList] at h2
  obtain ⟨y, h3, h4⟩ := Option.map_eq_some_iff.mp h2
  obtain ⟨x, rfl, h5⟩ := Option.map_eq_some_iff.mp h4
  exact ⟨x, by rw [h3]; rfl, h5⟩

section
variable {c : Cx} {n : Nat} {F : Fm} {P : PS}

/-- an attribute of the sorter -/
theorem J_getOwn {a d : Addr} {fs : List (Str × AV)} {x : Str} {r : AV} {ex : Bool} {Q : AV → PS → Prop} (h1 : P.H a = some (.inst 137 d)) (h2 : P.H d = some (.attrs fs)) (hx : look fs x = some r) (ho : r ≠ .other)
    (hf : findIn (KW c.w) (.ref 137) x = some none) (hq : Q r P) : ∀ vo, abs vo = .ref a → J c n F abs (getAttr vo x ex) P Q := fun vo eo => ⟨fun A s hr hp => by
  obtain rfl := abs_ref eo
  obtain ⟨co, g1, rfl⟩ := hp.h.know _ _ h1
  obtain ⟨cd, d1, ents, k, hd, hk, hu, hl⟩ := hp.h.know _ _ h2
  rw [← hl] at hx
  obtain ⟨v, hv, rfl⟩ := Option.map_eq_some_iff.mp hx
  exact get_value (od := some cd) hp.h.K (C := 137) ⟨g1, rfl, rfl, d1⟩ (pg137 _) (findObj_own (hd137 _) hf rfl (by rw [lookIn_of hd hk, hv])) (handed rfl ho) ⟨P, hp.toks _, FF.refl _ _ _, hq⟩⟩

/-- a slot of a node -/
theorem J_getSlot {a p i d : Addr} {vs : List AV} {fs : List (Str × AV)} {x : Str} {r : AV} {ex : Bool} {Q : AV → PS → Prop} (h1 : P.H a = some (.node d vs)) (h0 : P.H d = some (.attrs fs)) (hi : vs[i]? = some r) (ho : r ≠ .other)
    (hf : ∀ od, findObj (KW c.w) 40 (some od) x = some (.bind (.builtin "member_descriptor.__get__") (.ref p))) (hs : slotIn (KW c.w) p 40 = some i) (hq : Q r P) : ∀ vo, abs vo = .ref a → J c n F abs (getAttr vo x ex) P Q := fun vo eo => ⟨fun A s hr hp => by
  obtain rfl := abs_ref eo
  obtain ⟨co, g1, v, rfl, hm⟩ := hp.h.know _ _ h1
  obtain ⟨od, g0, _⟩ := hp.h.know _ _ h0
  have I : PySem.W.InstAt s.heap a ⟨.ref 40, some d, .plain, v⟩ 40 (some od) := ⟨g1, rfl, rfl, g0⟩
  obtain ⟨y, y1, y2⟩ := slot_join hm hi
  exact get_bind hp.h.K I (pg40 _) (hf od) (pk40 _) (wpAny_call (slot_get (s := { s with toks := s.toks + 1 }) hp.h.K I hs y1 (handed_on (handed y2 ho) ⟨P, hp.toks _, FF.refl _ _ _, y2 ▸ hq⟩)))⟩
theorem J_getNode {a d : Addr} {r x y : AV} {fs : List (Str × AV)} {ex : Bool} {Q : AV → PS → Prop} (h1 : P.H a = some (.node d [r, x, y])) (h0 : P.H d = some (.attrs fs)) (ho : r ≠ .other) (hq : Q r P) : ∀ vo, abs vo = .ref a → J c n F abs (getAttr vo "node" ex) P Q := J_getSlot h1 h0 rfl ho (fo1 _) (sl1 _) hq
theorem J_getNp {a d : Addr} {r x y : AV} {fs : List (Str × AV)} {ex : Bool} {Q : AV → PS → Prop} (h1 : P.H a = some (.node d [x, r, y])) (h0 : P.H d = some (.attrs fs)) (ho : r ≠ .other) (hq : Q r P) : ∀ vo, abs vo = .ref a → J c n F abs (getAttr vo "npredecessors" ex) P Q := J_getSlot h1 h0 rfl ho (fo2 _) (sl2 _) hq
theorem J_getSucc {a d : Addr} {r x y : AV} {fs : List (Str × AV)} {ex : Bool} {Q : AV → PS → Prop} (h1 : P.H a = some (.node d [x, y, r])) (h0 : P.H d = some (.attrs fs)) (ho : r ≠ .other) (hq : Q r P) : ∀ vo, abs vo = .ref a → J c n F abs (getAttr vo "successors" ex) P Q := J_getSlot h1 h0 rfl ho (fo3 _) (sl3 _) hq

/-- setting an attribute of the sorter -/
theorem J_setOwn {a d : Addr} {fs : List (Str × AV)} {x : Str} {v : AV} {Q : Unit → PS → Prop} (hz : fs.length ≤ 100) (h1 : P.H a = some (.inst 137 d)) (h2 : P.H d = some (.attrs fs))
    (ht : takerIn (KW c.w) 137 x = some none) (hq : Q () ⟨P.m, upd P.H d (.attrs (fset fs x v))⟩) : ∀ vv vo, abs vv = v → abs vo = .ref a → J c n F _root_.id (setAttr vo x vv) P Q := fun vv vo ev eo => TH.J ⟨fun A s hr hp => by
  obtain rfl := abs_ref eo
  obtain ⟨co, g1, rfl⟩ := hp.know _ _ h1
  obtain ⟨cd, d1, ents, k, hd, hk, hu, hl⟩ := hp.know _ _ h2
  have I : PySem.W.InstAt s.heap a ⟨.ref 137, some d, .plain, #[]⟩ 137 (some cd) := ⟨g1, rfl, rfl, d1⟩
  refine set_plain hp.K I (ps137 _) (osa_open (s := { s with toks := s.toks + 1 }) hp.K I (po137 _) ht fun b => ?_)
  obtain ⟨cl, hc, hd'⟩ := any_some (hh137 c.w)
  refine wpAny_bind (wpAny_pure (wpAny_bind (wpAny_bind (wpAny_loadPart g1 (wpAny_bind (Looks.here (s := { s with toks := s.toks + 1 }) (looks_clsIn hp.K hc) ?_))))))
  rw [hd']
  refine wpAny_pure (a := some d) (wpAny_bind (wpAny_pure (wpAny_bind ?_)))
  refine wpAny_nsSet1 (s := { s with toks := s.toks + 1 }) ⟨cd, ents, k, d1, hd, hk, hu, fun _ => rfl⟩ fun h' ⟨o', es', ep', z1, z2, z3, z5, z4⟩ hs => ?_
  have hfin : OIs c.w (.attrs (fset fs x v)) o' := ⟨es', ep', z2, z3, z5, fun y => by
    rw [z4, look_fset, ← hl, ← ev]
    by_cases q : y = x <;> simp [q]⟩
  refine wpAny_bind (wpAny_lookBehind z1 (by rw [z2]; exact pastItsLine_dict (Nat.le_trans (attrs_len hfin z2) (by have := fset_len fs x v; rw [sizeLine_eq]; lia))) (wpAny_pure ?_))
  exact ⟨_, (hp.change h2 hs z1 hfin rfl rfl : HRep c _ { s with heap := h' }).toks _, HF.change h2 hs, hq⟩⟩

/-- setting a slot of a node -/
theorem slot_put {A : Around} {s : Shared} {R : Result → Shared → Prop} {K : Frag} {x C : Addr} {ox : Obj} {od : Option Obj} {v : Value} {p i : Nat} (X : K.In s.heap) (I : PySem.W.InstAt s.heap x ox C od)
    (hp : slotIn K p C = some i) (hi : i < 1000)
    (h : R (.ok (.ret .none)) { s with heap := s.heap.update x fun o => { o with slots := (o.slots ++ Array.replicate (i + 1 - o.slots.size) none).setIfInBounds i (some v) } }) :
    codeAny (M c) A (.call (.builtin "member_descriptor.__set__") ⟨[.ref p, .ref x, v], []⟩) R s := by
  obtain ⟨n, tn, owner, behind, tb, d, sl, cd, ho, hc, hm, hb, rfl⟩ := slot_of X hp
  obtain ⟨hh, g, dr, t, os⟩ := s
  have L0 := I.type (M := M c)
  have L1 := looks_mroIn (M := M c) X hm
  have L2 : Looks (M c) hh (Slots.slotNamesOf (.ref C)) cd.slotNames := (looks_clsIn X hc).andThen .now
  have hx := I.at_
  dsimp only at ho hx L0 L1
  have f0 := looks_field (M := M c) ho 0 (v := .str n tn) rfl
  have f1 := looks_field (M := M c) ho 1 (v := owner) rfl
  have f3 := looks_field (M := M c) ho 3 (v := .builtin "proto.slot#set") rfl
  have f4 := looks_field (M := M c) ho 4 (v := .int behind tb) rfl
  refine codeAny_call_builtin PySem.W.KF.slot_mset.plain PySem.W.KF.entry_mset (PySem.W.KF.slot_mset.check _ _ _ _ _ _ _ _ ⟨_, ho, rfl⟩ (PySem.W.KF.args_mset _ _ _) ?_)
  unfold Builtin.«member_descriptor.__set__» descrSet descrStoreThrough descrCheckInstance descrNameAndClass isInstance
  have f5 : Looks (M c) hh (descrItself (.ref p)) [.ref p] := ((Looks.ld (part := none) ho).andThen .now).andThen (Looks.of_pure (by kernel_rfl))
  repeat lk
  refine ⟨Code.quiet_builtin _ (by decide +kernel), codeAny_builtin PySem.W.KF.entry_slotset ?_⟩
  unfold Builtin.«proto.slot#set» Slots.target
  repeat lk
  rw [if_neg hb]
  refine wpAny_pure (wpAny_bind ?_)
  unfold setSlotAt
  dsimp only
  rw [if_neg (by rw [sizeLine_eq]; lia)]
  exact wpAny_updatePart hx (wpAny_pure h)

theorem slots_set {v : Array (Option Value)} {vs : List AV} {i : Nat} {u : Value} (hm : v.toList.map (·.map abs) = vs.map some) (hi : i ≤ vs.length) :
    ((v ++ Array.replicate (i + 1 - v.size) none).setIfInBounds i (some u)).toList.map (fun o : Option Value => o.map abs) = ((vs.take i) ++ abs u :: vs.drop (i + 1)).map some := by
  obtain ⟨l⟩ := v
  have hl : l.length = vs.length := by simpa using congrArg List.length hm
  rw [Array.toList_setIfInBounds]
  apply List.ext_getElem?
  intro j
  have hj : (l[j]?).map (fun o : Option Value => o.map abs) = (vs[j]?).map some := by rw [← List.getElem?_map, ← List.getElem?_map]; exact congrArg (·[j]?) hm
  rw [List.getElem?_map, List.getElem?_map]
  by_cases q : j = i
  · subst q
    rw [List.getElem?_set_self (by simp; lia), List.getElem?_append_right (by rw [List.length_take]; lia)]
    simp only [List.length_take, Nat.min_eq_left hi, Nat.sub_self, List.getElem?_cons_zero]; rfl
  · rw [List.getElem?_set_ne (fun e => q e.symm)]
    by_cases p : j < vs.length
    · rw [Array.toList_append, List.getElem?_append_left (by simpa [hl] using p), hj]
      by_cases r : j < i
      · rw [List.getElem?_append_left (by simp; lia), List.getElem?_take_of_lt r]
      · rw [List.getElem?_append_right (by simp; lia)]
        simp only [List.length_take]
        rw [show j - min i vs.length = (j - (i + 1)) + 1 by lia, List.getElem?_cons_succ, List.getElem?_drop]
        congr 2; lia
    · rw [List.getElem?_eq_none (by simp; lia), List.getElem?_eq_none (by simp; lia)]; rfl

theorem J_setSlot {a p i d : Addr} {vs : List AV} {fs : List (Str × AV)} {x : Str} {v : AV} {Q : Unit → PS → Prop} (h1 : P.H a = some (.node d vs)) (h0 : P.H d = some (.attrs fs)) (hi : i ≤ vs.length) (hz : i < 1000) (hv : vs.length < 1000)
    (ht : takerIn (KW c.w) 40 x = some (some (.ref p))) (hT : typeIn (KW c.w) (.ref p) = some (.type "member_descriptor")) (hs : slotIn (KW c.w) p 40 = some i)
    (hq : Q () ⟨P.m, upd P.H a (.node d (vs.take i ++ v :: vs.drop (i + 1)))⟩) : ∀ vv vo, abs vv = v → abs vo = .ref a → J c n F _root_.id (setAttr vo x vv) P Q := fun vv vo ev eo => TH.J ⟨fun A s hr hp => by
  obtain rfl := abs_ref eo
  obtain ⟨co, g1, u, rfl, hm⟩ := hp.know _ _ h1
  obtain ⟨od, g0, _⟩ := hp.know _ _ h0
  have I : PySem.W.InstAt s.heap a ⟨.ref 40, some d, .plain, u⟩ 40 (some od) := ⟨g1, rfl, rfl, g0⟩
  refine set_plain hp.K I (ps40 _) (osa_descr (s := { s with toks := s.toks + 1 }) PySem.W.KF.slot_mset hp.K I (po40 _) ht hT (slot_put (s := { s with toks := s.toks + 1 }) hp.K I hs hz ?_))
  have hfin : OIs c.w (.node d (vs.take i ++ v :: vs.drop (i + 1))) ({ (⟨.ref 40, some d, .plain, u⟩ : Obj) with slots := (u ++ Array.replicate (i + 1 - u.size) none).setIfInBounds i (some vv) }) := ⟨_, rfl, by rw [slots_set hm hi, ev]⟩
  exact ⟨_, (hp.change h1 (Heap.SameBut.update ..) (Heap.get?_update_self _ g1 hfin.live) hfin rfl rfl : HRep c _ { s with heap := s.heap.update a fun o => { o with slots := (o.slots ++ Array.replicate (i + 1 - o.slots.size) none).setIfInBounds i (some vv) } }).toks _, HF.change h1 (Heap.SameBut.update ..), hq⟩⟩

/-- a method of the text's class, called on an object with attributes -/
noncomputable abbrev KFn2 {ib : Bool} (c : CxB ib) (n : Nat) (fa : Addr) (Q : AV → PS → Prop) (a : Addr) : List AV → PS → Prop := fun vs P2 => TC c n (.ref fa) (.ref a :: vs) P2.H (KH Q P2.m)
noncomputable abbrev KFn {ib : Bool} (c : CxB ib) (n : Nat) (F : Fm) (name : Str) (fa : Addr) (pos : Pos) (es : List Expr) (Q : AV → PS → Prop) : AV → PS → Prop := fun ov P1 => ∃ a d fs, ov = .ref a ∧ P1.H a = some (.inst 137 d) ∧ P1.H d = some (.attrs fs) ∧ look fs name = none ∧ JL c n F pos es P1 (KFn2 c n fa Q a)
noncomputable abbrev KAttr {ib : Bool} (c : CxB ib) (n : Nat) (F : Fm) (x : Str) (Q : AV → PS → Prop) : AV → PS → Prop := fun ov P1 => ∀ vo, abs vo = ov → J c n F abs (getAttr vo x true) P1 Q
noncomputable abbrev KSA2 {ib : Bool} (c : CxB ib) (n : Nat) (F : Fm) (x : Str) (Q : AF → PS → Prop) (v : AV) : AV → PS → Prop := fun ov P2 => ∀ vv vo, abs vv = v → abs vo = ov → J c n F (_root_.id : Unit → Unit) (setAttr vo x vv) P2 (KNext Q)
noncomputable abbrev KSA {ib : Bool} (c : CxB ib) (n : Nat) (F : Fm) (o : Expr) (x : Str) (Q : AF → PS → Prop) : AV → PS → Prop := fun v P1 => JE c n F o P1 (KSA2 c n F x Q v)
theorem JE_methFn {o : Expr} {name : Str} {apos pos : Pos} {es : List Expr} {fa : Addr} {fo : Obj} {fd : FuncData} {Q : AV → PS → Prop} (hf : findIn (KW c.w) (.ref 137) name = some (some (.ref fa))) (hT : typeIn (KW c.w) (.ref fa) = some (.type "function"))
    (ho : (KW c.w).lookup fa = some fo) (hd : fo.data = .func fd)
    (h : JE c n F o P (KFn c n F name fa pos es Q))
    (hbase : attributeBase o name F.env (eval o F.env) = eval o F.env := by rfl)
    (hfew : ((backTo pos (starEach es F.env)).all (fun x => !x.1) && (backToKw pos (keywordEach [] F.env)).all (fun x => x.1.isSome)
      && decide (es.length + ([] : List Keyword).length + (if ([] : List Keyword).isEmpty then 0 else 1) < 30)) = true := by rfl)
    (hline : (apos.endLine == pos.line) = true := by rfl) (hs : es.any isStar = false := by rfl) : JE c n F (.Call (.Attribute o name apos) es [] pos) P Q := ⟨fun A s hr hp => by
  rw [arm_eval_Call, hbase]
  refine wpAny_bind (h.on hr hp fun ov s1 P1 r1 f1 k1 => ?_)
  obtain ⟨a, d, fs, e, h1, h2, h3, k1⟩ := k1
  obtain rfl := abs_ref e
  obtain ⟨co, g1, rfl⟩ := r1.h.know _ _ h1
  obtain ⟨cd, d1, ents, k, hda, hk, hu, hl⟩ := r1.h.know _ _ h2
  have I : PySem.W.InstAt s1.heap a ⟨.ref 137, some d, .plain, #[]⟩ 137 (some cd) := ⟨g1, rfl, rfl, d1⟩
  have hn : nsFind ents name = none := by have := hl name; rw [h3] at this; exact Option.map_eq_none_iff.mp this
  refine wpAny_bind (wpAny_standAt ?_)
  have hform : methodCallForm (es.length + ([] : List Keyword).length) (backTo pos (starEach es F.env)) (backToKw pos (keywordEach [] F.env)) = true := hfew
  have hpos : methodCallPos true o F.env apos pos = pure pos := by unfold methodCallPos; simp [hline]
  unfold methodCall
  rw [hform]
  refine wpAny_bind (wpAny_holding (method_fn r1.h.K I (pg137 _) (pk137 _) hf hT (by show (lookIn name cd).map _ = _; rw [lookIn_of hda hk, hn]; rfl) ?_))
  refine wpAny_bind (wpAny_of_eq hpos ?_)
  exact (J_callFn (first := [.ref a]) ho hd k1 hs).on hr r1 fun v s2 P2 r2 f2 k2 => ⟨P2, r2, f1.trans f2, k2⟩⟩

theorem JE_attr {o : Expr} {x : Str} {pos : Pos} {Q : AV → PS → Prop} (h : JE c n F o P (KAttr c n F x Q)) (hb : attributeBase o x F.env (eval o F.env) = eval o F.env := by rfl) : JE c n F (.Attribute o x pos) P Q :=
  ⟨fun A s hr hp => Attribute_any_ (h.on hr hp fun vo s1 P1 r1 f1 k1 => (k1 vo rfl).on hr r1 fun v s2 P2 r2 f2 k2 => ⟨P2, r2, f1.trans f2, k2⟩) (by rw [arm_eval_Attribute, hb])⟩
theorem JS_setAttr {o value : Expr} {x : Str} {pos' pos : Pos} {Q : AF → PS → Prop} (h : JE c n F value P (KSA c n F o x Q))
    (hs : swapsWith value (some (.Attribute o x pos')) pos.line F.env = pure false := by rfl) : JS c n F (.Assign [.Attribute o x pos'] value pos) P Q :=
  ⟨fun A s hr hp => plainObj_wpAny_Assign_Attribute (h.on hr hp fun vv s1 P1 r1 f1 k1 => J.on k1 hr r1 fun vo s2 P2 r2 f2 k2 => (k2 vv vo rfl rfl).on hr r2 fun _ s3 P3 r3 f3 k3 => ⟨P3, r3, (f1.trans f2).trans f3, k3⟩) hs⟩
end
end Mine
end

-- part L11
section
open PySem PySem.W PySem.Calls PyProof.Rows
set_option Elab.async false
set_option linter.unusedVariables false
set_option autoImplicit false
set_option maxRecDepth 100000
namespace Mine
noncomputable def absB (bs : List (Str × Value)) : List (Str × AV) := bs.map fun p => (p.1, abs p.2)

theorem lookup_rev_zipA : ∀ {ns : List Str} {vs : List AV} {i : Nat} {x : Str} {v : AV}, ns.Nodup → ns[i]? = some x → vs[i]? = some v → (ns.zip vs).reverse.lookup x = some v
  | [], _, _, _, _, _, h, _ => by simp at h
  | _ :: _, [], _, _, _, _, _, h => by simp at h
  | y :: ns, u :: us, i, x, v, hn, h1, h2 => by
    rw [List.nodup_cons] at hn
    rw [List.zip_cons_cons, List.reverse_cons, List.lookup_append]
    cases i with
    | zero =>
      simp at h1 h2
      subst h1 h2
      have : (ns.zip us).reverse.lookup y = none := by
        rw [List.lookup_eq_none_iff]
        intro p hp
        have q : y ≠ p.1 := fun q => hn.1 (q ▸ (List.of_mem_zip (List.mem_reverse.mp hp)).1)
        simpa using q
      rw [this]; simp
    | succ i =>
      simp at h1 h2
      rw [lookup_rev_zipA hn.2 h1 h2]; rfl
theorem lookup_absB (bs : List (Str × Value)) (x : Str) : (bs.lookup x).map abs = (absB bs).lookup x := by
  induction bs with
  | nil => rfl
  | cons p r ih =>
    obtain ⟨y, v⟩ := p
    show _ = List.lookup x ((y, abs v) :: absB r)
    rw [List.lookup_cons, List.lookup_cons]
    cases x == y
    · exact ih
    · rfl

section
variable {c : Cx} {n : Nat} {F : Fm} {P : PS}

/-- a def's call, its arguments bound in any way -/
theorem TC_bind (ps ls : List Str) {fa : Addr} {o : Obj} {fd : FuncData} {body : List Stmt} {args : List AV} {H : AH} {Q : AV → AH → Prop}
    (ho : (KW c.w).lookup fa = some o) (hd : o.data = .func fd) (hb : fd.body = .stmts body) (hcd : codeIn (KW c.w) fd.code fd.qualname = true)
    (hg : fd.globals = mainGlobals) (hbi : fd.builtins = builtinsNs)
    (hcell : ∀ x ∈ fd.scope.names, x.2 ≠ .cell) (hloc : ∀ x ∈ ps ++ ls, fd.scope.names.lookup x = some .local ∧ (x == ("__debug__" : Str)) = false) (hnd : (ps ++ ls).Nodup)
    (hco : fd.scope.isCoroutine = false) (hgen : fd.scope.isGenerator = false) (hk : fd.scope.kind = .function)
    (h : ∀ vs : List Value, vs.map abs = args → TH c n absB (bindArgs fd ⟨vs, []⟩) H fun bs H1 => ∃ us, bs = ps.zip us ∧ us.length = ps.length ∧
      ∀ L, JSS (c.push (callEnv fd L fa)) n (fmOf fd L fa (ps ++ ls) hnd hloc hk hg hbi) body ⟨us ++ List.replicate ls.length .other, H1⟩ fun f P' => Q (retOf f) P'.H) : TC c (n + 1) (.ref fa) args H Q := by
  refine ⟨fun vs hvs A s hr hp => ?_⟩
  refine codeAny_call_function hr.depth (hp.K _ _ ho) hd hco hgen hb (codeRec_of hp.K hcd) ?_
  refine (h vs hvs).on (A := A.in1) ⟨hr.1, by have := hr.2.1; show A.depth + 4 * n + 4 ≤ _; lia, by have := hr.2.2.1; show A.units + 1 + _ + 100 ≤ _; lia, hr.2.2.2⟩ hp fun binds s₁ H1 h1 f1 ⟨us, e1, e2, k⟩ => ?_
  have hbl : ∀ x ∈ binds, x.1 ∈ ps := fun x hx => by
    have : (x.1, abs x.2) ∈ ps.zip us := e1 ▸ List.mem_map_of_mem hx
    exact (List.of_mem_zip this).1
  refine wpAny_newFunctionEnv hcell (fun x hx => (hloc x.1 (List.mem_append_left _ (hbl x hx))).1) (fun h₀ hns₀ hsb₀ => ⟨(c.nolimit.keeps h1.keep).fresh _ hsb₀, codeAny_func ?_⟩) hk
  have hk₁ : ∀ b o, s₁.heap.get? b = some o → h₀.get? b = some o := fun b o e => hsb₀.extBut b o (Nat.ne_of_lt (Heap.lt_size e)) (Heap.get?_push_of_some _ e)
  have r1 : Rep (c.push (callEnv fd s₁.heap.objs.size fa)) (fmOf fd s₁.heap.objs.size fa (ps ++ ls) hnd hloc hk hg hbi) ⟨us ++ List.replicate ls.length .other, H1⟩ { s₁ with heap := h₀, toks := s₁.toks + binds.length } := by
    refine ⟨(h1.ext (s' := { s₁ with heap := h₀, toks := s₁.toks + binds.length }) hk₁ rfl rfl).push hk rfl hns₀ h1.base_fresh h1.fresh, ⟨_, hns₀, fun i x v z1 z2 z3 => ?_⟩, h1.fresh, h1.base_fresh⟩
    by_cases hi : i < us.length
    · rw [List.getElem?_append_left hi] at z2
      rw [List.getElem?_append_left (by lia)] at z1
      rw [lookup_absB, show absB binds.reverse = (absB binds).reverse from List.map_reverse, e1]
      exact lookup_rev_zipA (List.nodup_append.mp hnd).1 z1 z2
    · rw [List.getElem?_append_right (by lia)] at z2
      exact absurd (List.mem_replicate.mp (List.mem_of_getElem? z2)).2 z3
  refine wpAny_mono ((k s₁.heap.objs.size).go _ _ (hr.deeper (e := callEnv fd s₁.heap.objs.size fa)) r1) (fun f s' ⟨P', r', f', q'⟩ => ?_) fun _ _ x => x.elim
  refine ⟨P'.H, r'.h.pop, fun b ob z1 z2 =>
    let ⟨⟨o1, y1, y2⟩, y3⟩ := f1 b ob z1 z2
    let ⟨⟨o2, x1, x2⟩, x3⟩ := f' b o1 (hk₁ _ _ y1) (Nat.ne_of_lt (Heap.lt_size y1)) y3
    ⟨⟨o2, x1, y2.trans x2⟩, x3⟩, ?_⟩
  cases f <;> exact q'

/-- binding with a star -/
theorem TH_star {fd : FuncData} {ps : List Str} {vs : List Value} {H : AH} {Q : List (Str × AV) → AH → Prop} {front rest : List Value} (hz : rest.length ≤ 1000)
    (hb : bindArgs fd ⟨vs, []⟩ = (newTuple rest >>= fun t => pure (ps.zip (front ++ [t]))))
    (h : ∀ r, gets c H r = none → Q (ps.zip (front.map abs ++ [.ref r])) (upd H r (.tup (rest.map abs)))) : TH c n absB (bindArgs fd ⟨vs, []⟩) H Q := ⟨fun A s hr hp => by
  rw [hb]
  refine wpAny_bind (wpAny_newTuple (wpAny_pure ⟨_, hp.alloc (o := .tup (rest.map abs)) ⟨_, _, rfl, rfl⟩ rfl rfl rfl, HF.alloc rfl, ?_⟩) (by rw [sizeLine_eq]; lia))
  have e : absB (ps.zip (front ++ [.ref s.heap.objs.size])) = ps.zip (front.map abs ++ [.ref s.heap.objs.size]) := by
    rw [show front.map abs ++ [AV.ref s.heap.objs.size] = (front ++ [Value.ref s.heap.objs.size]).map abs by simp [abs], List.zip_map_right]; rfl
  rw [e]
  exact h _ hp.free⟩
theorem TH_pureB {fd : FuncData} {ps : List Str} {vs us : List Value} {H : AH} {Q : List (Str × AV) → AH → Prop} (hb : ∀ s, HRep c H s → BindsTo s fd ⟨vs, []⟩ (ps.zip us))
    (h : Q (ps.zip (us.map abs)) H) : TH c n absB (bindArgs fd ⟨vs, []⟩) H Q := ⟨fun A s hr hp => by
  refine hb s hp _ _ _ _ ⟨H, hp, HF.refl _ _, ?_⟩
  rw [show absB (ps.zip us) = ps.zip (us.map abs) by rw [List.zip_map_right]; rfl]
  exact h⟩

/-- making an object of the sorter's class -/
theorem mk137 (w : World) : makesIn (KW w) 137 = true := by kernel_rfl
theorem in137 (w : World) : findIn (KW w) (.ref 137) "__init__" = some (some (.ref 73)) := by kernel_rfl
theorem ty73 (w : World) : typeIn (KW w) (.ref 73) = some (.type "function") := by kernel_rfl
theorem mk40 (w : World) : makesIn (KW w) 40 = true := by kernel_rfl
theorem in40 (w : World) : findIn (KW w) (.ref 40) "__init__" = some (some (.ref 36)) := by kernel_rfl
theorem ty36 (w : World) : typeIn (KW w) (.ref 36) = some (.type "function") := by kernel_rfl
theorem TC_make {C fI : Addr} {ao : Addr → AO} {args : List AV} {H : AH} {Q : AV → AH → Prop} (mk : makesIn (KW c.w) C = true) (hin : findIn (KW c.w) (.ref C) "__init__" = some (some (.ref fI))) (hty : typeIn (KW c.w) (.ref fI) = some (.type "function"))
    (hao : ∀ d, OIs c.w (ao d) (instObj C d))
    (h : ∀ d x, gets c H d = none → gets c H x = none → d ≠ x → TC c n (.ref fI) (.ref x :: args) (upd (upd H d (.attrs [])) x (ao d)) fun v H' => v = .none ∧ Q (.ref x) H') :
    TC c (n + 1) (.ref C) args H Q := ⟨fun vs hvs A s hr hp => by
  obtain ⟨hh, g, d, t, os⟩ := s
  refine (make_core (makes_of hp.K mk) (looks_findIn hp.K hin) (fun self => bind_fn hp.K self hty) (.inl rfl) ?_)
  have h1 := hp.alloc (o := .attrs []) (co := emptyDict) (s' := ⟨hh.push emptyDict, g, d, t, os⟩) ⟨#[], _, rfl, fun e he => by simp at he, List.Pairwise.nil, fun x => rfl⟩ rfl rfl rfl
  have h2 := h1.alloc (o := ao hh.objs.size) (co := instObj C hh.objs.size) (s' := ⟨(hh.push emptyDict).push (instObj C hh.objs.size), g, d, t, os⟩) (hao _) rfl rfl rfl
  have z := gets_under h1.free
  dsimp only at h2 z
  rw [Heap.size_push] at h2 z
  refine codeAny_mono ((h _ _ hp.free z.2 (Ne.symm z.1)).co (.ref (hh.objs.size + 1) :: vs) (by rw [List.map_cons, hvs]; rfl) (A.under (.builtin "type.__call__" ⟨.ref C :: vs, []⟩)) _ ⟨hr.1, (by have := hr.2.1; show A.depth + 1 + 4 * n + 4 ≤ _; lia), (by have := hr.2.2.1; show A.units + 1 + _ + 100 ≤ _; lia), hr.2.2.2⟩ h2) fun r s' z => ?_
  rcases r with e | (v | _ | _ | _)
  · exact z
  all_goals first | exact z | skip
  obtain ⟨H', a1, a2, a3, a4⟩ := z
  refine ⟨abs_none a3, H', a1, fun b o e1 e2 => ?_, a4⟩
  have l1 := Nat.ne_of_lt (Heap.lt_size e1)
  exact a2 b o (Heap.get?_push_of_some _ (Heap.get?_push_of_some _ e1)) (by rw [upd_ne _ _ (Nat.ne_of_lt (Nat.lt_succ_of_lt (Heap.lt_size e1))), upd_ne _ _ l1]; exact e2)⟩

/-- a class of the text, called by its name -/
theorem JE_class {x : Str} {p pos : Pos} {es : List Expr} {C : Addr} {Q : AV → PS → Prop} (hk : nsIn (KW c.w) mainGlobals x = some (some (.ref C))) (kp : keepIn (KW c.w) (.ref C) = true)
    (h : JL c n F pos es P fun vs P1 => TC c n (.ref C) vs P1.H fun v H' => Q v ⟨P1.m, H'⟩)
    (hx : F.env.kindOf x = some .globalImplicit := by rfl) (hdb : (x == ("__debug__" : Str)) = false := by decide) (hs : es.any isStar = false := by rfl) : JE c n F (.Call (.Name x p) es [] pos) P Q := by
  show J c n F abs (eval (.Name x p) F.env >>= fun f => callWith pos f [] (backTo pos (starEach es F.env)) []) P Q
  refine J_globalName hk ⟨fun A s hr hp => ?_⟩ hx hdb
  refine callWith_of (by rw [any_back hs]; rfl) (keeps_K kp) (evalArgs_all hs (h.on hr hp fun vs s1 P1 r1 f1 k1 => ?_))
  exact ⟨r1.h.K, (TH.J (F := F) (P := P1) (k1.at_ _ rfl)).on hr r1 fun v s2 P2 r2 f2 k2 => ⟨P2, r2, f1.trans f2, k2⟩⟩
end
end Mine
end

-- part B1
section
open PySem PySem.W PySem.Calls PyProof.Rows
set_option Elab.async false
set_option linter.unusedVariables false
set_option autoImplicit false
set_option maxRecDepth 100000
namespace Mine

noncomputable def sdownW (start : Nat) (new : Int) : Nat → List Int → List Int :=
  WellFounded.fix (C := fun _ => List Int → List Int) Nat.lt_wfRel.wf fun pos rec xs =>
    if h : start < pos then
      if new < xs.getD ((pos - 1) / 2) 0 then rec ((pos - 1) / 2) (show (pos - 1) / 2 < pos by lia) (xs.set pos (xs.getD ((pos - 1) / 2) 0)) else xs.set pos new
    else xs.set pos new
noncomputable def sdown (start : Nat) (new : Int) (xs : List Int) (pos : Nat) : List Int := sdownW start new pos xs
theorem sdown_eq (start : Nat) (new : Int) (xs : List Int) (pos : Nat) : sdown start new xs pos =
    if start < pos then (if new < xs.getD ((pos - 1) / 2) 0 then sdown start new (xs.set pos (xs.getD ((pos - 1) / 2) 0)) ((pos - 1) / 2) else xs.set pos new)
    else xs.set pos new := by
  unfold sdown sdownW
  rw [WellFounded.fix_eq]; rfl
theorem sdown_ind {start : Nat} {new : Int} {M : List Int → Nat → List Int → Prop}
    (h1 : ∀ xs pos, start < pos → new < xs.getD ((pos - 1) / 2) 0 → ∀ r, M (xs.set pos (xs.getD ((pos - 1) / 2) 0)) ((pos - 1) / 2) r → M xs pos r)
    (h2 : ∀ xs pos, (start < pos → ¬ new < xs.getD ((pos - 1) / 2) 0) → M xs pos (xs.set pos new)) (xs : List Int) (pos : Nat) : M xs pos (sdown start new xs pos) := by
  induction pos using Nat.strongRecOn generalizing xs with
  | _ pos ih =>
    rw [sdown_eq]
    split
    · next a =>
      split
      · next b => exact h1 xs pos a b _ (ih _ (by lia) _)
      · next b => exact h2 xs pos fun _ => b
    · next a => exact h2 xs pos fun b => absurd b a

theorem map_get {xs : List Int} {i : Nat} (h : i < xs.length) : (xs.map AV.int)[i]? = some (.int (xs.getD i 0)) := by
  rw [List.getElem?_map, List.getD_eq_getElem?_getD, List.getElem?_eq_getElem h]; rfl
theorem item_map {xs : List Int} {i : Nat} (h : i < xs.length) (hz : xs.length < 1000) : itemAt (some (.list (xs.map AV.int))) i = some (.int (xs.getD i 0)) :=
  idx_nat (map_get h) (by lia)

theorem siftdown_ok {c : Cx} {n : Nat} {H : AH} {a : Addr} {xs : List Int} {start pos : Nat} (hl : H a = some (.list (xs.map .int))) (hp : pos < xs.length) (hz : xs.length < 1000) :
    TC c (n + 1) (.ref 183) [.ref a, .int start, .int pos] H fun v H' => v = .none ∧ H' = upd H a (.list ((sdown start (xs.getD pos 0) xs pos).map .int)) := by
  let Q0 : AV → AH → Prop := fun v H' => v = .none ∧ H' = upd H a (.list ((sdown start (xs.getD pos 0) xs pos).map .int))
  show TC _ _ _ _ _ Q0
  refine TC_def [Str.ofString "heap", Str.ofString "startpos", Str.ofString "pos"] [Str.ofString "newitem", Str.ofString "parentpos", Str.ofString "parent"] rfl rfl rfl (by kernel_rfl) rfl rfl ?_ (by decide) (by decide) (by decide) rfl rfl rfl rfl ?_
  · intro vs hvs
    rcases vs with _ | ⟨v1, _ | ⟨v2, _ | ⟨v3, _ | _⟩⟩⟩ <;> first | rfl | (simp at hvs)
  intro L
  refine JSS_cons (JS_set 3 (JE_item (JE_N 0 (JE_N 2 ⟨a, pos, _, .int (xs.getD pos 0), rfl, rfl, gets_of hl, item_map hp hz, ?_⟩))))
  let hI1 : Nat → PS → Prop := fun k P => ∃ (ys : List Int) (p q : AV), k < ys.length ∧ ys.length < 1000 ∧ sdown start (xs.getD pos 0) ys k = sdown start (xs.getD pos 0) xs pos ∧
        P = ⟨[.ref a, .int start, .int k, .int (xs.getD pos 0), p, q], upd H a (.list (ys.map .int))⟩
  refine JSS_cons (JS_While (hI1) ?_ pos ⟨xs, _, _, hp, hz, rfl, by rw [upd_same H hl]; rfl⟩)
  rintro k _ ⟨ys, p, q, h1, h2, h3, rfl⟩
  refine JB_Compare (JE_N 2 (JE_N 1 (J_gt ⟨_, rfl, ?_, ?_⟩)))
  · intro hlt
    replace hlt : start < k := by simpa using hlt
    refine JSS_cons (JS_set 4 (JE_BinOp (JE_BinOp (JE_N 2 (JE_int (J_sub (JE_int (J_half ?_))))))))
    rw [show ((k : Int) - 1) / 2 = (((k - 1) / 2 : Nat) : Int) by lia]
    refine JSS_cons (JS_set 5 (JE_item (JE_N 0 (JE_N 4 ⟨a, _, _, _, rfl, rfl, gets_of (upd_self ..), item_map (i := (k - 1) / 2) (by lia) h2, ?_⟩))))
    refine JSS_cons (JS_If (JB_Compare (JE_N 3 (JE_N 5 (J_lt ⟨_, rfl, ?_, ?_⟩)))))
    · intro hc
      replace hc : xs.getD pos 0 < ys.getD ((k - 1) / 2) 0 := by simpa using hc
      refine JSS_cons (JS_setItem (JE_N 5 (JE_N 0 (JE_N 2 (J_setList (upd_self ..) (by simpa using h1) (by lia) ?_)))))
      refine JSS_cons (JS_set 2 (JE_N 4 ?_))
      refine JSS_cons (JS_Continue ?_)
      refine ⟨(k - 1) / 2, by lia, ys.set k (ys.getD ((k - 1) / 2) 0), .int ((k - 1) / 2 : Nat), .int (ys.getD ((k - 1) / 2) 0), by simp; lia, by simpa using h2, ?_, ?_⟩
      · rw [← h3]; conv => rhs; rw [sdown_eq]
        rw [if_pos hlt, if_pos hc]
      · rw [upd_upd, List.map_set]; rfl
    · intro hc
      replace hc : ¬ xs.getD pos 0 < ys.getD ((k - 1) / 2) 0 := by simpa using hc
      refine JSS_nil (JSS_cons (JS_Break ?_))
      refine JSS_cons (JS_setItem (JE_N 3 (JE_N 0 (JE_N 2 (J_setList (upd_self ..) (by simpa using h1) (by lia) ?_)))))
      refine JSS_nil ⟨rfl, ?_⟩
      rw [← h3, sdown_eq, if_pos hlt, if_neg hc, upd_upd, List.map_set]
  · intro hlt
    replace hlt : ¬ start < k := by simpa using hlt
    refine JSS_nil (JSS_cons (JS_setItem (JE_N 3 (JE_N 0 (JE_N 2 (J_setList (upd_self ..) (by simpa using h1) (by lia) ?_))))))
    refine JSS_nil ⟨rfl, ?_⟩
    rw [← h3, sdown_eq, if_neg hlt, upd_upd, List.map_set]
end Mine
end

-- part B2
section
open PySem PySem.W PySem.Calls PyProof.Rows
set_option Elab.async false
set_option linter.unusedVariables false
set_option autoImplicit false
set_option maxRecDepth 100000
namespace Mine

/-- _siftup: the new item goes down to a leaf, then up -/
noncomputable def kid (xs : List Int) (pos : Nat) : Nat := if 2 * pos + 2 < xs.length ∧ ¬ xs.getD (2 * pos + 1) 0 < xs.getD (2 * pos + 2) 0 then 2 * pos + 2 else 2 * pos + 1
theorem kid_lt (xs : List Int) (pos : Nat) (h : 2 * pos + 1 < xs.length) : pos < kid xs pos ∧ kid xs pos < xs.length := by unfold kid; split <;> lia
noncomputable def supsW : List Int × Nat → Nat × List Int :=
  WellFounded.fix (C := fun _ => Nat × List Int) (measure fun p : List Int × Nat => p.1.length - p.2).wf fun p rec =>
    if h : 2 * p.2 + 1 < p.1.length then
      rec (p.1.set p.2 (p.1.getD (kid p.1 p.2) 0), kid p.1 p.2) (show (p.1.set p.2 _).length - kid p.1 p.2 < p.1.length - p.2 by rw [List.length_set]; have := kid_lt p.1 p.2 h; lia)
    else (p.2, p.1)
noncomputable def sups (xs : List Int) (pos : Nat) : Nat × List Int := supsW (xs, pos)
theorem sups_eq (xs : List Int) (pos : Nat) : sups xs pos =
    if 2 * pos + 1 < xs.length then sups (xs.set pos (xs.getD (kid xs pos) 0)) (kid xs pos) else (pos, xs) := by
  unfold sups supsW
  rw [WellFounded.fix_eq]; rfl
theorem sups_ind {M : List Int → Nat → Nat × List Int → Prop}
    (h1 : ∀ xs pos, 2 * pos + 1 < xs.length → ∀ r, M (xs.set pos (xs.getD (kid xs pos) 0)) (kid xs pos) r → M xs pos r)
    (h2 : ∀ xs pos, ¬ 2 * pos + 1 < xs.length → M xs pos (pos, xs)) (xs : List Int) (pos : Nat) : M xs pos (sups xs pos) := by
  suffices ∀ n (xs : List Int) pos, xs.length - pos = n → M xs pos (sups xs pos) from this _ _ _ rfl
  intro n
  induction n using Nat.strongRecOn with
  | _ n ih =>
    intro xs pos hn
    rw [sups_eq]
    split
    · next a => exact h1 xs pos a _ (ih _ (by have := kid_lt xs pos a; rw [← hn, List.length_set]; lia) _ _ rfl)
    · next a => exact h2 xs pos a

noncomputable def sup (xs : List Int) (start : Nat) : List Int :=
  let r := sups xs start
  sdown start (xs.getD start 0) (r.2.set r.1 (xs.getD start 0)) r.1

theorem sups_len (xs : List Int) (pos : Nat) : (sups xs pos).2.length = xs.length :=
  sups_ind (M := fun xs _ r => r.2.length = xs.length) (fun _ _ _ _ ih => ih.trans (List.length_set ..)) (fun _ _ _ => rfl) xs pos
theorem sups_lt (xs : List Int) (pos : Nat) (h : pos < xs.length) : (sups xs pos).1 < xs.length :=
  sups_ind (M := fun xs pos r => pos < xs.length → r.1 < xs.length) (fun xs pos a r ih _ => by rw [List.length_set] at ih; exact ih (kid_lt xs pos a).2) (fun _ _ _ h => h) xs pos h

theorem siftup_ok {c : Cx} {n : Nat} {H : AH} {a : Addr} {xs : List Int} {pos : Nat} (hl : H a = some (.list (xs.map .int))) (hp : pos < xs.length) (hz : xs.length < 1000) :
    TC c (n + 2) (.ref 190) [.ref a, .int pos] H fun v H' => v = .none ∧ H' = upd H a (.list ((sup xs pos).map .int)) := by
  let Q0 : AV → AH → Prop := fun v H' => v = .none ∧ H' = upd H a (.list ((sup xs pos).map .int))
  show TC _ _ _ _ _ Q0
  refine TC_def [Str.ofString "heap", Str.ofString "pos"] [Str.ofString "endpos", Str.ofString "startpos", Str.ofString "newitem", Str.ofString "childpos", Str.ofString "rightpos"] rfl rfl rfl (by kernel_rfl) rfl rfl ?_ (by decide) (by decide) (by decide) rfl rfl rfl rfl ?_
  · intro vs hvs
    rcases vs with _ | ⟨v1, _ | ⟨v2, _ | _⟩⟩ <;> first | rfl | (simp at hvs)
  intro L
  have hlen : (xs.map AV.int).length = xs.length := List.length_map ..
  refine JSS_cons (JS_set 2 (JE_len (JE_N 0 ⟨a, _, rfl, .inl (gets_of hl), by lia, ?_⟩)))
  rw [hlen]
  refine JSS_cons (JS_set 3 (JE_N 1 ?_))
  refine JSS_cons (JS_set 4 (JE_item (JE_N 0 (JE_N 1 ⟨a, pos, _, .int (xs.getD pos 0), rfl, rfl, gets_of hl, item_map hp hz, ?_⟩))))
  refine JSS_cons (JS_set 5 (JE_BinOp (JE_BinOp (JE_int (JE_N 1 (J_mul2 (JE_int (J_add ?_))))))))
  let hI1 : Nat → PS → Prop := fun k P => ∃ (ys : List Int) (p : Nat) (q : AV), k = ys.length - p ∧ p < ys.length ∧ ys.length = xs.length ∧ sups ys p = sups xs pos ∧
        P = ⟨[.ref a, .int p, .int xs.length, .int pos, .int (xs.getD pos 0), .int (2 * p + 1 : Nat), q], upd H a (.list (ys.map .int))⟩
  refine JSS_cons (JS_While (hI1) ?_ (xs.length - pos) ⟨xs, pos, _, rfl, hp, rfl, rfl, by
        rw [upd_same H hl, show ((2 * pos + 1 : Nat) : Int) = 2 * (pos : Int) + 1 by lia]; rfl⟩)
  rintro k _ ⟨ys, p, q, rfl, h1, h2, h3, rfl⟩
  refine JB_Compare (JE_N 5 (JE_N 2 (J_lt ⟨_, rfl, ?_, ?_⟩)))
  · intro hlt
    replace hlt : 2 * p + 1 < ys.length := by have := of_decide_eq_true hlt; lia
    refine JSS_cons (JS_set 6 (JE_BinOp (JE_N 5 (JE_int (J_add ?_)))))
    rw [show ((2 * p + 1 : Nat) : Int) + 1 = ((2 * p + 2 : Nat) : Int) by lia]
    refine JSS_seq (fun P1 => ∃ ch : Nat, ch = kid ys p ∧
      P1 = ⟨[.ref a, .int p, .int xs.length, .int pos, .int (xs.getD pos 0), .int ch, .int (2 * p + 2 : Nat)], upd H a (.list (ys.map .int))⟩) ?_ ?_
    · refine JS_If (JB_And (JB_Compare (JE_N 6 (JE_N 2 (J_lt ⟨_, rfl, ?_, ?_⟩)))))
      · intro hr
        replace hr : 2 * p + 2 < ys.length := by have := of_decide_eq_true hr; lia
        refine JB_Not (JB_Compare (JE_item (JE_N 0 (JE_N 5 ⟨a, _, _, _, rfl, rfl, gets_of (upd_self ..), item_map (i := 2 * p + 1) hlt (by lia), JE_item (JE_N 0 (JE_N 6 ⟨a, _, _, _, rfl, rfl, gets_of (upd_self ..), item_map (i := 2 * p + 2) hr (by lia), J_lt ⟨_, rfl, ?_, ?_⟩⟩))⟩))))
        · intro hc
          replace hc : ¬ ys.getD (2 * p + 1) 0 < ys.getD (2 * p + 2) 0 := by simpa using hc
          refine JSS_cons (JS_set 5 (JE_N 6 (JSS_nil ⟨rfl, 2 * p + 2, (if_pos ⟨hr, hc⟩).symm, rfl⟩)))
        · intro hc
          replace hc : ys.getD (2 * p + 1) 0 < ys.getD (2 * p + 2) 0 := by simpa using hc
          exact JSS_nil ⟨rfl, 2 * p + 1, (if_neg fun h => h.2 hc).symm, rfl⟩
      · intro hr
        replace hr : ¬ 2 * p + 2 < ys.length := by have := of_decide_eq_false hr; lia
        exact ⟨nofun, fun _ => JSS_nil ⟨rfl, 2 * p + 1, (if_neg fun h => hr h.1).symm, rfl⟩⟩
    · rintro _ ⟨ch, hch, rfl⟩
      have hc1 : ch < ys.length ∧ p < ch := by rw [hch]; exact (kid_lt ys p hlt).symm
      refine JSS_cons (JS_setItem (JE_item (JE_N 0 (JE_N 5 ⟨a, _, _, _, rfl, rfl, gets_of (upd_self ..), item_map (i := ch) hc1.1 (by lia), JE_N 0 (JE_N 1 (J_setList (upd_self ..) (by simpa using h1) (by lia) ?_))⟩))))
      refine JSS_cons (JS_set 1 (JE_N 5 ?_))
      refine JSS_cons (JS_set 5 (JE_BinOp (JE_BinOp (JE_int (JE_N 1 (J_mul2 (JE_int (J_add ?_))))))))
      refine JSS_nil ⟨ys.length - ch, by lia, ys.set p (ys.getD ch 0), ch, .int (2 * p + 2 : Nat), by simp, by simpa using hc1.1, by simpa using h2, ?_, ?_⟩
      · rw [← h3]; conv => rhs; rw [sups_eq]
        rw [if_pos hlt]; subst hch; rfl
      · rw [show 2 * (ch : Int) + 1 = ((2 * ch + 1 : Nat) : Int) by lia, upd_upd, List.map_set]; rfl
  · intro hlt
    replace hlt : ¬ 2 * p + 1 < ys.length := by have := of_decide_eq_false hlt; lia
    have hs : sups xs pos = (p, ys) := by rw [← h3, sups_eq, if_neg hlt]
    refine JSS_nil (JSS_cons (JS_setItem (JE_N 4 (JE_N 0 (JE_N 1 (J_setList (upd_self ..) (by simpa using h1) (by lia) ?_))))))
    refine JSS_cons (JS_Expr (JE_Call (fa := 183) (by kernel_rfl) rfl rfl (JL_cons (JE_N 0 (JL_cons (JE_N 3 (JL_cons (JE_N 1 (JL_nil ?_)))))))))
    refine (siftdown_ok (xs := ys.set p (xs.getD pos 0)) (start := pos) (pos := p) (by rw [upd_upd, List.map_set]; exact upd_self ..) (by simpa using h1) (by simp; lia)).mono ?_
    rintro _ _ ⟨rfl, rfl⟩
    refine ⟨nofun, JSS_nil ⟨rfl, ?_⟩⟩
    rw [upd_upd, upd_upd]
    show _ = upd H a (.list (List.map AV.int (sdown pos (xs.getD pos 0) ((sups xs pos).2.set (sups xs pos).1 (xs.getD pos 0)) (sups xs pos).1)))
    rw [hs]
    rw [show (ys.set p (xs.getD pos 0)).getD p 0 = xs.getD pos 0 by simp [List.getD_eq_getElem?_getD, h1]]
end Mine
end

-- part B3
section
open PySem PySem.W PySem.Calls PyProof.Rows
set_option Elab.async false
set_option linter.unusedVariables false
set_option autoImplicit false
set_option maxRecDepth 100000
namespace Mine

noncomputable def addNew (ns : List Int) (x : Int) : List Int := if x ∈ ns then ns else ns ++ [x]
noncomputable def namesAll (script : List Int) : List Int := script.take 6 ++ [6, 2, 9, -4, 7, 1]
noncomputable def namesL (script : List Int) : List Int := ((namesAll script).foldl addNew []).take 6

theorem foldl_take_succ {α β : Type} (f : β → α → β) (b : β) {l : List α} {k : Nat} {x : α} (h : l[k]? = some x) : (l.take (k + 1)).foldl f b = f ((l.take k).foldl f b) x := by
  rw [List.take_add_one, h, List.foldl_append]; rfl
theorem addNew_len (l : List Int) (b : List Int) : (l.foldl addNew b).length ≤ b.length + l.length := by
  induction l generalizing b with
  | nil => simp
  | cons x r ih =>
    rw [List.foldl_cons]
    refine Nat.le_trans (ih _) ?_
    unfold addNew
    split <;> simp <;> lia
theorem map_int_get {xs : List Int} {k : Nat} {v : AV} (h : (xs.map AV.int)[k]? = some v) : ∃ x, xs[k]? = some x ∧ v = .int x := by
  rw [List.getElem?_map] at h
  obtain ⟨x, h1, h2⟩ := Option.map_eq_some_iff.mp h
  exact ⟨x, h1, h2.symm⟩

theorem names_ok {c : Cx} {n : Nat} {H : AH} {a : Addr} {script : List Int} (hl : gets c H a = some (.list (script.map .int))) (hz : script.length ≤ 63) :
    TC c (n + 1) (.ref 197) [.ref a] H fun v H' => ∃ r, v = .ref r ∧ gets c H r = none ∧ H' = upd H r (.list ((namesL script).map .int)) := by
  let Q0 : AV → AH → Prop := fun v H' => ∃ r, v = .ref r ∧ gets c H r = none ∧ H' = upd H r (.list ((namesL script).map .int))
  show TC _ _ _ _ _ Q0
  refine TC.less (TC_def [Str.ofString "script"] [Str.ofString "names", Str.ofString "x"] rfl rfl rfl (by kernel_rfl) rfl rfl ?_ (by decide) (by decide) (by decide) rfl rfl rfl rfl ?_)
  · intro vs hvs
    rcases vs with _ | ⟨v1, _ | _⟩ <;> first | rfl | (simp at hvs)
  intro L
  refine JSS_cons (JS_set 1 (JE_List (JL_nil ⟨by decide, fun r1 hr1 => ?_⟩)))
  have hall : (script.map AV.int).take 6 ++ [AV.int 6, .int 2, .int 9, .int (-4), .int 7, .int 1] = (namesAll script).map .int := by simp [namesAll]
  have hlen : (namesAll script).length ≤ 12 := by simp [namesAll]; lia
  let hI1 : AF → PS → Prop := fun f P1 => f = .next ∧ ∃ l v2 o, l ≠ r1 ∧ gets c H l = none ∧ P1 = ⟨[.ref a, .ref r1, v2], upd (upd H r1 (.list (((namesAll script).foldl addNew []).map .int))) l o⟩
  refine JSS_cons (J.mono (Q := hI1) ?_ ?_)
  · refine JS_ForList (JE_BinOp (JE_upto (JE_N 0 (JE_int ⟨a, _, 6, rfl, rfl, gets_keep hr1 hl, by simp; lia, fun r2 hr2 => ?_⟩))))
    refine JE_List (JL_cons (JE_int (JL_cons (JE_int (JL_cons (JE_int (JL_cons (JE_USub (JE_int ⟨4, rfl, JL_cons (JE_int (JL_cons (JE_int (JL_nil ⟨by decide, fun r3 hr3 => ?_⟩))))⟩)))))))))
    refine J_concat (gets_keep hr3 (gets_of (upd_self ..))) (gets_of (upd_self ..)) (by simp; lia) fun l hl3 => ?_
    rw [hall]
    have hl1 := gets_under hl3; have hl2 := gets_under hl1.2; have hl4 := gets_under hl2.2
    refine ⟨l, (namesAll script).map .int, fun k P => ∃ v2, P = ⟨[.ref a, .ref r1, v2], upd (upd H r1 (.list ((((namesAll script).take k).foldl addNew []).map .int))) l (.list ((namesAll script).map .int))⟩, rfl,
      ⟨⟨[.ref a, .ref r1, .other], upd (upd H r1 (.list [])) l (.list ((namesAll script).map .int))⟩, MLe.refl _, ?_, ⟨.other, rfl⟩⟩, ?_, ?_, ?_⟩
    · exact HLe.both ((HLe.refl _).step (gets_H hr2) |>.step (gets_H (gets_under hr3).2))
    · rintro k _ ⟨v2, rfl⟩; exact gets_of (upd_self ..)
    · rintro k v _ hv ⟨v2, rfl⟩ u hu
      obtain ⟨x, hx, rfl⟩ := map_int_get hv
      have hH : upd (upd H r1 (.list ((((namesAll script).take k).foldl addNew []).map .int))) l (.list ((namesAll script).map .int)) r1 = some (.list ((((namesAll script).take k).foldl addNew []).map .int)) := by rw [upd_ne _ _ hl4.1.symm, upd_self]
      have hk : (((namesAll script).take k).foldl addNew []).length ≤ 12 := by have := addNew_len ((namesAll script).take k) []; simp at this; lia
      refine J_asg 2 ?_
      rw [hu]
      refine JSS_cons (JS_If (JB_Compare (JE_N 2 (JE_N 1 (J_notInList (gets_of hH) ⟨_, rfl, ?_, ?_⟩)))))
      · intro hb
        replace hb : x ∉ ((namesAll script).take k).foldl addNew [] := by simpa using hb
        refine JSS_cons (JS_Expr (JE_meth PySem.F.plainAttrs_list PySem.F.slot_list_append PySem.F.type_list_append (JE_N 1 ⟨r1, _, rfl, gets_of hH, rfl, JL_cons (JE_N 2 (JL_nil (J_append hH (by simp; lia) ⟨nofun, ?_⟩)))⟩)))
        refine JSS_nil (JSS_nil ⟨.int x, ?_⟩)
        rw [foldl_take_succ _ _ hx, addNew, if_neg hb, List.map_append, upd_comm _ _ _ hl4.1, upd_upd, upd_comm _ _ _ hl4.1.symm]; rfl
      · intro hb
        replace hb : x ∈ ((namesAll script).take k).foldl addNew [] := by simpa using hb
        refine JSS_nil (JSS_nil ⟨.int x, ?_⟩)
        rw [foldl_take_succ _ _ hx, addNew, if_pos hb]; rfl
    · rintro _ ⟨v2, rfl⟩
      refine JSS_nil ⟨rfl, l, v2, .list ((namesAll script).map .int), hl4.1, hl4.2, ?_⟩
      rw [List.take_of_length_le (by simp)]
  · rintro _ _ ⟨rfl, l, v2, o, hl1, hl0, rfl⟩
    refine JSS_cons (JS_Return (JE_upto (JE_N 1 (JE_int ⟨r1, _, 6, rfl, rfl, gets_of ((upd_ne _ _ hl1.symm).trans (upd_self ..)), ?_, fun r hr => ?_⟩))))
    · have := addNew_len (namesAll script) []; simp at this ⊢; lia
    · refine ⟨upd H r (.list ((namesL script).map .int)), ?_, r, rfl, (gets_under (gets_under hr).2).2, rfl⟩
      rw [← List.map_take]
      exact HLe.both (HLe.trans ((HLe.upd (gets_H hr1))) (HLe.upd (gets_H ((gets_ne hl1).trans hl0))))
end Mine
end

-- part C1
section
open PySem PySem.W PySem.Calls PyProof.Rows
set_option Elab.async false
set_option linter.unusedVariables false
set_option autoImplicit false
set_option maxRecDepth 100000
namespace Mine

theorem upd_node (H : AH) (a : Addr) (o o' : AO) : upd (upd H a o) a o' = upd H a o' := upd_upd ..

/-- _NodeInfo(k) -/
theorem node_ok {c : Cx} {n : Nat} {H : AH} {k : Int} : TC c (n + 2) (.ref 40) [.int k] H fun v H' => ∃ x d l, v = .ref x ∧ gets c H x = none ∧ gets c H d = none ∧ gets c H l = none ∧ x ≠ d ∧ x ≠ l ∧ d ≠ l ∧
    H' = upd (upd (upd H d (.attrs [])) l (.list [])) x (.node d [.int k, .int 0, .ref l]) := by
  let Q0 : AV → AH → Prop := fun v H' => ∃ x d l, v = .ref x ∧ gets c H x = none ∧ gets c H d = none ∧ gets c H l = none ∧ x ≠ d ∧ x ≠ l ∧ d ≠ l ∧ H' = upd (upd (upd H d (.attrs [])) l (.list [])) x (.node d [.int k, .int 0, .ref l])
  show TC _ _ _ _ _ Q0
  refine TC_make (ao := fun d => .node d []) (mk40 _) (in40 _) (ty36 _) (fun d => ⟨#[], rfl, rfl⟩) fun d x hd hx hdx => ?_
  refine TC_def [Str.ofString "self", Str.ofString "node"] [] rfl rfl rfl (by kernel_rfl) rfl rfl ?_ (by decide) (by decide) (by decide) rfl rfl rfl rfl ?_
  · intro vs hvs
    rcases vs with _ | ⟨v1, _ | ⟨v2, _ | _⟩⟩ <;> first | rfl | (simp at hvs)
  intro L
  have h0 : ∀ o, upd (upd H d (.attrs [])) x o d = some (.attrs []) := fun o => by rw [upd_ne _ _ hdx, upd_self]
  refine JSS_cons (JS_setAttr (JE_N 1 (JE_N 0 (J_setSlot (i := 0) (upd_self ..) (h0 _) (by simp) (by decide) (by simp) (ft1 _) (ty1 _) (sl1 _) ?_))))
  show JSS _ _ _ _ ⟨_, upd (upd (upd H d (.attrs [])) x _) x (.node d [.int k])⟩ _
  rw [upd_upd]
  refine JSS_cons (JS_setAttr (JE_int (JE_N 0 (J_setSlot (i := 1) (upd_self ..) (h0 _) (by simp) (by decide) (by simp) (ft2 _) (ty2 _) (sl2 _) ?_))))
  show JSS _ _ _ _ ⟨_, upd (upd (upd H d (.attrs [])) x _) x (.node d [.int k, .int 0])⟩ _
  rw [upd_upd]
  refine JSS_cons (JS_setAttr (JE_List (JL_nil ⟨by decide, fun l hl => JE_N 0 (J_setSlot (i := 2) (d := d) (vs := [.int k, .int 0]) (fs := []) ?_ ?_ (by simp) (by decide) (by simp) (ft3 _) (ty3 _) (sl3 _) ?_)⟩)))
  · exact H_keep hl (upd_self ..)
  · exact H_keep hl (h0 _)
  · show JSS _ _ _ _ ⟨_, upd (upd (upd (upd H d (.attrs [])) x _) l (.list [])) x (.node d [.int k, .int 0, .ref l])⟩ _
    have z1 := gets_under hl
    have z2 := gets_under z1.2
    refine JSS_nil ⟨rfl, x, d, l, rfl, hx, hd, z2.2, hdx.symm, z1.1.symm, z2.1.symm, ?_⟩
    show upd (upd (upd (upd H d (.attrs [])) x _) l (.list [])) x _ = _
    rw [upd_comm _ _ _ z1.1.symm, upd_upd]
end Mine
end

-- part C2
section
open PySem PySem.W PySem.Calls PyProof.Rows
set_option Elab.async false
set_option genSizeOf false
set_option genInjectivity false
set_option linter.unusedVariables false
set_option autoImplicit false
set_option maxRecDepth 100000
namespace Mine

structure Nd where
  k : Int
  np : Int
  succ : List Int

/-- where the sorter's parts lie -/
structure SA where
  d : Addr
  n : Addr
  r : Addr
  t : List (Addr × Addr × Addr)

noncomputable def sAttrs (n r p f : AV) : List (Str × AV) := [(Str.ofString "_node2info", n), (Str.ofString "_ready_nodes", r), (Str.ofString "_npassedout", p), (Str.ofString "_nfinished", f)]
noncomputable def rdv (X : SA) : Option (List Int) → AV
  | none => .none
  | some _ => .ref X.r
noncomputable def entsOf (nds : List Nd) (t : List (Addr × Addr × Addr)) : List (Int × AV) := (nds.map (·.k)).zip (t.map fun a => AV.ref a.1)

structure Sorter (H : AH) (s : Addr) (X : SA) (nds : List Nd) (rd : Option (List Int)) (p f : Int) : Prop where
  inst : H s = some (.inst 137 X.d)
  attrs : H X.d = some (.attrs (sAttrs (.ref X.n) (rdv X rd) (.int p) (.int f)))
  ready : ∀ l, rd = some l → H X.r = some (.list (l.map .int)) ∧ X.r ∉ X.t.map (·.2.2)
  dict : ∃ ep, H X.n = some (.dict (entsOf nds X.t) ep)
  len : X.t.length = nds.length
  nodes : ∀ (i : Nat) (nd : Nd) (a : Addr × Addr × Addr), nds[i]? = some nd → X.t[i]? = some a → H a.1 = some (.node a.2.1 [.int nd.k, .int nd.np, .ref a.2.2]) ∧ H a.2.1 = some (.attrs []) ∧ H a.2.2 = some (.list (nd.succ.map .int))
  nd1 : (X.t.map (·.1)).Nodup
  nd2 : (X.t.map (·.2.2)).Nodup
  keys : (nds.map (·.k)).Nodup

noncomputable def fpt (t : List (Addr × Addr × Addr)) : List Addr := t.map (·.1) ++ (t.map (·.2.1) ++ t.map (·.2.2))
noncomputable def fp (s : Addr) (X : SA) (rd : Option (List Int)) : List Addr := s :: X.d :: X.n :: ((if rd.isSome then [X.r] else []) ++ fpt X.t)

/-- what stands outside stays -/
noncomputable def Keep (H : AH) (l : List Addr) (H' : AH) (l' : List Addr) : Prop := ∀ a o, H a = some o → a ∉ l → H' a = some o ∧ a ∉ l'
theorem Keep.refl (H : AH) (l : List Addr) : Keep H l H l := fun _ _ h n => ⟨h, n⟩
theorem Keep.trans {H H1 H2 : AH} {l l1 l2 : List Addr} (a : Keep H l H1 l1) (b : Keep H1 l1 H2 l2) : Keep H l H2 l2 := fun x o h n => b x o (a x o h n).1 (a x o h n).2
theorem Keep.put {H : AH} {l : List Addr} {a : Addr} {o : AO} (h : a ∈ l) : Keep H l (upd H a o) l := fun x ox e n => ⟨by rw [upd_ne _ _ (fun q : x = a => n (q ▸ h))]; exact e, n⟩
theorem Keep.new {H : AH} {l : List Addr} {a : Addr} {o : AO} (h : H a = none) : Keep H l (upd H a o) l := fun x ox e n => ⟨by rw [upd_ne _ _ (fun q => by subst q; rw [h] at e; cases e)]; exact e, n⟩
theorem Keep.own {H : AH} {l l' : List Addr} (h : ∀ a ∈ l', a ∈ l ∨ H a = none) : Keep H l H l' := fun x o e n => ⟨e, fun m => by rcases h x m with q | q; exact n q; rw [e] at q; cases q⟩

theorem ne_of {H : AH} {a b : Addr} {x y : AO} (h1 : H a = some x) (h2 : H b = some y) (n : x ≠ y) : a ≠ b := fun e => by subst e; rw [h1] at h2; exact n (Option.some.inj h2)

section
variable {H : AH} {s : Addr} {X : SA} {nds : List Nd} {rd : Option (List Int)} {p f : Int}

theorem Sorter.mono {H' : AH} (S : Sorter H s X nds rd p f) (h : ∀ a ∈ fp s X rd, ∀ o, H a = some o → H' a = some o) : Sorter H' s X nds rd p f := by
  have ht : ∀ (i : Nat) (a : Addr × Addr × Addr), X.t[i]? = some a → a.1 ∈ fp s X rd ∧ a.2.1 ∈ fp s X rd ∧ a.2.2 ∈ fp s X rd := fun i a e => by
    have := List.mem_of_getElem? e
    refine ⟨?_, ?_, ?_⟩ <;> simp only [fp, fpt, List.mem_cons, List.mem_append, List.mem_map]
    · exact .inr (.inr (.inr (.inr (.inl ⟨a, this, rfl⟩))))
    · exact .inr (.inr (.inr (.inr (.inr (.inl ⟨a, this, rfl⟩)))))
    · exact .inr (.inr (.inr (.inr (.inr (.inr ⟨a, this, rfl⟩)))))
  obtain ⟨ep, hd⟩ := S.dict
  refine ⟨h s (by simp [fp]) _ S.inst, h _ (by simp [fp]) _ S.attrs, fun l e => ⟨h _ (by subst e; simp [fp]) _ (S.ready l e).1, (S.ready l e).2⟩, ⟨ep, h _ (by simp [fp]) _ hd⟩, S.len, fun i nd a e1 e2 => ?_, S.nd1, S.nd2, S.keys⟩
  obtain ⟨h1, h2, h3⟩ := S.nodes i nd a e1 e2
  exact ⟨h _ (ht i a e2).1 _ h1, h _ (ht i a e2).2.1 _ h2, h _ (ht i a e2).2.2 _ h3⟩

/-- an address outside -/
theorem Sorter.frame {a : Addr} {o : AO} (S : Sorter H s X nds rd p f) (h : a ∉ fp s X rd) : Sorter (upd H a o) s X nds rd p f :=
  S.mono fun b hb ob e => by rw [upd_ne _ _ (fun q : b = a => h (q ▸ hb))]; exact e

theorem entsOf_get {t : List (Addr × Addr × Addr)} (hl : t.length = nds.length) {i : Nat} {nd : Nd} (e : nds[i]? = some nd) : ∃ a, t[i]? = some a ∧ (entsOf nds t)[i]? = some (nd.k, .ref a.1) := by
  have hi : i < t.length := by have := (List.getElem?_eq_some_iff.mp e).1; lia
  refine ⟨t[i], List.getElem?_eq_getElem hi, ?_⟩
  unfold entsOf
  exact List.getElem?_zip_eq_some.mpr ⟨by rw [List.getElem?_map, e]; rfl, by rw [List.getElem?_map, List.getElem?_eq_getElem hi]; rfl⟩

theorem lookup_get {es : List (Int × AV)} (hn : (es.map (·.1)).Nodup) {i : Nat} {k : Int} {v : AV} (e : es[i]? = some (k, v)) : es.lookup k = some v := by
  induction es generalizing i with
  | nil => simp at e
  | cons q r ih =>
    obtain ⟨k', v'⟩ := q
    rw [List.map_cons, List.nodup_cons] at hn
    rw [List.lookup_cons]
    cases i with
    | zero => simp at e; obtain ⟨rfl, rfl⟩ := e; simp
    | succ i =>
      simp at e
      have : k ≠ k' := fun z => by subst z; exact hn.1 (List.mem_map.mpr ⟨(k, v), List.mem_of_getElem? e, rfl⟩)
      rw [beq_eq_false_iff_ne.mpr this]; exact ih hn.2 e
theorem entsOf_keys {t : List (Addr × Addr × Addr)} (hl : t.length = nds.length) : (entsOf nds t).map (·.1) = nds.map (·.k) := by
  unfold entsOf
  exact List.map_fst_zip (by simp; lia)
end
end Mine
end

-- part C3
section
open PySem PySem.W PySem.Calls PyProof.Rows
set_option Elab.async false
set_option linter.unusedVariables false
set_option autoImplicit false
set_option maxRecDepth 100000
namespace Mine
section
variable {H : AH} {s : Addr} {X : SA} {nds : List Nd} {rd : Option (List Int)} {p f : Int}

theorem upd_at {a b : Addr} {o x y : AO} (h1 : H a = some x) (h2 : H b = some y) (n : y ≠ x) : upd H a o b = some y := by rw [upd_ne _ _ (ne_of h2 h1 n)]; exact h2
theorem upd_off {a b : Addr} {o y : AO} (n : b ≠ a) (h2 : H b = some y) : upd H a o b = some y := by rw [upd_ne _ _ n]; exact h2

theorem nodup_ne {α : Type} {g : (Addr × Addr × Addr) → α} {t : List (Addr × Addr × Addr)} (hn : (t.map g).Nodup) {i j : Nat} {a b : Addr × Addr × Addr} (ha : t[i]? = some a) (hb : t[j]? = some b) (hij : j ≠ i) : g b ≠ g a := fun e => by
  obtain ⟨hi, rfl⟩ := List.getElem?_eq_some_iff.mp ha
  obtain ⟨hj, rfl⟩ := List.getElem?_eq_some_iff.mp hb
  refine hij ((List.getElem_inj (h₀ := by simpa using hj) (h₁ := by simpa using hi) hn).mp ?_)
  rw [List.getElem_map, List.getElem_map]; exact e

theorem keys_set {i : Nat} {nd nd' : Nd} (hi : nds[i]? = some nd) (hk : nd'.k = nd.k) : (nds.set i nd').map (·.k) = nds.map (·.k) := by
  rw [List.map_set]
  apply List.ext_getElem?
  intro j
  by_cases q : i = j
  · subst q
    have := (List.getElem?_eq_some_iff.mp hi).1
    rw [List.getElem?_set_self (by simpa using this), List.getElem?_map, hi, hk]; rfl
  · rw [List.getElem?_set_ne q]

theorem entsOf_set {t : List (Addr × Addr × Addr)} {i : Nat} {nd nd' : Nd} (hi : nds[i]? = some nd) (hk : nd'.k = nd.k) : entsOf (nds.set i nd') t = entsOf nds t := by
  unfold entsOf; rw [keys_set hi hk]

theorem Sorter.setNp {i : Nat} {nd : Nd} {a : Addr × Addr × Addr} (S : Sorter H s X nds rd p f) (hi : nds[i]? = some nd) (ha : X.t[i]? = some a) (np : Int) :
    Sorter (upd H a.1 (.node a.2.1 [.int nd.k, .int np, .ref a.2.2])) s X (nds.set i ⟨nd.k, np, nd.succ⟩) rd p f := by
  obtain ⟨ep, hd⟩ := S.dict
  obtain ⟨n1, n2, n3⟩ := S.nodes i nd a hi ha
  have hlt := (List.getElem?_eq_some_iff.mp hi).1
  refine ⟨upd_at n1 S.inst nofun, upd_at n1 S.attrs nofun, fun l e => ⟨upd_at n1 (S.ready l e).1 nofun, (S.ready l e).2⟩, ⟨ep, by rw [entsOf_set hi (by rfl)]; exact upd_at n1 hd nofun⟩, by rw [List.length_set]; exact S.len, fun j nd' b e1 e2 => ?_, S.nd1, S.nd2, by rw [keys_set hi (by rfl)]; exact S.keys⟩
  by_cases q : i = j
  · subst q
    rw [List.getElem?_set_self hlt] at e1
    cases e1
    rw [ha] at e2; cases e2
    exact ⟨upd_self .., upd_at n1 n2 nofun, upd_at n1 n3 nofun⟩
  · rw [List.getElem?_set_ne q] at e1
    obtain ⟨m1, m2, m3⟩ := S.nodes j nd' b e1 e2
    exact ⟨upd_off (nodup_ne S.nd1 ha e2 (Ne.symm q)) m1, upd_at n1 m2 nofun, upd_at n1 m3 nofun⟩

theorem Sorter.setSucc {i : Nat} {nd : Nd} {a : Addr × Addr × Addr} (S : Sorter H s X nds rd p f) (hi : nds[i]? = some nd) (ha : X.t[i]? = some a) (su : List Int) :
    Sorter (upd H a.2.2 (.list (su.map .int))) s X (nds.set i ⟨nd.k, nd.np, su⟩) rd p f := by
  obtain ⟨ep, hd⟩ := S.dict
  obtain ⟨n1, n2, n3⟩ := S.nodes i nd a hi ha
  have hlt := (List.getElem?_eq_some_iff.mp hi).1
  refine ⟨upd_at n3 S.inst nofun, upd_at n3 S.attrs nofun, fun l e => ⟨upd_off (fun q => (S.ready l e).2 (q ▸ List.mem_map.mpr ⟨a, List.mem_of_getElem? ha, rfl⟩)) (S.ready l e).1, (S.ready l e).2⟩, ⟨ep, by rw [entsOf_set hi (by rfl)]; exact upd_at n3 hd nofun⟩, by rw [List.length_set]; exact S.len, fun j nd' b e1 e2 => ?_, S.nd1, S.nd2, by rw [keys_set hi (by rfl)]; exact S.keys⟩
  by_cases q : i = j
  · subst q
    rw [List.getElem?_set_self hlt] at e1
    cases e1
    rw [ha] at e2; cases e2
    exact ⟨upd_at n3 n1 nofun, upd_at n3 n2 nofun, upd_self ..⟩
  · rw [List.getElem?_set_ne q] at e1
    obtain ⟨m1, m2, m3⟩ := S.nodes j nd' b e1 e2
    exact ⟨upd_at n3 m1 nofun, upd_at n3 m2 nofun, upd_off (nodup_ne S.nd2 ha e2 (Ne.symm q)) m3⟩

theorem Sorter.setReady {l : List Int} (S : Sorter H s X nds (some l) p f) (l' : List Int) : Sorter (upd H X.r (.list (l'.map .int))) s X nds (some l') p f := by
  obtain ⟨ep, hd⟩ := S.dict
  obtain ⟨r1, r2⟩ := S.ready l rfl
  refine ⟨upd_at r1 S.inst nofun, upd_at r1 S.attrs nofun, fun k e => ?_, ⟨ep, upd_at r1 hd nofun⟩, S.len, fun j nd' b e1 e2 => ?_, S.nd1, S.nd2, S.keys⟩
  · cases e; exact ⟨upd_self .., r2⟩
  · obtain ⟨m1, m2, m3⟩ := S.nodes j nd' b e1 e2
    exact ⟨upd_at r1 m1 nofun, upd_at r1 m2 nofun, upd_off (fun q => r2 (q ▸ List.mem_map.mpr ⟨b, List.mem_of_getElem? e2, rfl⟩)) m3⟩

theorem Sorter.setAttrs {p' f' : Int} (S : Sorter H s X nds rd p f) : Sorter (upd H X.d (.attrs (sAttrs (.ref X.n) (rdv X rd) (.int p') (.int f')))) s X nds rd p' f' := by
  obtain ⟨ep, hd⟩ := S.dict
  have r1 := S.attrs
  refine ⟨upd_at r1 S.inst nofun, upd_self .., fun l e => ⟨upd_at r1 (S.ready l e).1 nofun, (S.ready l e).2⟩, ⟨ep, upd_at r1 hd nofun⟩, S.len, fun j nd' b e1 e2 => ?_, S.nd1, S.nd2, S.keys⟩
  obtain ⟨m1, m2, m3⟩ := S.nodes j nd' b e1 e2
  exact ⟨upd_at r1 m1 nofun, upd_at r1 m2 (fun e => by cases e), upd_at r1 m3 nofun⟩
end
end Mine
end

-- part C4
section
open PySem PySem.W PySem.Calls PyProof.Rows
set_option Elab.async false
set_option linter.unusedVariables false
set_option autoImplicit false
set_option maxRecDepth 100000
namespace Mine

theorem tk1 (w : World) : takerIn (KW w) 137 "_node2info" = some none := by kernel_rfl
theorem tk2 (w : World) : takerIn (KW w) 137 "_ready_nodes" = some none := by kernel_rfl
theorem tk3 (w : World) : takerIn (KW w) 137 "_npassedout" = some none := by kernel_rfl
theorem tk4 (w : World) : takerIn (KW w) 137 "_nfinished" = some none := by kernel_rfl
theorem fa1 (w : World) : findIn (KW w) (.ref 137) "_node2info" = some none := by kernel_rfl
theorem fa2 (w : World) : findIn (KW w) (.ref 137) "_ready_nodes" = some none := by kernel_rfl
theorem fa3 (w : World) : findIn (KW w) (.ref 137) "_npassedout" = some none := by kernel_rfl
theorem fa4 (w : World) : findIn (KW w) (.ref 137) "_nfinished" = some none := by kernel_rfl
theorem lk66 (w : World) : ∃ o, (KW w).lookup 66 = some o ∧ o.data = .seq #[.none] 0 := ⟨_, rfl, rfl⟩

theorem fs1 (n : AV) : fset [] "_node2info" n = [(Str.ofString "_node2info", n)] := rfl
theorem fs2 (n r : AV) : fset [(Str.ofString "_node2info", n)] "_ready_nodes" r = [(Str.ofString "_node2info", n), (Str.ofString "_ready_nodes", r)] := by
  simp only [fset]; rw [if_neg (by decide)]
theorem fs3 (n r p : AV) : fset [(Str.ofString "_node2info", n), (Str.ofString "_ready_nodes", r)] "_npassedout" p = [(Str.ofString "_node2info", n), (Str.ofString "_ready_nodes", r), (Str.ofString "_npassedout", p)] := by
  simp only [fset]; rw [if_neg (by decide), if_neg (by decide)]
theorem fs4 (n r p f : AV) : fset [(Str.ofString "_node2info", n), (Str.ofString "_ready_nodes", r), (Str.ofString "_npassedout", p)] "_nfinished" f = sAttrs n r p f := by
  simp only [fset]; rw [if_neg (by decide), if_neg (by decide), if_neg (by decide)]; rfl
theorem ss2 (n r p f r' : AV) : fset (sAttrs n r p f) "_ready_nodes" r' = sAttrs n r' p f := by
  simp only [sAttrs, fset]; rw [if_neg (by decide), if_pos trivial]
theorem ss3 (n r p f p' : AV) : fset (sAttrs n r p f) "_npassedout" p' = sAttrs n r p' f := by
  simp only [sAttrs, fset]; rw [if_neg (by decide), if_neg (by decide), if_pos trivial]
theorem ss4 (n r p f f' : AV) : fset (sAttrs n r p f) "_nfinished" f' = sAttrs n r p f' := by
  simp only [sAttrs, fset]; rw [if_neg (by decide), if_neg (by decide), if_neg (by decide), if_pos trivial]
theorem sl_1 (n r p f : AV) : look (sAttrs n r p f) "_node2info" = some n := by simp only [sAttrs, look]; rw [if_pos trivial]
theorem sl_2 (n r p f : AV) : look (sAttrs n r p f) "_ready_nodes" = some r := by simp only [sAttrs, look]; rw [if_neg (by decide), if_pos trivial]
theorem sl_3 (n r p f : AV) : look (sAttrs n r p f) "_npassedout" = some p := by simp only [sAttrs, look]; rw [if_neg (by decide), if_neg (by decide), if_pos trivial]
theorem sl_4 (n r p f : AV) : look (sAttrs n r p f) "_nfinished" = some f := by simp only [sAttrs, look]; rw [if_neg (by decide), if_neg (by decide), if_neg (by decide), if_pos trivial]

/-- TopologicalSorter() -/
theorem sorter_ok {c : Cx} {n : Nat} {H : AH} : TC c (n + 2) (.ref 137) [] H fun v H' => ∃ x d m, v = .ref x ∧ gets c H x = none ∧ gets c H d = none ∧ gets c H m = none ∧ Sorter H' x ⟨d, m, 0, []⟩ [] none 0 0 ∧ ∀ a o, H a = some o → H' a = some o := by
  let Q0 : AV → AH → Prop := fun v H' => ∃ x d m, v = .ref x ∧ gets c H x = none ∧ gets c H d = none ∧ gets c H m = none ∧ Sorter H' x ⟨d, m, 0, []⟩ [] none 0 0 ∧ ∀ a o, H a = some o → H' a = some o
  show TC _ _ _ _ _ Q0
  refine TC_make (ao := fun d => .inst 137 d) (mk137 _) (in137 _) (ty73 _) (fun d => rfl) fun d x hd hx hdx => ?_
  refine TC_bind [Str.ofString "self", Str.ofString "graph"] [Str.ofString "node", Str.ofString "predecessors"] rfl rfl rfl (by kernel_rfl) rfl rfl (by decide) (by decide) (by decide) rfl rfl rfl fun vs hvs => ?_
  obtain ⟨v1, rfl, e1⟩ := map1 hvs
  refine TH_pureB (us := [v1, .none]) (fun s hp => ?_) ⟨[.ref x, .none], by rw [List.map_cons, e1]; rfl, rfl, fun L => ?_⟩
  · obtain ⟨o, ho, hd⟩ := lk66 c.w
    exact BindsTo.of_defaults (T := 66) (o := o) rfl (hp.K _ _ ho) hd rfl rfl
  have q0 : upd (upd H d (.attrs [])) x (.inst 137 d) d = some (.attrs []) := by rw [upd_ne _ _ hdx, upd_self]
  refine JSS_cons (JS_setAttr (JE_dict0 fun m hm => JE_N 0 (J_setOwn (fs := []) (by simp) (H_keep hm (upd_self ..)) (H_keep hm q0) (tk1 _) ?_)))
  have z1 := gets_under hm
  have z2 := gets_under z1.2
  have q1 : ∀ o, upd (upd (upd (upd H d (.attrs [])) x (.inst 137 d)) m (.dict [] 0)) d o x = some (.inst 137 d) := fun o => by rw [upd_ne _ _ hdx.symm, upd_ne _ _ z1.1.symm, upd_self]
  rw [fs1]
  refine JSS_cons (JS_setAttr (JE_none (JE_N 0 (J_setOwn (by simp) (q1 _) (upd_self ..) (tk2 _) ?_))))
  show JSS _ _ _ _ ⟨_, upd (upd _ d _) d _⟩ _
  rw [upd_upd, fs2]
  refine JSS_cons (JS_setAttr (JE_int (JE_N 0 (J_setOwn (by simp) (q1 _) (upd_self ..) (tk3 _) ?_))))
  show JSS _ _ _ _ ⟨_, upd (upd _ d _) d _⟩ _
  rw [upd_upd, fs3]
  refine JSS_cons (JS_setAttr (JE_int (JE_N 0 (J_setOwn (by simp) (q1 _) (upd_self ..) (tk4 _) ?_))))
  show JSS _ _ _ _ ⟨_, upd (upd _ d _) d _⟩ _
  rw [upd_upd, fs4]
  refine JSS_cons (JS_If (JB_Compare (JE_N 1 (JE_none (J_isnot ⟨_, rfl, ?_, fun _ => ?_⟩)))))
  · intro h; simp [isNone] at h
  refine JSS_nil (JSS_nil ⟨rfl, x, d, m, rfl, hx, hd, z2.2, ⟨q1 _, upd_self .., nofun, ⟨0, ?_⟩, rfl, nofun, List.nodup_nil, List.nodup_nil, List.nodup_nil⟩, fun a o e => ?_⟩)
  · show upd (upd _ m _) d _ m = _
    rw [upd_ne _ _ z2.1, upd_self]; rfl
  · have hne : a ≠ d := fun q => by subst q; rw [gets_H hd] at e; cases e
    show upd _ d _ a = _
    rw [upd_ne _ _ hne]
    exact H_keep hm (H_keep ((gets_ne hdx.symm).trans hx) (H_keep hd e))
end Mine
end

-- part C5
section
open PySem PySem.W PySem.Calls PyProof.Rows
set_option Elab.async false
set_option linter.unusedVariables false
set_option autoImplicit false
set_option maxRecDepth 100000
namespace Mine

noncomputable def addK (nds : List Nd) (k : Int) : List Nd := if k ∈ nds.map (·.k) then nds else nds ++ [⟨k, 0, []⟩]

theorem lookup_none {es : List (Int × AV)} {k : Int} (h : k ∉ es.map (·.1)) : es.lookup k = none := by
  rw [List.lookup_eq_none_iff]
  intro p hp
  have : k ≠ p.1 := fun q => h (q ▸ List.mem_map.mpr ⟨p, hp, rfl⟩)
  simpa using this
theorem dset_new {es : List (Int × AV)} {k : Int} {v : AV} (h : k ∉ es.map (·.1)) : dset es k v = es ++ [(k, v)] := by
  unfold dset
  rw [if_neg]
  intro q
  obtain ⟨p, hp, e⟩ := List.any_eq_true.mp q
  exact h (List.mem_map.mpr ⟨p, hp, by simpa using e⟩)
theorem key_at {nds : List Nd} {k : Int} (h : k ∈ nds.map (·.k)) : ∃ (i : Nat) (nd : Nd), nds[i]? = some nd ∧ nd.k = k := by
  obtain ⟨nd, h1, h2⟩ := List.mem_map.mp h
  obtain ⟨i, hi⟩ := List.getElem?_of_mem h1
  exact ⟨i, nd, hi, h2⟩
theorem Sorter.look {H : AH} {s : Addr} {X : SA} {nds : List Nd} {rd : Option (List Int)} {p f : Int} (S : Sorter H s X nds rd p f) {i : Nat} {nd : Nd} {a : Addr × Addr × Addr} (hi : nds[i]? = some nd) (ha : X.t[i]? = some a) : (entsOf nds X.t).lookup nd.k = some (.ref a.1) := by
  obtain ⟨a', e1, e2⟩ := entsOf_get S.len hi
  rw [ha] at e1; cases e1
  exact lookup_get (by rw [entsOf_keys S.len]; exact S.keys) e2

theorem Sorter.new {H : AH} {s : Addr} {X : SA} {nds : List Nd} {rd : Option (List Int)} {p f : Int} (S : Sorter H s X nds rd p f) {k : Int} {x d l : Addr} {ep : Nat} (hk : k ∉ nds.map (·.k)) (hx : H x = none) (hd : H d = none) (hl : H l = none) (h1 : x ≠ d) (h2 : x ≠ l) (h3 : d ≠ l) :
    Sorter (upd (upd (upd (upd H d (.attrs [])) l (.list [])) x (.node d [.int k, .int 0, .ref l])) X.n (.dict (entsOf nds X.t ++ [(k, .ref x)]) ep)) s ⟨X.d, X.n, X.r, X.t ++ [(x, d, l)]⟩ (nds ++ [⟨k, 0, []⟩]) rd p f ∧
    Keep H (fp s X rd) (upd (upd (upd (upd H d (.attrs [])) l (.list [])) x (.node d [.int k, .int 0, .ref l])) X.n (.dict (entsOf nds X.t ++ [(k, .ref x)]) ep)) (fp s ⟨X.d, X.n, X.r, X.t ++ [(x, d, l)]⟩ rd) := by
  obtain ⟨ep0, hd0⟩ := S.dict
  have nn : ∀ {a : Addr} {o : AO} {b : Addr}, H a = some o → H b = none → a ≠ b := fun e1 e2 q => by subst q; rw [e1] at e2; cases e2
  have keep : ∀ {a : Addr} {o : AO}, H a = some o → a ≠ X.n → upd (upd (upd (upd H d (.attrs [])) l (.list [])) x (.node d [.int k, .int 0, .ref l])) X.n (.dict (entsOf nds X.t ++ [(k, .ref x)]) ep) a = some o := fun e n => by
    rw [upd_ne _ _ n, upd_ne _ _ (nn e hx), upd_ne _ _ (nn e hl), upd_ne _ _ (nn e hd)]; exact e
  have isNd : ∀ (i : Nat) (a : Addr × Addr × Addr), X.t[i]? = some a → ∃ nd, nds[i]? = some nd := fun i a e => by
    have := (List.getElem?_eq_some_iff.mp e).1
    exact ⟨nds[i]'(by rw [← S.len]; exact this), List.getElem?_eq_getElem _⟩
  have fresh1 : x ∉ X.t.map (·.1) := fun m => by
    obtain ⟨a, ha, rfl⟩ := List.mem_map.mp m
    obtain ⟨i, hi⟩ := List.getElem?_of_mem ha
    obtain ⟨nd, hn⟩ := isNd i a hi
    exact nn (S.nodes i nd a hn hi).1 hx rfl
  have fresh2 : l ∉ X.t.map (·.2.2) := fun m => by
    obtain ⟨a, ha, rfl⟩ := List.mem_map.mp m
    obtain ⟨i, hi⟩ := List.getElem?_of_mem ha
    obtain ⟨nd, hn⟩ := isNd i a hi
    exact nn (S.nodes i nd a hn hi).2.2 hl rfl
  have e1 : entsOf (nds ++ [⟨k, 0, []⟩]) (X.t ++ [(x, d, l)]) = entsOf nds X.t ++ [(k, .ref x)] := by
    unfold entsOf
    rw [List.map_append, List.map_append, List.zip_append (by simp [S.len])]; rfl
  refine ⟨⟨keep S.inst (ne_of S.inst hd0 nofun), keep S.attrs (ne_of S.attrs hd0 nofun), fun q e => ⟨keep (S.ready q e).1 (ne_of (S.ready q e).1 hd0 nofun), ?_⟩, ⟨ep, by rw [e1]; exact upd_self ..⟩, by simp [S.len], fun i nd a z1 z2 => ?_, ?_, ?_, ?_⟩, fun a o e n => ⟨keep e fun q => n (by subst q; simp [fp]), fun m => ?_⟩⟩
  · rw [List.map_append, List.mem_append]
    rintro (m | m)
    · exact (S.ready q e).2 m
    · simp at m; exact nn (S.ready q e).1 hl m
  · by_cases hi : i < nds.length
    · rw [List.getElem?_append_left hi] at z1
      rw [List.getElem?_append_left (by rw [S.len]; exact hi)] at z2
      obtain ⟨m1, m2, m3⟩ := S.nodes i nd a z1 z2
      exact ⟨keep m1 (ne_of m1 hd0 nofun), keep m2 (ne_of m2 hd0 nofun), keep m3 (ne_of m3 hd0 nofun)⟩
    · rw [List.getElem?_append_right (by lia)] at z1
      rw [List.getElem?_append_right (by rw [S.len]; lia), S.len] at z2
      have : i - nds.length = 0 := by
        have := (List.getElem?_eq_some_iff.mp z1).1
        simp at this; lia
      rw [this] at z1 z2
      cases z1; cases z2
      have a1 := nn hd0 hx; have a2 := nn hd0 hd; have a3 := nn hd0 hl
      refine ⟨?_, ?_, ?_⟩
      · rw [upd_ne _ _ a1.symm, upd_self]
      · rw [upd_ne _ _ a2.symm, upd_ne _ _ h1.symm, upd_ne _ _ h3, upd_self]
      · rw [upd_ne _ _ a3.symm, upd_ne _ _ h2.symm, upd_self]; rfl
  · rw [List.map_append]; exact List.nodup_append.mpr ⟨S.nd1, by simp, fun a ha b hb => by simp at hb; subst hb; exact fun q => fresh1 (q ▸ ha)⟩
  · rw [List.map_append]; exact List.nodup_append.mpr ⟨S.nd2, by simp, fun a ha b hb => by simp at hb; subst hb; exact fun q => fresh2 (q ▸ ha)⟩
  · rw [List.map_append]; exact List.nodup_append.mpr ⟨S.keys, by simp, fun a ha b hb => by simp at hb; subst hb; exact fun q => hk (q ▸ ha)⟩
  · have : a ∈ fp s X rd ∨ a = x ∨ a = d ∨ a = l := by
      simp only [fp, fpt, List.map_append, List.mem_cons, List.mem_append, List.map_cons, List.map_nil, List.not_mem_nil, or_false] at m ⊢
      grind
    rcases this with q | q | q | q
    · exact n q
    · subst q; rw [hx] at e; cases e
    · subst q; rw [hd] at e; cases e
    · subst q; rw [hl] at e; cases e

theorem ni80 (w : World) : findIn (KW w) (.ref 137) "_get_nodeinfo" = some (some (.ref 80)) := by kernel_rfl
theorem tf80 (w : World) : typeIn (KW w) (.ref 80) = some (.type "function") := by kernel_rfl
theorem kn40 (w : World) : nsIn (KW w) mainGlobals "_NodeInfo" = some (some (.ref 40)) := by kernel_rfl
theorem kk40 (w : World) : keepIn (KW w) (.ref 40) = true := by kernel_rfl

/-- self._get_nodeinfo(k) -/
theorem getNode_ok {c : Cx} {n : Nat} {H : AH} {s : Addr} {X : SA} {nds : List Nd} {rd : Option (List Int)} {p f : Int} (S : Sorter H s X nds rd p f) (hz : nds.length ≤ 100) {k : Int} :
    TC c (n + 3) (.ref 80) [.ref s, .int k] H fun v H' => ∃ (X' : SA) (i : Nat) (nd : Nd) (a : Addr × Addr × Addr), Sorter H' s X' (addK nds k) rd p f ∧ (addK nds k)[i]? = some nd ∧ nd.k = k ∧ X'.t[i]? = some a ∧ v = .ref a.1 ∧ Keep H (fp s X rd) H' (fp s X' rd) ∧ X'.r = X.r := by
  let Q0 : AV → AH → Prop := fun v H' => ∃ (X' : SA) (i : Nat) (nd : Nd) (a : Addr × Addr × Addr), Sorter H' s X' (addK nds k) rd p f ∧ (addK nds k)[i]? = some nd ∧ nd.k = k ∧ X'.t[i]? = some a ∧ v = .ref a.1 ∧ Keep H (fp s X rd) H' (fp s X' rd) ∧ X'.r = X.r
  show TC _ _ _ _ _ Q0
  obtain ⟨ep, hd⟩ := S.dict
  refine TC_def [Str.ofString "self", Str.ofString "node"] [Str.ofString "result"] rfl rfl rfl (by kernel_rfl) rfl rfl ?_ (by decide) (by decide) (by decide) rfl rfl rfl rfl ?_
  · intro vs hvs
    rcases vs with _ | ⟨v1, _ | ⟨v2, _ | _⟩⟩ <;> first | rfl | (simp at hvs)
  intro L
  refine JSS_cons (JS_If (JB_Compare (JE_named (JE_meth PySem.F.plainAttrs_dict PySem.F.slot_dict_get PySem.F.type_dict_get (JE_attr (JE_N 0 (J_getOwn S.inst S.attrs (sl_1 ..) nofun (fa1 _) ⟨X.n, _, rfl, gets_of hd, rfl,
    JL_cons (JE_N 1 (JL_nil (J_getDict hd ?_)))⟩)))))))
  intro u hu
  refine J_asg 2 (JE_none (J_is ?_))
  rw [hu]
  by_cases hk : k ∈ nds.map (·.k)
  · obtain ⟨i, nd, hi, rfl⟩ := key_at hk
    obtain ⟨a, ha, _⟩ := entsOf_get S.len hi
    rw [S.look hi ha]
    refine ⟨_, rfl, ?_, fun _ => ?_⟩
    · intro h; simp [isNone] at h
    refine JSS_nil (JSS_cons (JS_Return (JE_N 2 (v := .ref a.1) ⟨X, i, nd, a, ?_, ?_, rfl, ha, rfl, Keep.refl _ _, rfl⟩)))
    · rw [addK, if_pos hk]; exact S
    · rw [addK, if_pos hk]; exact hi
  · have hk' : k ∉ (entsOf nds X.t).map (·.1) := by rw [entsOf_keys S.len]; exact hk
    rw [lookup_none hk']
    refine ⟨_, rfl, fun _ => ?_, ?_⟩
    · refine JSS_cons (JS_two (JE_class (kn40 _) (kk40 _) (JL_cons (JE_N 1 (JL_nil (TC.mono node_ok ?_))))))
      rintro _ _ ⟨x, d, l, rfl, g1, g2, g3, g4, g5, g6, rfl⟩ u hu
      obtain rfl := abs_ref hu
      have kp : ∀ {a : Addr} {o : AO}, H a = some o → upd (upd (upd H d (.attrs [])) l (.list [])) x (.node d [.int k, .int 0, .ref l]) a = some o := fun {a o} e => by
        have nn : ∀ {b : Addr}, gets c H b = none → a ≠ b := fun e2 q => by subst q; rw [gets_H e2] at e; cases e
        rw [upd_ne _ _ (nn g1), upd_ne _ _ (nn g3), upd_ne _ _ (nn g2)]; exact e
      refine J_asgItem (JE_attr (JE_N 0 (J_getOwn (kp S.inst) (kp S.attrs) (sl_1 ..) nofun (fa1 _) (JE_N 1 fun vo vi eo ei => ?_))))
      refine J_setDict (v := .ref x) (kp hd) (by simp [entsOf]; lia) (fun ep' => ?_) _ _ _ rfl eo ei
      rw [dset_new hk']
      refine J_asg 2 ?_
      obtain ⟨S', K'⟩ := S.new (ep := ep') hk (gets_H g1) (gets_H g2) (gets_H g3) g4 g5 g6
      refine JSS_nil (JSS_cons (JS_Return (JE_N 2 (v := .ref x) ⟨⟨X.d, X.n, X.r, X.t ++ [(x, d, l)]⟩, nds.length, ⟨k, 0, []⟩, (x, d, l), ?_, ?_, rfl, ?_, rfl, K', rfl⟩)))
      · rw [addK, if_neg hk]; exact S'
      · rw [addK, if_neg hk]; simp
      · rw [← S.len]; simp
    · intro h; simp [isNone] at h
end Mine
end

-- part C6
section
open PySem PySem.W PySem.Calls PyProof.Rows
set_option Elab.async false
set_option linter.unusedVariables false
set_option autoImplicit false
set_option maxRecDepth 100000
namespace Mine

noncomputable def bump (nds : List Nd) (k m : Int) : List Nd := nds.map fun nd => if nd.k = k then ⟨nd.k, nd.np + m, nd.succ⟩ else nd
noncomputable def link (nds : List Nd) (q k : Int) : List Nd := nds.map fun nd => if nd.k = q then ⟨nd.k, nd.np, nd.succ ++ [k]⟩ else nd
noncomputable def addS (nds : List Nd) (k : Int) (ps : List Int) : List Nd := ps.foldl (fun nds q => link (addK nds q) q k) (bump (addK nds k) k ps.length)

theorem set_map {nds : List Nd} (hk : (nds.map (·.k)).Nodup) {i : Nat} {nd : Nd} (hi : nds[i]? = some nd) (g : Nd → Nd) : nds.set i (g nd) = nds.map fun x => if x.k = nd.k then g x else x := by
  apply List.ext_getElem?
  intro j
  have hlt := (List.getElem?_eq_some_iff.mp hi).1
  rw [List.getElem?_map]
  by_cases q : i = j
  · subst q; rw [List.getElem?_set_self hlt, hi]; simp
  · rw [List.getElem?_set_ne q]
    cases e : nds[j]? with
    | none => rfl
    | some x =>
      have : x.k ≠ nd.k := fun z => q (by
        obtain ⟨h1, rfl⟩ := List.getElem?_eq_some_iff.mp hi
        obtain ⟨h2, rfl⟩ := List.getElem?_eq_some_iff.mp e
        exact ((List.getElem_inj (h₀ := by simpa using h2) (h₁ := by simpa using h1) hk).mp (by rw [List.getElem_map, List.getElem_map]; exact z)).symm)
      simp [this]
theorem addK_len (nds : List Nd) (k : Int) : (addK nds k).length ≤ nds.length + 1 := by unfold addK; split <;> simp
theorem addK_succ {nds : List Nd} {k : Int} {B : Nat} (h : ∀ nd ∈ nds, nd.succ.length ≤ B) : ∀ nd ∈ addK nds k, nd.succ.length ≤ B := by
  unfold addK; split
  · exact h
  · intro nd hn; rcases List.mem_append.mp hn with q | q
    · exact h nd q
    · simp at q; subst q; simp

theorem fp_set {s : Addr} {X : SA} {rd : Option (List Int)} {i : Nat} {a : Addr × Addr × Addr} (ha : X.t[i]? = some a) : a.1 ∈ fp s X rd ∧ a.2.1 ∈ fp s X rd ∧ a.2.2 ∈ fp s X rd := by
  have := List.mem_of_getElem? ha
  refine ⟨?_, ?_, ?_⟩ <;> simp only [fp, fpt, List.mem_cons, List.mem_append, List.mem_map]
  · exact .inr (.inr (.inr (.inr (.inl ⟨a, this, rfl⟩))))
  · exact .inr (.inr (.inr (.inr (.inr (.inl ⟨a, this, rfl⟩)))))
  · exact .inr (.inr (.inr (.inr (.inr (.inr ⟨a, this, rfl⟩)))))
theorem Sorter.known {H : AH} {s : Addr} {X : SA} {nds : List Nd} {rd : Option (List Int)} {p f : Int} (S : Sorter H s X nds rd p f) {r : Addr} (h : H r = none) : r ∉ fp s X rd := fun m => by
  obtain ⟨ep, hd⟩ := S.dict
  simp only [fp, fpt, List.mem_cons, List.mem_append, List.mem_map] at m
  have tt : ∀ a ∈ X.t, (∃ o, H a.1 = some o) ∧ (∃ o, H a.2.1 = some o) ∧ ∃ o, H a.2.2 = some o := fun a ha => by
    obtain ⟨i, hi⟩ := List.getElem?_of_mem ha
    have := (List.getElem?_eq_some_iff.mp hi).1
    obtain ⟨h1, h2, h3⟩ := S.nodes i _ a (List.getElem?_eq_getElem (by rw [← S.len]; exact this)) hi
    exact ⟨⟨_, h1⟩, ⟨_, h2⟩, ⟨_, h3⟩⟩
  rcases m with rfl | rfl | rfl | m | ⟨a, ha, rfl⟩ | ⟨a, ha, rfl⟩ | ⟨a, ha, rfl⟩
  · rw [S.inst] at h; cases h
  · rw [S.attrs] at h; cases h
  · rw [hd] at h; cases h
  · cases rd with
    | none => simp at m
    | some l => simp at m; subst m; rw [(S.ready l rfl).1] at h; cases h
  · obtain ⟨⟨o, q⟩, _⟩ := tt a ha; rw [h] at q; cases q
  · obtain ⟨_, ⟨o, q⟩, _⟩ := tt a ha; rw [h] at q; cases q
  · obtain ⟨_, _, ⟨o, q⟩⟩ := tt a ha; rw [h] at q; cases q

theorem kf80 (w : World) : ∃ o fd, (KW w).lookup 80 = some o ∧ o.data = .func fd := ⟨_, _, rfl, rfl⟩
theorem sl_none (n r p f : AV) (x : Str) (h1 : x ≠ Str.ofString "_node2info") (h2 : x ≠ Str.ofString "_ready_nodes") (h3 : x ≠ Str.ofString "_npassedout") (h4 : x ≠ Str.ofString "_nfinished") : look (sAttrs n r p f) x = none := by
  simp only [sAttrs, look]; rw [if_neg h1, if_neg h2, if_neg h3, if_neg h4]

/-- self.add(k, *ps) -/
theorem add_ok {c : Cx} {n : Nat} {H : AH} {s : Addr} {X : SA} {nds : List Nd} {p f : Int} {k : Int} {ps : List Int} (S : Sorter H s X nds none p f) (hz : nds.length ≤ 80) (hb : ∀ nd ∈ nds, nd.succ.length ≤ 80) (h1 : ps.length ≤ 1) :
    TC c (n + 4) (.ref 87) (.ref s :: .int k :: ps.map .int) H fun v H' => v = .none ∧ ∃ X', Sorter H' s X' (addS nds k ps) none p f ∧ Keep H (fp s X none) H' (fp s X' none) := by
  let Q0 : AV → AH → Prop := fun v H' => v = .none ∧ ∃ X', Sorter H' s X' (addS nds k ps) none p f ∧ Keep H (fp s X none) H' (fp s X' none)
  show TC _ _ _ _ _ Q0
  refine TC.less (TC_bind [Str.ofString "self", Str.ofString "node", Str.ofString "predecessors"] [Str.ofString "nodeinfo", Str.ofString "pred", Str.ofString "pred_info"] rfl rfl rfl (by kernel_rfl) rfl rfl (by decide) (by decide) (by decide) rfl rfl rfl fun vs hvs => ?_)
  obtain ⟨v1, v2, rest, rfl, e1, e2, e3⟩ : ∃ v1 v2 rest, vs = v1 :: v2 :: rest ∧ abs v1 = .ref s ∧ abs v2 = .int k ∧ rest.map abs = ps.map .int := by
    rcases vs with _ | ⟨v1, _ | ⟨v2, rest⟩⟩ <;> simp at hvs
    exact ⟨v1, v2, rest, rfl, hvs.1, hvs.2.1, hvs.2.2⟩
  have hrl : rest.length = ps.length := by simpa using congrArg List.length e3
  refine TH_star (ps := [Str.ofString "self", Str.ofString "node", Str.ofString "predecessors"]) (front := [v1, v2]) (rest := rest) (by lia) ?_ fun r hr => ?_
  · rcases rest with _ | ⟨x, _ | ⟨y, r⟩⟩ <;> first | rfl | (simp at hrl; lia)
  rw [e3]
  refine ⟨[.ref s, .int k, .ref r], by simp [e1, e2], rfl, fun L => ?_⟩
  have hr0 := gets_H hr
  have S0 := S.frame (o := .tup (ps.map .int)) (S.known hr0)
  refine JSS_cons (JS_If (JB_Compare (JE_attr (JE_N 0 (J_getOwn S0.inst S0.attrs (sl_2 ..) nofun (fa2 _) (JE_none (J_isnot ⟨_, rfl, ?_, fun _ => ?_⟩)))))))
  · intro h; simp [isNone, rdv] at h
  refine JSS_nil ?_
  obtain ⟨fo, fd, hf1, hf2⟩ := kf80 c.w
  refine JSS_cons (JS_set 3 (JE_methFn (ni80 _) (tf80 _) hf1 hf2 (JE_N 0 ⟨s, X.d, _, rfl, S0.inst, S0.attrs, sl_none _ _ _ _ _ (by decide) (by decide) (by decide) (by decide), JL_cons (JE_N 1 (JL_nil (TC.mono (getNode_ok S0 (by lia)) ?_)))⟩)))
  rintro _ H1 ⟨X1, i, nd, a, S1, hi, rfl, ha, rfl, K1, _⟩
  obtain ⟨n1, n2, n3⟩ := S1.nodes i nd a hi ha
  obtain ⟨g1, g2⟩ := K1 r _ (upd_self ..) (S.known hr0)
  refine JSS_cons (JS_augAttr (JE_N 3 fun vo eo => J_getNp (x := .int nd.k) (r := .int nd.np) (y := .ref a.2.2) n1 n2 nofun (JE_len (JE_N 2 ⟨r, _, rfl, .inr (gets_of g1), ?_, J_iadd fun vn en => J_setSlot (i := 1) (vs := [.int nd.k, .int nd.np, .ref a.2.2]) (v := .int (nd.np + (ps.map AV.int).length)) n1 n2 (by simp) (by decide) (by simp) (ft2 _) (ty2 _) (sl2 _) ?_ vn vo en eo⟩)) vo eo))
  · simp; lia
  have S2 := S1.setNp hi ha (nd.np + ps.length)
  rw [set_map S1.keys hi (fun x => ⟨x.k, x.np + ps.length, x.succ⟩)] at S2
  rw [List.length_map]
  show JSS _ (n + 3) _ _ ⟨_, upd H1 a.1 (.node a.2.1 [.int nd.k, .int (nd.np + ps.length), .ref a.2.2])⟩ _
  have K2 := K1.trans (Keep.put (H := H1) (o := .node a.2.1 [.int nd.k, .int (nd.np + ps.length), .ref a.2.2]) (fp_set (s := s) (rd := none) ha).1)
  have g3 : upd H1 a.1 (.node a.2.1 [.int nd.k, .int (nd.np + ps.length), .ref a.2.2]) r = some (.tup (ps.map .int)) := upd_at n1 g1 nofun
  have K0 : Keep H (fp s X none) (upd H r (.tup (ps.map .int))) (fp s X none) := Keep.new hr0
  let hI1 : Nat → PS → Prop := fun j P => ∃ X' v4 v5, P.m = [.ref s, .int nd.k, .ref r, .ref a.1, v4, v5] ∧ Sorter P.H s X' ((ps.take j).foldl (fun nds q => link (addK nds q) q nd.k) (bump (addK nds nd.k) nd.k ps.length)) none p f ∧
        Keep H (fp s X none) P.H (fp s X' none) ∧ P.H r = some (.tup (ps.map .int)) ∧ r ∉ fp s X' none
  refine JSS_cons (JS_ForTup (JE_N 2 ⟨r, ps.map .int, hI1, rfl, ⟨_, MLe.refl _, HLe.refl _, X1, .other, .other, rfl, S2, K0.trans K2, g3, g2⟩, ?_, ?_, ?_⟩))
  · rintro j P ⟨X', v4, v5, _, _, _, h, _⟩; exact gets_of h
  · rintro j v P hv ⟨X', v4, v5, hm, S3, K3, h3, h4⟩ u hu
    obtain ⟨q, hq, rfl⟩ := map_int_get hv
    obtain ⟨m, G⟩ := P
    obtain rfl : m = _ := hm
    have hj : j = 0 := by have := (List.getElem?_eq_some_iff.mp hq).1; lia
    subst hj
    have hl3 : (bump (addK nds nd.k) nd.k ps.length).length ≤ 81 := by have := addK_len nds nd.k; simp [bump]; lia
    have hs3 : ∀ x ∈ bump (addK nds nd.k) nd.k ps.length, x.succ.length ≤ 80 := fun x hx => by
      obtain ⟨y, hy, rfl⟩ := List.mem_map.mp hx
      have := addK_succ hb y hy
      split <;> exact this
    refine J_asg 4 ?_
    rw [hu]
    refine JSS_cons (JS_set 5 (JE_methFn (ni80 _) (tf80 _) hf1 hf2 (JE_N 0 ⟨s, X'.d, _, rfl, S3.inst, S3.attrs, sl_none _ _ _ _ _ (by decide) (by decide) (by decide) (by decide), JL_cons (JE_N 4 (JL_nil (TC.mono (getNode_ok (k := q) S3 (Nat.le_trans hl3 (by decide))) ?_)))⟩)))
    rintro _ H4 ⟨X4, i4, nd4, a4, S4, hi4, hk4, ha4, rfl, K4, _⟩
    obtain ⟨m1, m2, m3⟩ := S4.nodes i4 nd4 a4 hi4 ha4
    obtain ⟨g5, g6⟩ := K4 r _ h3 h4
    have hlen : nd4.succ.length ≤ 80 := addK_succ hs3 nd4 (List.mem_of_getElem? hi4)
    refine JSS_cons (JS_Expr (JE_meth PySem.F.plainAttrs_list PySem.F.slot_list_append PySem.F.type_list_append (JE_attr (JE_N 5 (J_getSucc (x := .int nd4.k) (y := .int nd4.np) (r := .ref a4.2.2) m1 m2 nofun
      ⟨a4.2.2, _, rfl, gets_of m3, rfl, JL_cons (JE_N 1 (JL_nil (J_append m3 (by simp; lia) ⟨nofun, ?_⟩)))⟩)))))
    have S5 := S4.setSucc hi4 ha4 (nd4.succ ++ [nd.k])
    rw [set_map S4.keys hi4 (fun x => ⟨x.k, x.np, x.succ ++ [nd.k]⟩)] at S5
    have K5 := K4.trans (Keep.put (H := H4) (o := .list ((nd4.succ ++ [nd.k]).map .int)) (fp_set (s := s) (rd := none) ha4).2.2)
    rw [List.map_append] at S5 K5
    refine JSS_nil ⟨X4, .int q, .ref a4.1, rfl, ?_, K3.trans K5, upd_at m3 g5 (fun e => by cases e), g6⟩
    rw [foldl_take_succ _ _ hq]
    rw [hk4] at S5
    exact S5
  · rintro ⟨m, G⟩ ⟨X', v4, v5, hm, S3, K3, h3, h4⟩
    refine JSS_nil (JSS_nil ⟨G, HLe.refl _, rfl, X', ?_, K3⟩)
    rw [List.length_map, List.take_length] at S3
    exact S3
end Mine
end

-- part L12
section
open PySem PySem.W PySem.Calls PyProof.Rows
set_option Elab.async false
set_option linter.unusedVariables false
set_option autoImplicit false
set_option maxRecDepth 100000
namespace Mine
section
variable {c : Cx} {n : Nat} {F : Fm} {P : PS}

/-- a or b, of truth values -/
theorem JE_Or {a b : Expr} {pos : Pos} {Q : AV → PS → Prop} (h : JE c n F a P fun x P1 => ∃ y, x = .bool y ∧ (y = true → Q (.bool true) P1) ∧ (y = false → JE c n F b P1 Q)) : JE c n F (.BoolOp .Or [a, b] pos) P Q := ⟨fun A s hr hp => by
  rw [arm_eval_BoolOp]
  show wpAny _ _ (eval a F.env >>= fun v => _) _ _ _
  refine wpAny_bind (h.on hr hp fun v s1 P1 r1 f1 k1 => ?_)
  obtain ⟨y, e, k2, k3⟩ := k1
  obtain rfl := abs_bool e
  refine wpAny_bind (wpAny_standAt (wpAny_bind (wpAny_holding (wpAny_truthy_bool ?_))))
  cases y
  · exact (k3 rfl).on hr r1 fun v s2 P2 r2 f2 k2 => ⟨P2, r2, f1.trans f2, k2⟩
  · exact wpAny_pure ⟨P1, r1, f1, k2 rfl⟩⟩

theorem meets_bool_new_list (l : Addr) (items : Array Value) (hsz : (items.size : Int) < 2 ^ 63) : Meets (Builtin.«bool.__new__» ⟨[.type "bool", .ref l], []⟩) (fun _ R s => s.heap.IsList l items ∧ R (.ok (.ret (.bool !items.isEmpty))) { s with toks := s.toks + 1 + 1 }) :=
  Meets.of_wp fun prog w A R s hs => by
    obtain ⟨hl, hs⟩ := hs
    unfold Builtin.«bool.__new__»
    refine wpAny_bind ?_
    show wpAny _ _ (pure true) _ _ _
    refine wpAny_pure ?_
    refine wpAny_bind (wpAny_of_eq PySem.F.conv_sub_bool ?_)
    refine wpAny_bind ?_
    show wpAny _ _ (pure [Value.ref l]) _ _ _
    refine wpAny_pure (wpAny_bind (wpAny_truthy_list hl hsz ?_))
    exact wpAny_pure ⟨_, rfl, hs⟩

theorem nin_bool (w : World) : nsIn (KW w) mainGlobals "bool" = some none := by kernel_rfl
theorem boot_bool : bootBuiltins "bool" = some (.type "bool") := by kernel_rfl
theorem JE_boolList {p pos : Pos} {e : Expr} {Q : AV → PS → Prop} (h : JE c n F e P fun v P1 => ∃ a vs, v = .ref a ∧ gets c P1.H a = some (.list vs) ∧ vs.length ≤ 10000 ∧ Q (.bool (!vs.isEmpty)) P1)
    (hx : F.env.kindOf "bool" = some .globalImplicit := by rfl) (he : isStar e = false := by rfl) : JE c n F (.Call (.Name "bool" p) [e] [] pos) P Q := by
  refine JE_type (nin_bool c.w) boot_bool (JL_cons (h.mono fun v P1 ⟨a, vs, e1, e2, e3, e4⟩ => JL_nil fun us eu => ?_) (back_cons he)) (by decide) hx (by decide) (by rw [List.any_cons, he]; rfl)
  subst e1
  obtain ⟨u, rfl, ev⟩ := map1 eu
  obtain rfl := abs_ref ev
  refine ⟨fun A s hr hp => ?_⟩
  obtain ⟨co, h1, h2⟩ := hp.h.at e2
  obtain ⟨items, hl, rfl⟩ := islist_of h1 h2
  refine call_bool_1 (meets_bool_new_list a items.toArray (by simp only [List.size_toArray]; simp only [List.length_map] at e3; lia)) ⟨hl, rfl, P1, hp.toks _, FF.refl _ _ _, ?_⟩
  cases items <;> exact e4

theorem nin_list (w : World) : nsIn (KW w) mainGlobals "list" = some none := by kernel_rfl
theorem boot_list : bootBuiltins "list" = some (.type "list") := by kernel_rfl
/-- list(t) -/
theorem JE_listTup {p pos : Pos} {e : Expr} {Q : AV → PS → Prop} (h : JE c n F e P fun v P1 => ∃ a vs, v = .ref a ∧ gets c P1.H a = some (.tup vs) ∧ vs.length ≤ 10000 ∧ ∀ r, gets c P1.H r = none → Q (.ref r) ⟨P1.m, upd P1.H r (.list vs)⟩)
    (hx : F.env.kindOf "list" = some .globalImplicit := by rfl) (he : isStar e = false := by rfl) : JE c n F (.Call (.Name "list" p) [e] [] pos) P Q := by
  refine JE_type (nin_list c.w) boot_list (JL_cons (h.mono fun v P1 ⟨a, vs, e1, e2, e3, e4⟩ => JL_nil fun us eu => ?_) (back_cons he)) (by decide) hx (by decide) (by rw [List.any_cons, he]; rfl)
  subst e1
  obtain ⟨u, rfl, ev⟩ := map1 eu
  obtain rfl := abs_ref ev
  refine TH.J ⟨fun A s hr hp => ?_⟩
  obtain ⟨co, h1, items, k, rfl, rfl⟩ := hp.at e2
  refine call_list_seq (hsz := by rw [sizeLine_eq]; simp only [List.length_map, Array.length_toList] at e3; lia) a (.inr rfl) h1 rfl rfl fun h' c' hk hD => ?_
  have hb := hp.base_fresh
  have hH := hp.fresh
  refine ⟨upd P1.H s.heap.objs.size (.list (items.toList.map abs)), ⟨fun b o z => ?_, fun b o z => ⟨hk _ _ (hp.base b o z).1, ?_⟩, fun b o z => ?_, hp.os, hp.gens, hp.stk.ext fun b o z1 z2 _ => ⟨hk _ _ z1, ?_⟩⟩, HF.of fun b o z1 z2 => ⟨hk _ _ z1, ?_⟩, e4 _ hp.free⟩
  · by_cases q : b = s.heap.objs.size
    · subst q; rw [upd_self] at z; cases z; exact ⟨_, hD, _, _, rfl, rfl⟩
    · rw [upd_ne _ _ q] at z; obtain ⟨co, w1, w2⟩ := hp.know b o z; exact ⟨co, hk _ _ w1, w2⟩
  · rw [upd_ne _ _ (fun q => by subst q; rw [hb] at z; cases z)]; exact (hp.base b o z).2
  · by_cases q : b = s.heap.objs.size
    · subst q
      obtain ⟨og, es, ep, hg, _⟩ := c.g
      exact Nat.ne_of_gt (Nat.lt_trans (by decide) (Heap.lt_size (hp.base _ _ hg).1))
    · rw [upd_ne _ _ q] at z; exact hp.hi b o z
  · rw [upd_ne _ _ (Nat.ne_of_lt (Heap.lt_size z1))]; exact z2
  · rw [upd_ne _ _ (Nat.ne_of_lt (Heap.lt_size z1))]; exact z2

theorem nin_tuple (w : World) : nsIn (KW w) mainGlobals "tuple" = some none := by kernel_rfl
theorem boot_tuple : bootBuiltins "tuple" = some (.type "tuple") := by kernel_rfl
/-- tuple(l) -/
theorem JE_tupleList {p pos : Pos} {e : Expr} {Q : AV → PS → Prop} (h : JE c n F e P fun v P1 => ∃ a vs, v = .ref a ∧ gets c P1.H a = some (.list vs) ∧ vs.length ≤ 10000 ∧ ∀ r, gets c P1.H r = none → Q (.ref r) ⟨P1.m, upd P1.H r (.tup vs)⟩)
    (hx : F.env.kindOf "tuple" = some .globalImplicit := by rfl) (he : isStar e = false := by rfl) : JE c n F (.Call (.Name "tuple" p) [e] [] pos) P Q := by
  refine JE_type (nin_tuple c.w) boot_tuple (JL_cons (h.mono fun v P1 ⟨a, vs, e1, e2, e3, e4⟩ => JL_nil fun us eu => ?_) (back_cons he)) (by decide) hx (by decide) (by rw [List.any_cons, he]; rfl)
  subst e1
  obtain ⟨u, rfl, ev⟩ := map1 eu
  obtain rfl := abs_ref ev
  refine TH.J ⟨fun A s hr hp => ?_⟩
  obtain ⟨co, h1, h2⟩ := hp.at e2
  obtain ⟨items, hl, rfl⟩ := islist_of h1 h2
  refine call_tuple_list hl (fun h' hk => ?_) (by rw [sizeLine_eq]; simp only [List.length_map] at e3; simp; lia)
  have hp' : HRep c P1.H { s with heap := h' } := hp.ext hk rfl rfl
  exact ⟨_, hp'.alloc (o := .tup (items.map abs)) ⟨_, _, rfl, rfl⟩ rfl rfl rfl, (HF.ext hk).trans (HF.alloc (s := { s with heap := h' }) rfl), e4 _ hp'.free⟩

/-- t[k:] -/
theorem JE_tupFrom {value e : Expr} {pos pos' : Pos} {Q : AV → PS → Prop}
    (h : JE c n F value P fun o P1 => JE c n F e P1 fun v P2 => ∃ (a : Addr) (vs : List AV) (k : Nat), o = .ref a ∧ v = .int k ∧ gets c P2.H a = some (.tup vs) ∧ vs.length ≤ 10000 ∧ 1 ≤ k ∧ k ≤ vs.length ∧ ∀ r, gets c P2.H r = none → Q (.ref r) ⟨P2.m, upd P2.H r (.tup (vs.drop k))⟩) :
    JE c n F (.Subscript value (.Slice (some e) none none pos') pos) P Q := by
  refine J.less (JE_Subscript (h.mono fun o P1 h1 => JE_SliceFrom (J.mono h1 fun v P2 ⟨a, vs, k, e1, e2, e3, hz, hk1, hk2, e4⟩ => ⟨k, e2, fun sl hsl => ⟨a, .tup vs, e1, gets_keep hsl e3, trivial, fun vi ei => ?_⟩⟩)))
  obtain rfl := abs_ref ei
  refine TH.J ⟨fun A s hr hp => ?_⟩
  obtain ⟨co, h1, h2⟩ := hp.at (gets_keep (o := .slc (some (k : Int)) none) hsl e3)
  obtain ⟨items, hl, rfl⟩ := istup_of h1 h2
  obtain ⟨co', g2, vl, vu, q1, q2, q3, q4⟩ := hp.know _ _ (upd_self ..)
  simp only [List.length_map] at hz hk2
  obtain ⟨u, rfl⟩ : ∃ u, vl = .int k u := by cases q3; exact ⟨_, rfl⟩
  obtain rfl : vu = .none := by cases q4; rfl
  refine getItem_tuple_from hl ⟨co', g2, q1, q2⟩ hk1 (by simpa using hk2) ⟨_, hp.alloc (o := .tup ((items.map abs).drop k)) ⟨_, _, rfl, by simp [List.map_drop]⟩ rfl rfl rfl, HF.alloc rfl, ⟨P2.m, upd P2.H s.heap.objs.size (.tup ((items.map abs).drop k))⟩, MLe.refl _, ?_, e4 _ (gets_under hp.free).2⟩ (by rw [sizeLine_eq]; simp; lia)
  exact HLe.upd2 (gets_H hsl)
end
end Mine
end

-- part C7
section
open PySem PySem.W PySem.Calls PyProof.Rows
set_option Elab.async false
set_option linter.unusedVariables false
set_option autoImplicit false
set_option maxRecDepth 100000
namespace Mine

noncomputable def npTo (nds : List Nd) (k v : Int) : List Nd := nds.map fun nd => if nd.k = k then ⟨nd.k, v, nd.succ⟩ else nd
noncomputable def outs (nds : List Nd) (l : List Int) : List Nd := l.foldl (fun nds k => npTo nds k (-1)) nds

theorem npTo_keys (nds : List Nd) (k v : Int) : (npTo nds k v).map (·.k) = nds.map (·.k) := by
  unfold npTo; rw [List.map_map]; congr 1; funext nd; simp only [Function.comp]; split <;> rfl
theorem outs_keys (l : List Int) (nds : List Nd) : (outs nds l).map (·.k) = nds.map (·.k) := by
  induction l generalizing nds with
  | nil => rfl
  | cons k l ih => show (outs (npTo nds k (-1)) l).map _ = _; rw [ih, npTo_keys]

theorem active_ok {c : Cx} {n : Nat} {H : AH} {s : Addr} {X : SA} {nds : List Nd} {l : List Int} {p f : Int} (S : Sorter H s X nds (some l) p f) (hz : l.length ≤ 10000) :
    TC c (n + 1) (.ref 106) [.ref s] H fun v H' => v = .bool (decide (f < p) || !l.isEmpty) ∧ H' = H := by
  let Q0 : AV → AH → Prop := fun v H' => v = .bool (decide (f < p) || !l.isEmpty) ∧ H' = H
  show TC _ _ _ _ _ Q0
  refine TC_def [Str.ofString "self"] [] rfl rfl rfl (by kernel_rfl) rfl rfl ?_ (by decide) (by decide) (by decide) rfl rfl rfl rfl ?_
  · intro vs hvs
    rcases vs with _ | ⟨v1, _ | _⟩ <;> first | rfl | (simp at hvs)
  intro L
  refine JSS_cons (JS_If (JB_Compare (JE_attr (JE_N 0 (J_getOwn S.inst S.attrs (sl_2 ..) nofun (fa2 _) (JE_none (J_is ⟨_, rfl, ?_, fun _ => ?_⟩)))))))
  · intro h; simp [isNone, rdv] at h
  refine JSS_nil (JSS_cons (JS_Return (JE_Or (JE_Compare (JE_attr (JE_N 0 (J_getOwn S.inst S.attrs (sl_4 ..) nofun (fa4 _) (JE_attr (JE_N 0 (J_getOwn S.inst S.attrs (sl_3 ..) nofun (fa3 _) (J_lt ⟨_, rfl, ?_, ?_⟩)))))))))))
  · intro h; exact ⟨by rw [h]; rfl, rfl⟩
  · intro h
    refine JE_boolList (JE_attr (JE_N 0 (J_getOwn S.inst S.attrs (sl_2 ..) nofun (fa2 _) ⟨X.r, l.map .int, rfl, gets_of (S.ready l rfl).1, by simpa using hz, ?_, rfl⟩)))
    show AV.bool _ = _
    rw [h]
    cases l <;> rfl

theorem g_out (w : World) : ∃ t, nsIn (KW w) mainGlobals "_NODE_OUT" = some (some (.int (-1) t)) := ⟨197, by kernel_rfl⟩
theorem g_done (w : World) : ∃ t, nsIn (KW w) mainGlobals "_NODE_DONE" = some (some (.int (-2) t)) := ⟨200, by kernel_rfl⟩

theorem getReady_ok {c : Cx} {n : Nat} {H : AH} {s : Addr} {X : SA} {nds : List Nd} {l : List Int} {p f : Int} (S : Sorter H s X nds (some l) p f) (hz : l.length ≤ 10000) (hl : ∀ k ∈ l, k ∈ nds.map (·.k)) :
    TC c (n + 1) (.ref 99) [.ref s] H fun v H' => ∃ r, v = .ref r ∧ gets c H r = none ∧ Sorter H' s X (outs nds l) (some []) (p + l.length) f ∧ H' r = some (.tup (l.map .int)) ∧ Keep H (fp s X (some l)) H' (fp s X (some [])) := by
  let Q0 : AV → AH → Prop := fun v H' => ∃ r, v = .ref r ∧ gets c H r = none ∧ Sorter H' s X (outs nds l) (some []) (p + l.length) f ∧ H' r = some (.tup (l.map .int)) ∧ Keep H (fp s X (some l)) H' (fp s X (some []))
  show TC _ _ _ _ _ Q0
  refine TC_def [Str.ofString "self"] [Str.ofString "result", Str.ofString "n2i", Str.ofString "node"] rfl rfl rfl (by kernel_rfl) rfl rfl ?_ (by decide) (by decide) (by decide) rfl rfl rfl rfl ?_
  · intro vs hvs
    rcases vs with _ | ⟨v1, _ | _⟩ <;> first | rfl | (simp at hvs)
  intro L
  refine JSS_cons (JS_If (JB_Compare (JE_attr (JE_N 0 (J_getOwn S.inst S.attrs (sl_2 ..) nofun (fa2 _) (JE_none (J_is ⟨_, rfl, ?_, fun _ => ?_⟩)))))))
  · intro h; simp [isNone, rdv] at h
  refine JSS_nil (JSS_cons (JS_set 1 (JE_tupleList (JE_attr (JE_N 0 (J_getOwn S.inst S.attrs (sl_2 ..) nofun (fa2 _) ⟨X.r, l.map .int, rfl, gets_of (S.ready l rfl).1, by simpa using hz, fun r hr => ?_⟩))))))
  have hr0 := gets_H hr
  have hrf := S.known hr0
  have S0 := S.frame (o := .tup (l.map .int)) hrf
  have K0 : Keep H (fp s X (some l)) (upd H r (.tup (l.map .int))) (fp s X (some l)) := Keep.new hr0
  refine JSS_cons (JS_set 2 (JE_attr (JE_N 0 (J_getOwn S0.inst S0.attrs (sl_1 ..) nofun (fa1 _) ?_))))
  obtain ⟨t, hg⟩ := g_out c.w
  let hI1 : Nat → PS → Prop := fun j P => ∃ v3, P.m = [.ref s, .ref r, .ref X.n, v3] ∧ Sorter P.H s X (outs nds (l.take j)) (some l) p f ∧ Keep H (fp s X (some l)) P.H (fp s X (some l)) ∧ P.H r = some (.tup (l.map .int))
  refine JSS_cons (JS_ForTup (JE_N 1 ⟨r, l.map .int, hI1, rfl,
    ⟨_, MLe.refl _, HLe.refl _, .other, rfl, S0, K0, upd_self ..⟩, ?_, ?_, ?_⟩))
  · rintro j P ⟨v3, _, _, _, h⟩; exact gets_of h
  · rintro j v ⟨m, G⟩ hv ⟨v3, hm, S3, K3, h3⟩ u hu
    obtain ⟨q, hq, rfl⟩ := map_int_get hv
    obtain rfl : m = _ := hm
    refine J_asg 3 ?_
    rw [hu]
    obtain ⟨i, nd, hi, hk⟩ := key_at (nds := outs nds (l.take j)) (k := q) (by rw [outs_keys]; exact hl q (List.mem_of_getElem? hq))
    obtain ⟨a, ha, _⟩ := entsOf_get S3.len hi
    obtain ⟨ep, hd⟩ := S3.dict
    obtain ⟨n1, n2, n3⟩ := S3.nodes i nd a hi ha
    subst hk
    refine JSS_cons (JS_setAttr (JE_global hg (JE_item (JE_N 2 (JE_N 3 ⟨X.n, nd.k, _, .ref a.1, rfl, rfl, gets_of hd, S3.look hi ha, J_setSlot (i := 1) (vs := [.int nd.k, .int nd.np, .ref a.2.2]) (v := .int (-1)) n1 n2 (by simp) (by decide) (by simp) (ft2 _) (ty2 _) (sl2 _) ?_⟩)))))
    have S4 := S3.setNp hi ha (-1)
    rw [set_map S3.keys hi (fun x => ⟨x.k, -1, x.succ⟩)] at S4
    refine JSS_nil ⟨.int nd.k, rfl, ?_, K3.trans (Keep.put (fp_set ha).1), upd_at n1 h3 (fun e => by cases e)⟩
    unfold outs
    rw [foldl_take_succ _ _ hq]
    exact S4
  · rintro ⟨m, G⟩ ⟨v3, hm, S3, K3, h3⟩
    obtain rfl : m = _ := hm
    rw [List.length_map, List.take_length] at S3
    refine JSS_nil ?_
    have hrd := (S3.ready l rfl).1
    refine JSS_cons (JS_Expr (JE_meth PySem.F.plainAttrs_list PySem.F.slot_list_clear PySem.F.type_list_clear (JE_attr (JE_N 0 (J_getOwn S3.inst S3.attrs (sl_2 ..) nofun (fa2 _) ⟨X.r, _, rfl, gets_of hrd, rfl, JL_nil (J_clear hrd (by simpa using hz) ⟨nofun, ?_⟩)⟩)))))
    have S4 := S3.setReady []
    have hr4 : upd G X.r (.list ([].map .int)) r = some (.tup (l.map .int)) := upd_at hrd h3 (fun e => by cases e)
    have K4 := K3.trans (Keep.put (H := G) (o := .list ([].map .int)) (a := X.r) (by simp [fp]))
    refine JSS_cons (JS_augAttr (JE_N 0 fun vo eo => J_getOwn (r := .int p) S4.inst S4.attrs (sl_3 ..) nofun (fa3 _) (JE_len (JE_N 1 ⟨r, _, rfl, .inr (gets_of hr4), ?_, J_iadd fun vn en => J_setOwn (by simp [sAttrs]) S4.inst S4.attrs (tk3 _) ?_ vn vo en eo⟩)) vo eo))
    · simp only [List.length_map]; lia
    rw [ss3, List.length_map]
    have S5 := S4.setAttrs (p' := p + l.length) (f' := f)
    refine JSS_cons (JS_Return (JE_N 1 ⟨r, rfl, hr, S5, upd_at S4.attrs hr4 (fun e => by cases e), K4.trans (Keep.put (by simp [fp]))⟩))
end Mine
end

-- part C8
section
open PySem PySem.W PySem.Calls PyProof.Rows
set_option Elab.async false
set_option linter.unusedVariables false
set_option autoImplicit false
set_option maxRecDepth 100000
namespace Mine

noncomputable def npOf (nds : List Nd) (q : Int) : Int := ((nds.find? fun nd => decide (nd.k = q)).map (·.np)).getD 0
noncomputable def relS (st : List Nd × List Int) (q : Int) : List Nd × List Int := (bump st.1 q (-1), if npOf (bump st.1 q (-1)) q = 0 then st.2 ++ [q] else st.2)
noncomputable def doneS (nds : List Nd) (l : List Int) (k : Int) (su : List Int) : List Nd × List Int := su.foldl relS (npTo nds k (-2), l)

theorem bump_keys (nds : List Nd) (k v : Int) : (bump nds k v).map (·.k) = nds.map (·.k) := by
  unfold bump; rw [List.map_map]; congr 1; funext nd; simp only [Function.comp]; split <;> rfl
theorem rel_keys (su : List Int) (st : List Nd × List Int) : (su.foldl relS st).1.map (·.k) = st.1.map (·.k) := by
  induction su generalizing st with
  | nil => rfl
  | cons q r ih => rw [List.foldl_cons, ih]; exact bump_keys _ _ _
theorem rel_len (su : List Int) (st : List Nd × List Int) : (su.foldl relS st).2.length ≤ st.2.length + su.length := by
  induction su generalizing st with
  | nil => exact Nat.le_refl _
  | cons q r ih =>
    rw [List.foldl_cons]
    refine Nat.le_trans (ih _) ?_
    unfold relS
    dsimp only
    split <;> simp <;> lia
theorem npOf_get {nds : List Nd} (hk : (nds.map (·.k)).Nodup) {i : Nat} {nd : Nd} (hi : nds[i]? = some nd) : npOf nds nd.k = nd.np := by
  unfold npOf
  have : nds.find? (fun x => decide (x.k = nd.k)) = some nd := by
    rw [List.find?_eq_some_iff_getElem]
    obtain ⟨h, rfl⟩ := List.getElem?_eq_some_iff.mp hi
    refine ⟨by simp, i, h, rfl, fun j hj => ?_⟩
    have : nds[j].k ≠ nds[i].k := fun z => by
      have := (List.getElem_inj (h₀ := by simp; lia) (h₁ := by simpa using h) hk (i := j) (j := i)).mp (by rw [List.getElem_map, List.getElem_map]; exact z)
      lia
    simp [this]
  rw [this]; rfl

theorem done_ok {c : Cx} {n : Nat} {H : AH} {s : Addr} {X : SA} {nds : List Nd} {l : List Int} {p f : Int} {i : Nat} {nd : Nd} (S : Sorter H s X nds (some l) p f) (hi : nds[i]? = some nd) (hnp : nd.np = -1)
    (hsu : ∀ q ∈ nd.succ, q ∈ nds.map (·.k)) (hz : l.length + nd.succ.length ≤ 1000) :
    TC c (n + 1) (.ref 120) [.ref s, .int nd.k] H fun v H' => v = .none ∧ Sorter H' s X (doneS nds l nd.k nd.succ).1 (some (doneS nds l nd.k nd.succ).2) p (f + 1) ∧ Keep H (fp s X (some l)) H' (fp s X (some l)) := by
  let Q0 : AV → AH → Prop := fun v H' => v = .none ∧ Sorter H' s X (doneS nds l nd.k nd.succ).1 (some (doneS nds l nd.k nd.succ).2) p (f + 1) ∧ Keep H (fp s X (some l)) H' (fp s X (some l))
  show TC _ _ _ _ _ Q0
  obtain ⟨a, ha, _⟩ := entsOf_get S.len hi
  refine TC.less (TC_bind [Str.ofString "self", Str.ofString "nodes"] [Str.ofString "n2i", Str.ofString "node", Str.ofString "nodeinfo", Str.ofString "stat", Str.ofString "successor", Str.ofString "successor_info"] rfl rfl rfl (by kernel_rfl) rfl rfl (by decide) (by decide) (by decide) rfl rfl rfl fun vs hvs => ?_)
  obtain ⟨v1, v2, rfl, e1, e2⟩ := two_abs hvs
  refine TH_star (ps := [Str.ofString "self", Str.ofString "nodes"]) (front := [v1]) (rest := [v2]) (by simp) rfl fun r hr => ?_
  rw [show [v2].map abs = [AV.int nd.k] by rw [List.map_cons, e2]; rfl]
  refine ⟨[.ref s, .ref r], by simp [e1], rfl, fun L => ?_⟩
  have hr0 := gets_H hr
  have S0 := S.frame (o := .tup [.int nd.k]) (S.known hr0)
  have K0 : Keep H (fp s X (some l)) (upd H r (.tup [.int nd.k])) (fp s X (some l)) := Keep.new hr0
  refine JSS_cons (JS_If (JB_Compare (JE_attr (JE_N 0 (J_getOwn S0.inst S0.attrs (sl_2 ..) nofun (fa2 _) (JE_none (J_is ⟨_, rfl, ?_, fun _ => ?_⟩)))))))
  · intro h; simp [isNone, rdv] at h
  refine JSS_nil (JSS_cons (JS_set 2 (JE_attr (JE_N 0 (J_getOwn S0.inst S0.attrs (sl_1 ..) nofun (fa1 _) ?_)))))
  obtain ⟨t, hg⟩ := g_out c.w
  obtain ⟨t', hg'⟩ := g_done c.w
  let hI1 : Nat → PS → Prop := fun j P => (j = 0 ∧ P = ⟨[.ref s, .ref r, .ref X.n, .other, .other, .other, .other, .other], upd H r (.tup [.int nd.k])⟩) ∨ (j = 1 ∧ P.H r = some (.tup [.int nd.k]) ∧
        Sorter P.H s X (doneS nds l nd.k nd.succ).1 (some (doneS nds l nd.k nd.succ).2) p (f + 1) ∧ Keep H (fp s X (some l)) P.H (fp s X (some l)))
  refine JSS_cons (JS_ForTup (JE_N 1 ⟨r, [.int nd.k], hI1, rfl,
    ⟨_, MLe.refl _, HLe.refl _, .inl ⟨rfl, rfl⟩⟩, ?_, ?_, ?_⟩))
  · rintro j P (⟨_, rfl⟩ | ⟨_, h, _⟩)
    · exact gets_of (upd_self ..)
    · exact gets_of h
  · rintro j v P hv (⟨rfl, rfl⟩ | ⟨rfl, _⟩) u hu
    rotate_left
    · simp at hv
    obtain rfl : AV.int nd.k = v := by simpa using hv
    obtain ⟨ep, hd⟩ := S0.dict
    obtain ⟨n1, n2, n3⟩ := S0.nodes i nd a hi ha
    refine J_asg 3 ?_
    rw [hu]
    refine JSS_cons (JS_If (JB_Compare (JE_named (JE_meth PySem.F.plainAttrs_dict PySem.F.slot_dict_get PySem.F.type_dict_get (JE_N 2 ⟨X.n, _, rfl, gets_of hd, rfl, JL_cons (JE_N 3 (JL_nil (J_getDict hd ?_)))⟩)))))
    intro u hu
    refine J_asg 4 (JE_none (J_is ?_))
    rw [hu, S0.look hi ha]
    refine ⟨_, rfl, ?_, fun _ => ?_⟩
    · intro h; simp [isNone] at h
    refine JSS_nil (JSS_cons (JS_set 5 (JE_attr (JE_N 4 (v := .ref a.1) (J_getNp (x := .int nd.k) (r := .int nd.np) (y := .ref a.2.2) n1 n2 nofun ?_)))))
    refine JSS_cons (JS_If (JB_Compare (JE_N 5 (v := .int nd.np) (JE_global hg (J_ne ⟨_, rfl, ?_, fun _ => ?_⟩)))))
    · intro h; rw [hnp] at h; cases h
    refine JSS_nil (JSS_cons (JS_setAttr (JE_global hg' (JE_N 4 (v := .ref a.1) (J_setSlot (i := 1) (vs := [.int nd.k, .int nd.np, .ref a.2.2]) (v := .int (-2)) n1 n2 (by simp) (by decide) (by simp) (ft2 _) (ty2 _) (sl2 _) ?_)))))
    have S1 := S0.setNp hi ha (-2)
    have K1 := K0.trans (Keep.put (H := upd H r (.tup [.int nd.k])) (o := .node a.2.1 [.int nd.k, .int (-2), .ref a.2.2]) (fp_set (s := s) (rd := some l) ha).1)
    have hn3 : upd (upd H r (.tup [.int nd.k])) a.1 (.node a.2.1 [.int nd.k, .int (-2), .ref a.2.2]) a.2.2 = some (.list (nd.succ.map .int)) := upd_at n1 n3 (fun e => by cases e)
    have hrr : upd (upd H r (.tup [.int nd.k])) a.1 (.node a.2.1 [.int nd.k, .int (-2), .ref a.2.2]) r = some (.tup [.int nd.k]) := upd_at n1 (upd_self ..) (fun e => by cases e)
    obtain ⟨m1, m2, m3⟩ := S1.nodes i ⟨nd.k, -2, nd.succ⟩ a (List.getElem?_set_self (List.getElem?_eq_some_iff.mp hi).1) ha
    rw [set_map S0.keys hi (fun x => ⟨x.k, -2, x.succ⟩)] at S1
    refine JSS_cons (JS_ForList (JE_attr (JE_N 4 (v := .ref a.1) (J_getSucc (x := .int nd.k) (y := .int (-2)) (r := .ref a.2.2) m1 m2 nofun ⟨a.2.2, nd.succ.map .int, fun j P => ∃ w1 w2, P.m = [.ref s, .ref r, .ref X.n, .int nd.k, .ref a.1, .int nd.np, w1, w2] ∧
      Sorter P.H s X ((nd.succ.take j).foldl relS (npTo nds nd.k (-2), l)).1 (some ((nd.succ.take j).foldl relS (npTo nds nd.k (-2), l)).2) p f ∧ Keep H (fp s X (some l)) P.H (fp s X (some l)) ∧ P.H a.2.2 = some (.list (nd.succ.map .int)) ∧ P.H r = some (.tup [.int nd.k]), rfl,
      ⟨_, MLe.refl _, HLe.refl _, .other, .other, rfl, S1, K1, hn3, hrr⟩, ?_, ?_, ?_⟩))))
    · rintro j P ⟨w1, w2, _, _, _, h, _⟩; exact gets_of h
    · rintro j v ⟨m, G⟩ hv ⟨w1, w2, hm, S3, K3, h3, h4⟩ u hu
      obtain ⟨q, hq, rfl⟩ := map_int_get hv
      obtain rfl : m = _ := hm
      dsimp only at S3 K3 h3 h4
      refine J_asg 6 ?_
      rw [hu]
      have hstep : (nd.succ.take (j + 1)).foldl relS (npTo nds nd.k (-2), l) = relS ((nd.succ.take j).foldl relS (npTo nds nd.k (-2), l)) q := foldl_take_succ _ _ hq
      have hlen := rel_len (nd.succ.take j) (npTo nds nd.k (-2), l)
      rw [List.length_take] at hlen
      generalize hst : (nd.succ.take j).foldl relS (npTo nds nd.k (-2), l) = st at S3 hlen hstep
      have hkeys : st.1.map (·.k) = nds.map (·.k) := by rw [← hst, rel_keys, npTo_keys]
      obtain ⟨i2, nd2, hi2, hk2⟩ := key_at (nds := st.1) (k := q) (by rw [hkeys]; exact hsu q (List.mem_of_getElem? hq))
      obtain ⟨b, hb, _⟩ := entsOf_get S3.len hi2
      obtain ⟨ep3, hd3⟩ := S3.dict
      obtain ⟨k1, k2, k3⟩ := S3.nodes i2 nd2 b hi2 hb
      subst hk2
      refine JSS_cons (JS_set 7 (JE_item (JE_N 2 (JE_N 6 ⟨X.n, nd2.k, _, .ref b.1, rfl, rfl, gets_of hd3, S3.look hi2 hb, ?_⟩))))
      refine JSS_cons (JS_augAttr (JE_N 7 fun vo eo => J_getNp (x := .int nd2.k) (r := .int nd2.np) (y := .ref b.2.2) k1 k2 nofun (JE_int (J_isub fun vn en => J_setSlot (i := 1) (vs := [.int nd2.k, .int nd2.np, .ref b.2.2]) (v := .int (nd2.np - 1)) k1 k2 (by simp) (by decide) (by simp) (ft2 _) (ty2 _) (sl2 _) ?_ vn vo en eo)) vo eo))
      have S4 := S3.setNp hi2 hb (nd2.np - 1)
      have hi4 : (st.1.set i2 ⟨nd2.k, nd2.np - 1, nd2.succ⟩)[i2]? = some ⟨nd2.k, nd2.np - 1, nd2.succ⟩ := List.getElem?_set_self (List.getElem?_eq_some_iff.mp hi2).1
      obtain ⟨q1, q2, q3⟩ := S4.nodes i2 _ b hi4 hb
      have hnpq := npOf_get S4.keys hi4
      have he : st.1.set i2 ⟨nd2.k, nd2.np - 1, nd2.succ⟩ = bump st.1 nd2.k (-1) := set_map S3.keys hi2 (fun x => ⟨x.k, x.np + -1, x.succ⟩)
      rw [he] at S4 hnpq
      have K4 := K3.trans (Keep.put (H := G) (o := .node b.2.1 [.int nd2.k, .int (nd2.np - 1), .ref b.2.2]) (fp_set (s := s) (rd := some l) hb).1)
      have h5 : upd G b.1 (.node b.2.1 [.int nd2.k, .int (nd2.np - 1), .ref b.2.2]) a.2.2 = some (.list (nd.succ.map .int)) := upd_at k1 h3 (fun e => by cases e)
      have h6 : upd G b.1 (.node b.2.1 [.int nd2.k, .int (nd2.np - 1), .ref b.2.2]) r = some (.tup [.int nd.k]) := upd_at k1 h4 (fun e => by cases e)
      refine JSS_cons (JS_If (JB_Compare (JE_attr (JE_N 7 (v := .ref b.1) (J_getNp (x := .int nd2.k) (r := .int (nd2.np - 1)) (y := .ref b.2.2) q1 q2 nofun (JE_int (J_eq ⟨_, rfl, fun hb0 => ?_, fun hb0 => ?_⟩)))))))
      · have h0 : nd2.np - 1 = 0 := by simpa using hb0
        have e5 : relS st nd2.k = (bump st.1 nd2.k (-1), st.2 ++ [nd2.k]) := by unfold relS; rw [if_pos (by rw [hnpq]; exact h0)]
        rw [e5] at hstep
        obtain ⟨y1, y2⟩ := S4.ready _ rfl
        refine JSS_cons (JS_Expr (JE_meth PySem.F.plainAttrs_list PySem.F.slot_list_append PySem.F.type_list_append (JE_attr (JE_N 0 (J_getOwn S4.inst S4.attrs (sl_2 ..) nofun (fa2 _)
          ⟨X.r, _, rfl, gets_of y1, rfl, JL_cons (JE_N 6 (JL_nil (J_append y1 (by simp only [List.length_map]; dsimp only at hlen; lia) ⟨nofun, ?_⟩)))⟩)))))
        have S5 := S4.setReady (st.2 ++ [nd2.k])
        rw [List.map_append] at S5
        refine JSS_nil (JSS_nil ⟨.int nd2.k, .ref b.1, rfl, ?_, K4.trans (Keep.put (by simp [fp])), ?_, upd_at y1 h6 (fun e => by cases e)⟩)
        · rw [hstep]; exact S5
        exact upd_off (fun z => y2 (z ▸ List.mem_map.mpr ⟨a, List.mem_of_getElem? ha, rfl⟩)) h5
      · have h0 : ¬ nd2.np - 1 = 0 := by simpa using hb0
        have e5 : relS st nd2.k = (bump st.1 nd2.k (-1), st.2) := by unfold relS; rw [if_neg (by rw [hnpq]; exact h0)]
        rw [e5] at hstep
        refine JSS_nil (JSS_nil ⟨.int nd2.k, .ref b.1, rfl, ?_, K4, h5, h6⟩)
        rw [hstep]; exact S4
    · rintro ⟨m, G⟩ ⟨w1, w2, hm, S3, K3, h3, h4⟩
      obtain rfl : m = _ := hm
      rw [List.length_map, List.take_length] at S3
      refine JSS_nil ?_
      refine JSS_cons (JS_augAttr (JE_N 0 fun vo eo => J_getOwn (r := .int f) S3.inst S3.attrs (sl_4 ..) nofun (fa4 _) (JE_int (J_iadd fun vn en => J_setOwn (by simp [sAttrs]) S3.inst S3.attrs (tk4 _) ?_ vn vo en eo)) vo eo))
      rw [ss4]
      have S5 := S3.setAttrs (p' := p) (f' := f + 1)
      refine JSS_nil (.inr ⟨rfl, upd_at S3.attrs h4 (fun e => by cases e), S5, K3.trans (Keep.put (by simp [fp]))⟩)
  · rintro ⟨m, G⟩ (⟨h, _⟩ | ⟨_, h, S5, K5⟩)
    · simp at h
    · exact JSS_nil (JSS_nil ⟨G, HLe.refl _, rfl, S5, K5⟩)
end Mine
end

-- part B4
section
open PySem PySem.W PySem.Calls PyProof.Rows
set_option Elab.async false
set_option linter.unusedVariables false
set_option autoImplicit false
set_option maxRecDepth 100000
namespace Mine

noncomputable def hpush (xs : List Int) (x : Int) : List Int := sdown 0 x (xs ++ [x]) xs.length
/-- the top taken off, the last laid in its place -/
noncomputable def hpop (xs : List Int) : List Int := match xs.dropLast with
  | [] => []
  | _ :: r => sup (xs.getLast?.getD 0 :: r) 0
noncomputable def hrepl (xs : List Int) (x : Int) : List Int := sup (xs.set 0 x) 0

theorem k183 (w : World) : nsIn (KW w) mainGlobals "_siftdown" = some (some (.ref 183)) := by kernel_rfl
theorem k190 (w : World) : nsIn (KW w) mainGlobals "_siftup" = some (some (.ref 190)) := by kernel_rfl

theorem heappush_ok {c : Cx} {n : Nat} {H : AH} {a : Addr} {xs : List Int} {x : Int} (hl : H a = some (.list (xs.map .int))) (hz : xs.length < 900) :
    TC c (n + 2) (.ref 148) [.ref a, .int x] H fun v H' => v = .none ∧ H' = upd H a (.list ((hpush xs x).map .int)) := by
  let Q0 : AV → AH → Prop := fun v H' => v = .none ∧ H' = upd H a (.list ((hpush xs x).map .int))
  show TC _ _ _ _ _ Q0
  refine TC_def [Str.ofString "heap", Str.ofString "item"] [] rfl rfl rfl (by kernel_rfl) rfl rfl ?_ (by decide) (by decide) (by decide) rfl rfl rfl rfl ?_
  · intro vs hvs
    rcases vs with _ | ⟨v1, _ | ⟨v2, _ | _⟩⟩ <;> first | rfl | (simp at hvs)
  intro L
  refine JSS_cons (JS_Expr (JE_meth PySem.F.plainAttrs_list PySem.F.slot_list_append PySem.F.type_list_append (JE_N 0 ⟨a, _, rfl, gets_of hl, rfl, JL_cons (JE_N 1 (JL_nil (J_append hl (by simp; lia) ⟨nofun, ?_⟩)))⟩)))
  have e0 : xs.map AV.int ++ [.int x] = (xs ++ [x]).map .int := by simp
  rw [e0]
  refine JSS_cons (JS_Expr (JE_Call (k183 _) rfl rfl (JL_cons (JE_N 0 (JL_cons (JE_int (JL_cons (JE_BinOp (JE_len (JE_N 0 ⟨a, _, rfl, .inl (gets_of (upd_self ..)), by simp; lia, JE_int (J_sub (JL_nil ?_))⟩))))))))))
  rw [show (((xs ++ [x]).map AV.int).length : Int) - 1 = (xs.length : Int) by simp]
  refine TC.mono (siftdown_ok (start := 0) (upd_self ..) (by simp) (by simp; lia)) ?_
  rintro _ _ ⟨rfl, rfl⟩
  refine ⟨nofun, JSS_nil ⟨rfl, ?_⟩⟩
  show upd (upd H a _) a _ = _
  rw [upd_upd]
  congr 3
  unfold hpush
  congr 1
  simp

theorem heappop_ok {c : Cx} {n : Nat} {H : AH} {a : Addr} {x : Int} {xs : List Int} (hl : H a = some (.list ((x :: xs).map .int))) (hz : xs.length < 900) :
    TC c (n + 3) (.ref 155) [.ref a] H fun v H' => v = .int x ∧ H' = upd H a (.list ((hpop (x :: xs)).map .int)) := by
  let Q0 : AV → AH → Prop := fun v H' => v = .int x ∧ H' = upd H a (.list ((hpop (x :: xs)).map .int))
  show TC _ _ _ _ _ Q0
  refine TC_def [Str.ofString "heap"] [Str.ofString "lastelt", Str.ofString "returnitem"] rfl rfl rfl (by kernel_rfl) rfl rfl ?_ (by decide) (by decide) (by decide) rfl rfl rfl rfl ?_
  · intro vs hvs
    rcases vs with _ | ⟨v1, _ | _⟩ <;> first | rfl | (simp at hvs)
  intro L
  obtain ⟨ys, y, hy⟩ : ∃ ys y, x :: xs = ys ++ [y] := ⟨(x :: xs).dropLast, (x :: xs).getLast (by simp), (List.dropLast_concat_getLast (by simp)).symm⟩
  have hyl : ys.length = xs.length := by have := congrArg List.length hy; simp at this; lia
  have hl' := hl
  rw [hy, List.map_append] at hl'
  refine JSS_cons (JS_set 1 (JE_meth PySem.F.plainAttrs_list PySem.F.slot_list_pop PySem.F.type_list_pop (JE_N 0 ⟨a, _, rfl, gets_of hl, rfl, JL_nil (J_pop (v := .int y) hl' (by simp; lia) ?_)⟩)))
  refine JSS_cons (JS_If (JB_value (JE_N 0 (J_truthList (gets_of (upd_self ..)) (by simp; lia) ⟨fun h => ?_, fun h => ?_⟩))))
  · rcases ys with _ | ⟨x', r⟩
    · simp at h
    obtain rfl : x' = x := by simp at hy; exact hy.1.symm
    have hrl : r.length < 900 := by simp at hyl; lia
    refine JSS_cons (JS_set 2 (JE_item (JE_N 0 (JE_int ⟨a, 0, _, .int x', rfl, rfl, gets_of (upd_self ..), rfl, ?_⟩))))
    refine JSS_cons (JS_setItem (JE_N 1 (JE_N 0 (JE_int (J_setList (i := 0) (v := .int y) (upd_self ..) (by simp) (by decide) ?_)))))
    show JSS _ _ _ _ ⟨_, upd (upd H a _) a _⟩ _
    rw [upd_upd]
    show JSS _ _ _ _ ⟨_, upd H a (.list ((y :: r).map .int))⟩ _
    refine JSS_cons (JS_Expr (JE_Call (k190 _) rfl rfl (JL_cons (JE_N 0 (JL_cons (JE_int (JL_nil (TC.mono (siftup_ok (pos := 0) (upd_self ..) (by simp) (by simp; lia)) ?_))))))))
    rintro _ _ ⟨rfl, rfl⟩
    refine ⟨nofun, JSS_cons (JS_Return (JE_N 2 ⟨rfl, ?_⟩))⟩
    show upd (upd H a _) a _ = _
    rw [upd_upd]
    have e9 : hpop ((x' :: r) ++ [y]) = sup (y :: r) 0 := by
      unfold hpop
      rw [List.dropLast_concat, List.getLast?_concat]; rfl
    rw [hy, e9]
  · rcases ys with _ | ⟨x', r⟩
    · refine JSS_nil (JSS_cons (JS_Return (JE_N 1 ?_)))
      simp at hy
      obtain ⟨rfl, rfl⟩ := hy
      exact ⟨rfl, rfl⟩
    · simp at h

theorem heapreplace_ok {c : Cx} {n : Nat} {H : AH} {a : Addr} {x y : Int} {xs : List Int} (hl : H a = some (.list ((x :: xs).map .int))) (hz : xs.length < 900) :
    TC c (n + 3) (.ref 162) [.ref a, .int y] H fun v H' => v = .int x ∧ H' = upd H a (.list ((hrepl (x :: xs) y).map .int)) := by
  let Q0 : AV → AH → Prop := fun v H' => v = .int x ∧ H' = upd H a (.list ((hrepl (x :: xs) y).map .int))
  show TC _ _ _ _ _ Q0
  refine TC_def [Str.ofString "heap", Str.ofString "item"] [Str.ofString "returnitem"] rfl rfl rfl (by kernel_rfl) rfl rfl ?_ (by decide) (by decide) (by decide) rfl rfl rfl rfl ?_
  · intro vs hvs
    rcases vs with _ | ⟨v1, _ | ⟨v2, _ | _⟩⟩ <;> first | rfl | (simp at hvs)
  intro L
  refine JSS_cons (JS_set 2 (JE_item (JE_N 0 (JE_int ⟨a, 0, _, .int x, rfl, rfl, gets_of hl, rfl, ?_⟩))))
  refine JSS_cons (JS_setItem (JE_N 1 (JE_N 0 (JE_int (J_setList (i := 0) (v := .int y) hl (by simp) (by decide) ?_)))))
  show JSS _ _ _ _ ⟨_, upd H a (.list ((y :: xs).map .int))⟩ _
  refine JSS_cons (JS_Expr (JE_Call (k190 _) rfl rfl (JL_cons (JE_N 0 (JL_cons (JE_int (JL_nil (TC.mono (siftup_ok (pos := 0) (upd_self ..) (by simp) (by simp; lia)) ?_))))))))
  rintro _ _ ⟨rfl, rfl⟩
  refine ⟨nofun, JSS_cons (JS_Return (JE_N 2 ⟨rfl, ?_⟩))⟩
  show upd (upd H a _) a _ = _
  rw [upd_upd]; rfl

noncomputable def hpp (xs : List Int) (y : Int) : Int × List Int := match xs with
  | [] => (y, [])
  | x :: r => if x < y then (x, sup (y :: r) 0) else (y, x :: r)
theorem heappushpop_ok {c : Cx} {n : Nat} {H : AH} {a : Addr} {y : Int} {xs : List Int} (hl : H a = some (.list (xs.map .int))) (hz : xs.length < 900) :
    TC c (n + 3) (.ref 169) [.ref a, .int y] H fun v H' => v = .int (hpp xs y).1 ∧ H' = upd H a (.list ((hpp xs y).2.map .int)) := by
  let Q0 : AV → AH → Prop := fun v H' => v = .int (hpp xs y).1 ∧ H' = upd H a (.list ((hpp xs y).2.map .int))
  show TC _ _ _ _ _ Q0
  refine TC.less (TC_def [Str.ofString "heap", Str.ofString "item"] [] rfl rfl rfl (by kernel_rfl) rfl rfl ?_ (by decide) (by decide) (by decide) rfl rfl rfl rfl ?_)
  · intro vs hvs
    rcases vs with _ | ⟨v1, _ | ⟨v2, _ | _⟩⟩ <;> first | rfl | (simp at hvs)
  intro L
  refine JSS_cons (JS_If (JB_And (JB_value (JE_N 0 (J_truthList (gets_of hl) (by simp; lia) ⟨fun h => ?_, fun h => ?_⟩)))))
  · rcases xs with _ | ⟨x, r⟩
    · simp at h
    refine JB_Compare (JE_item (JE_N 0 (JE_int ⟨a, 0, _, .int x, rfl, rfl, gets_of hl, rfl, JE_N 1 (J_lt ⟨_, rfl, fun hb => ?_, fun hb => ?_⟩)⟩)))
    · have hb' : x < y := by simpa using hb
      refine JSS_cons (JS_pair (JE_Tuple (JL_cons (JE_item (JE_N 0 (JE_int ⟨a, 0, _, .int x, rfl, rfl, gets_of hl, rfl, JL_cons (JE_N 1 (JL_nil ⟨by simp, fun t ht => ?_⟩))⟩))))))
      refine J_asgTwo (.inr (gets_of (upd_self ..))) fun v1 v2 h1 h2 => J_asg 1 (J_asgItem (JE_N 0 (JE_int fun vo vi eo ei => J_setList (i := 0) (v := .int y) (H_keep ht hl) (by simp) (by decide) ?_ v2 vo vi h2 eo ei)))
      rw [h1]
      show JSS _ _ _ _ ⟨_, upd (upd H t _) a (.list ((y :: r).map .int))⟩ _
      refine JSS_cons (JS_Expr (JE_Call (k190 _) rfl rfl (JL_cons (JE_N 0 (JL_cons (JE_int (JL_nil (TC.mono (siftup_ok (pos := 0) (upd_self ..) (by simp) (by simp at hz ⊢; lia)) ?_))))))))
      rintro _ _ ⟨rfl, rfl⟩
      refine ⟨nofun, JSS_nil (JSS_cons (JS_Return (JE_N 1 ⟨upd H a (.list ((sup (y :: r) 0).map .int)), ?_, ?_, ?_⟩)))⟩
      · show HLe _ (upd (upd (upd H t _) a _) a _)
        rw [upd_upd]
        exact HLe.upd2 (gets_H ht)
      · simp only [hpp, if_pos hb']; rfl
      · simp only [hpp, if_pos hb']
    · have hb' : ¬ x < y := by simpa using hb
      refine JSS_nil (JSS_cons (JS_Return (JE_N 1 ⟨_, HLe.refl _, ?_, ?_⟩)))
      · simp only [hpp, if_neg hb']; rfl
      · show H = _
        simp only [hpp, if_neg hb']; exact (upd_same _ hl).symm
  · rcases xs with _ | ⟨x, r⟩
    · refine ⟨nofun, fun _ => ?_⟩
      refine JSS_nil (JSS_cons (JS_Return (JE_N 1 ⟨_, HLe.refl _, rfl, (upd_same _ hl).symm⟩)))
    · simp at h
end Mine
end

-- part L13
section
open PySem PySem.W PySem.Calls PyProof.Rows
set_option Elab.async false
set_option linter.unusedVariables false
set_option autoImplicit false
set_option maxRecDepth 100000
namespace Mine
theorem li_ga : Slot "list_iterator" "__getattribute__" "object.__getattribute__" :=
  .of (owner := "object") (n := "__getattribute__") (by rw [typeLookup_type, builtinLookup_eq_fast]; kernel_rfl) (by decide +kernel) (by decide +kernel) (by decide +kernel)
    (by first | exact .inl (by decide +kernel) | exact .inr (by decide +kernel)) (by rw [isSubtype_type]; kernel_rfl)
theorem ga_entry : entryFor table "object.__getattribute__" = some Builtin.«object.__getattribute__» := entryFor_of_tree (by kernel_rfl)
theorem ga_args (a b : Value) : argsOk "object.__getattribute__" ⟨[a, b], []⟩ := by unfold argsOk; kernel_rfl
theorem li_next_lk : typeLookup (.type "list_iterator") "__next__" = pure (some (.builtin "list_iterator.__next__")) := by rw [typeLookup_type, builtinLookup_eq_fast]; kernel_rfl
theorem li_next_ty : typeOf (.builtin "list_iterator.__next__") = pure (.type "wrapper_descriptor") := by show builtinType _ = _; rw [builtinType_eq_fast]; kernel_rfl
theorem wd_get : Slot "wrapper_descriptor" "__get__" "wrapper_descriptor.__get__" :=
  .of (owner := "wrapper_descriptor") (n := "__get__") (by rw [typeLookup_type, builtinLookup_eq_fast]; kernel_rfl) (by decide +kernel) (by decide +kernel) (by decide +kernel)
    (by first | exact .inl (by decide +kernel) | exact .inr (by decide +kernel)) (by rw [isSubtype_type]; kernel_rfl)
theorem wd_set : typeLookup (.type "wrapper_descriptor") "__set__" = pure none := by rw [typeLookup_type, builtinLookup_eq_fast]; kernel_rfl
theorem wd_del : typeLookup (.type "wrapper_descriptor") "__delete__" = pure none := by rw [typeLookup_type, builtinLookup_eq_fast]; kernel_rfl
theorem wd_entry : entryFor table "wrapper_descriptor.__get__" = some Builtin.«wrapper_descriptor.__get__» := entryFor_of_tree (by kernel_rfl)
theorem wd_args (a b c : Value) : argsOk "wrapper_descriptor.__get__" ⟨[a, b, c], []⟩ := by unfold argsOk; kernel_rfl
theorem li_nogetattr : typeLookup (.type "list_iterator") "__getattr__" = pure none := by rw [typeLookup_type, builtinLookup_eq_fast]; kernel_rfl
theorem li_sub : isSubtype (.type "list_iterator") (.type (".".intercalate ("list_iterator.__next__".cutAt '.').dropLast)) = pure true := by
  rw [show ".".intercalate ("list_iterator.__next__".cutAt '.').dropLast = "list_iterator" by decide +kernel, isSubtype_type]; kernel_rfl
section
variable {prog : Program} {w : World} {A : Around} {E : Value → Shared → Prop} {h : Heap} {g : Array GenState} {d : Drawn} {t : Nat} {os : OsState} {a : Addr} {o : Obj}
noncomputable def liObj (l : Addr) (i : Nat) : Obj := ⟨.type "list_iterator", none, .fields #[.ref l, .int i 0], #[]⟩
variable {l : Addr} {i : Nat}
theorem nx_get {R : Result → Shared → Prop} (hx : h.get? a = some (liObj l i)) (hq : R (.ok (.ret (.ref h.objs.size))) ⟨h.push (nextObj a), g, d, t, os⟩) :
    codeAny (model prog w) A (.call (.builtin "wrapper_descriptor.__get__") ⟨[.builtin "list_iterator.__next__", .ref a, .type "list_iterator"], []⟩) R ⟨h, g, d, t, os⟩ := by
  have hT : (⟨h, g, d, t, os⟩ : Shared).TypeIs (.ref a) "list_iterator" := ⟨_, hx, rfl⟩
  have hT5 : (⟨h, g, d, t, os⟩ : Shared).TypeIs (.builtin "list_iterator.__next__") "wrapper_descriptor" := li_next_ty
  have f8 := li_sub
  refine codeAny_call_builtin wd_get.plain wd_entry (wd_get.check _ _ _ _ _ _ _ _ hT5 (wd_args _ _ _) ?_)
  unfold Builtin.«wrapper_descriptor.__get__»
  repeat (any_goals (first | assumption | wp_step))
theorem nx_entry {tk : Tok} {Q : Fin → Shared → Prop} (hx : h.get? a = some (liObj l i)) (hq : Q (.done (.ret (.ref h.objs.size))) ⟨h.push (nextObj a), g, d, t, os⟩) :
    wpAny (model prog w) A (Builtin.«object.__getattribute__» ⟨[.ref a, .str "__next__" tk], []⟩) Q E ⟨h, g, d, t, os⟩ := by
  have hT : (⟨h, g, d, t, os⟩ : Shared).TypeIs (.ref a) "list_iterator" := ⟨_, hx, rfl⟩
  have f4 := li_next_lk
  have f5 := li_next_ty
  have f6 := wd_get.lookup
  have f7 := wd_set
  have f8 := wd_del
  unfold liObj at hx
  repeat (any_goals (first | assumption | wp_step))
  refine nx_get hx ?_
  repeat (any_goals (first | assumption | wp_step))
theorem nx_by {tk : Tok} {Q : Value → Shared → Prop} (hx : h.get? a = some (liObj l i)) (hq : Q (.ref h.objs.size) ⟨h.push (nextObj a), g, d, t, os⟩) :
    wpAny (model prog w) A (getAttrBy (.ref a) (.str "__next__" tk) true true) Q E ⟨h, g, d, t, os⟩ := by
  have hT : (⟨h, g, d, t, os⟩ : Shared).TypeIs (.ref a) "list_iterator" := ⟨_, hx, rfl⟩
  have f2 := li_ga.lookup
  have f3 := li_ga.bind (.ref a)
  unfold getAttrBy
  repeat (any_goals (first | assumption | ((with_reducible show wpAny _ _ (call (Value.builtin "object.__getattribute__") _ _) _ _ _); refine wpAny_call (codeAny_call_builtin li_ga.plain ga_entry (li_ga.check _ _ _ _ _ _ _ _ hT (ga_args _ _) (nx_entry hx ?_)))) | wp_step))
theorem nx_attr {Q : Value → Shared → Prop} (hx : h.get? a = some (liObj l i)) (hq : Q (.ref h.objs.size) ⟨h.push (nextObj a), g, d, t + 1, os⟩) :
    wpAny (model prog w) A (getAttr (.ref a) "__next__" true) Q E ⟨h, g, d, t, os⟩ := by
  unfold getAttr
  repeat (any_goals (first | assumption | with_reducible apply nx_by hx | wp_step))

/-- iter(l) -/
theorem it_entry : entryFor table "iter" = some Builtin.«iter» := entryFor_of_fast (by kernel_rfl)
theorem it_args (a : Value) : argsOk "iter" ⟨[a], []⟩ := by unfold argsOk; kernel_rfl
theorem call_iter {s : Shared} {items : Array Value} {Q : Value → Shared → Prop} (hl : s.heap.IsList l items) (hq : Q (.ref s.heap.objs.size) { s with heap := s.heap.push (liObj l 0) }) :
    wpAny (model prog w) A (call (.builtin "iter") [.ref l]) Q E s := by
  refine call_function_entry (by decide +kernel) (by decide +kernel) it_entry (it_args _) ?_
  unfold Builtin.«iter»
  refine wpAny_bind (m := someArgs "iter" 1 2 _) (wpAny_of_eq (a := [Value.ref l]) (by first | rfl | kernel_rfl!) ?_)
  show wpAny _ _ (pyIter (.ref l) >>= _) _ _ _
  exact wpAny_bind (wpAny_pyIter_list hl (wpAny_pure ⟨_, rfl, hq⟩))

/-- the wrapper called -/
theorem nx_check (x : Value) : checkBoundCall "list_iterator.__next__" ⟨[x], []⟩ = pure () := by first | rfl | kernel_rfl
theorem nx_quiet {as : Args} : (Code.builtin "list_iterator.__next__" as).quiet = true := Code.quiet_builtin _ (by decide +kernel)
theorem nx_open {s : Shared} {u it : Addr} {Q : Value → Shared → Prop} (hu : s.heap.get? u = some (nextObj it))
    (hq : wpAny (model prog w) A.in1 (Builtin.«list_iterator.__next__» ⟨[.ref it], []⟩) (fun fin s' => ∃ v, fin = .done (.ret v) ∧ Q v s') E s) :
    wpAny (model prog w) A (call (.ref u) []) Q E s := by
  refine wpAny_call (codeAny_of_tree ?_)
  show wpAny _ A.in1 (callAny (.ref u) ⟨[], []⟩) _ _ s
  simp only [callAny]
  refine wpAny_bind (wpAny_load hu ?_)
  simp only [nextObj, show (Value.type "method-wrapper" == Value.type "method" || Value.type "method-wrapper" == Value.type "builtin_function_or_method" || Value.type "method-wrapper" == Value.type "method-wrapper") = true by decide, if_true]
  show wpAny _ _ (if (Value.type "method-wrapper" != Value.type "method") = true then _ else _) _ _ _
  rw [if_pos (by decide)]
  refine wpAny_bind (wpAny_of_eq (a := ()) (nx_check _) ?_)
  refine wpAny_pure ⟨nx_quiet, codeAny_builtin entry_listiter_next ?_⟩
  show wpAny (model prog w) (A.under (Code.builtin "list_iterator.__next__" ⟨[.ref it], []⟩)) (Builtin.«list_iterator.__next__» ⟨[.ref it], []⟩) _ _ _
  rw [Around.under_plain (show (Code.builtin "list_iterator.__next__" ⟨[.ref it], []⟩).weight = 0 by rfl) rfl]
  exact wpAny_mono hq (fun fin s' ⟨v, e, z⟩ => by subst e; exact z) fun _ _ z => z
theorem nx_item {s : Shared} {it : Addr} {items : Array Value} {x : Value} {Q : Value → Shared → Prop} (ho : s.heap.get? it = some (liObj l i)) (hl : s.heap.IsList l items) (hx : items[i]? = some x)
    (hQ : ∀ h', h'.get? it = some (liObj l (i + 1)) → Heap.SameBut it s.heap h' → Q x { s with heap := h' }) :
    wpAny (model prog w) A (Builtin.«list_iterator.__next__» ⟨[.ref it], []⟩) (fun fin s' => ∃ v, fin = .done (.ret v) ∧ Q v s') E s := by
  obtain ⟨ol, hol, _, nl, hdl⟩ := hl
  show wpAny _ _ (field (.ref it) 0 >>= _) _ _ s
  refine wpAny_bind (wpAny_field ho rfl (x := .ref l) rfl ?_)
  show wpAny _ _ (if (Value.ref l == Value.none) = true then _ else _) _ _ s
  rw [if_neg (show ¬ ((Value.ref l == Value.none) = true) from Bool.false_ne_true)]
  show wpAny _ _ (field (.ref it) 1 >>= _) _ _ s
  refine wpAny_bind (wpAny_field ho rfl (x := .int i 0) rfl ?_)
  show wpAny _ _ (seqItems? (.ref l) >>= _) _ _ s
  refine wpAny_bind (wpAny_seqItems hol hdl ?_)
  simp only [Int.toNat_natCast, hx]
  refine wpAny_bind (wpAny_setField ho rfl (by simp) (wpAny_pure ⟨x, rfl, hQ _ ?_ (Heap.SameBut.update ..)⟩))
  have e : (liObj l i).mapFields (·.setIfInBounds 1 (rawInt ((i : Int) + 1))) = liObj l (i + 1) := rfl
  have := Heap.get?_update_self (h := s.heap) (Obj.mapFields (·.setIfInBounds 1 (rawInt ((i : Int) + 1)))) ho rfl
  exact this
theorem nx_stop {s : Shared} {it : Addr} {items : Array Value} {Q : Value → Shared → Prop} (hh : A.handled = none) (ho : s.heap.get? it = some (liObj l i)) (hl : s.heap.IsList l items) (hx : items[i]? = none)
    (hQ : ∀ h' e, Heap.ExtBut it s.heap h' → s.heap.get? e = none → (∃ ob vs, h'.get? e = some ob ∧ ob.cls = .type "StopIteration" ∧ ob.data = .fields vs ∧ vs[1]? = some .none) → E (.ref e) { s with heap := h' }) :
    wpAny (model prog w) A (Builtin.«list_iterator.__next__» ⟨[.ref it], []⟩) (fun fin s' => ∃ v, fin = .done (.ret v) ∧ Q v s') E s := by
  obtain ⟨ol, hol, _, nl, hdl⟩ := hl
  show wpAny _ _ (field (.ref it) 0 >>= _) _ _ s
  refine wpAny_bind (wpAny_field ho rfl (x := .ref l) rfl ?_)
  show wpAny _ _ (if (Value.ref l == Value.none) = true then _ else _) _ _ s
  rw [if_neg (show ¬ ((Value.ref l == Value.none) = true) from Bool.false_ne_true)]
  show wpAny _ _ (field (.ref it) 1 >>= _) _ _ s
  refine wpAny_bind (wpAny_field ho rfl (x := .int i 0) rfl ?_)
  show wpAny _ _ (seqItems? (.ref l) >>= _) _ _ s
  refine wpAny_bind (wpAny_seqItems hol hdl ?_)
  simp only [Int.toNat_natCast, hx]
  refine wpAny_bind (wpAny_rule (wpAny_bind (wpAny_setField ho rfl (by simp) ?_)))
  show wpAny _ _ (newExc (.type "StopIteration") [] >>= _) _ _ _
  refine wpAny_bind ?_
  simp only [newExc, newTuple]
  refine wpAny_bind (wpAny_newObj_type ?_ (by size_fits))
  refine wpAny_bind (m := firstArgMember _ _) (wpAny_of_eq (a := Value.none) (by first | rfl | (simp only [firstArgMember]; rfl)) ?_)
  refine wpAny_newObj_type ?_ (by size_fits)
  simp only [raiseNew]
  refine wpAny_bind (wpAny_handled ?_)
  rw [hh]
  refine wpAny_bind (wpAny_pure (wpAny_throw ?_))
  refine hQ _ _ (((Heap.SameBut.update ..).extBut.push _).push _) ?_ ⟨_, _, Heap.get?_push_size _ rfl, rfl, rfl, ?_⟩
  · refine Heap.get?_none_of_le ?_
    rw [Heap.size_push, Heap.size_after_update]; exact Nat.le_succ _
  · rfl
end

theorem nin_iter (w : World) : nsIn (KW w) mainGlobals "iter" = some none := by kernel_rfl
theorem boot_iter : bootBuiltins "iter" = some (.builtin "iter") := by kernel_rfl
section
variable {c : Cx} {n : Nat} {F : Fm} {P : PS}
/-- iter(l) -/
theorem JE_iter {p pos : Pos} {e : Expr} {Q : AV → PS → Prop} (h : JE c n F e P fun v P1 => ∃ l vs, v = .ref l ∧ gets c P1.H l = some (.list vs) ∧ ∀ r, gets c P1.H r = none → Q (.ref r) ⟨P1.m, upd P1.H r (.liter l 0)⟩)
    (hx : F.env.kindOf "iter" = some .globalImplicit := by rfl) (he : isStar e = false := by rfl) : JE c n F (.Call (.Name "iter" p) [e] [] pos) P Q := by
  refine JE_builtin (nin_iter c.w) boot_iter (JL_cons (h.mono fun v P1 ⟨l, vs, e1, e2, e3⟩ => JL_nil fun us eu => ?_) (back_cons he)) (by decide) hx (by decide) (by rw [List.any_cons, he]; rfl)
  subst e1
  obtain ⟨u, rfl, ev⟩ := map1 eu
  obtain rfl := abs_ref ev
  refine TH.J ⟨fun A s hr hp => ?_⟩
  obtain ⟨co, h1, h2⟩ := hp.at e2
  obtain ⟨items, hl, _⟩ := islist_of h1 h2
  exact call_iter hl ⟨_, hp.alloc (o := .liter l 0) rfl rfl rfl rfl, HF.alloc rfl, e3 _ hp.free⟩
/-- it.__next__ -/
theorem J_getNext {it l : Addr} {i : Nat} {Q : AV → PS → Prop} (h : P.H it = some (.liter l i)) (hq : ∀ r, gets c P.H r = none → Q (.ref r) ⟨P.m, upd P.H r (.next it)⟩) :
    ∀ vo, abs vo = .ref it → J c n F abs (getAttr vo "__next__" true) P Q := fun vo eo => by
  obtain rfl := abs_ref eo
  refine TH.J ⟨fun A s hr hp => ?_⟩
  obtain ⟨co, h1, rfl⟩ := hp.know _ _ h
  obtain ⟨hh, g, d, t, os⟩ := s
  exact nx_attr (l := l) (i := i) h1 ⟨_, (hp.alloc (o := .next it) (co := nextObj it) (s' := ⟨hh.push (nextObj it), g, d, t, os⟩) rfl rfl rfl rfl).toks _, HF.alloc rfl, hq _ hp.free⟩
end
end Mine
end

-- part L14
section
open PySem PySem.W PySem.Calls PyProof.Rows
set_option Elab.async false
set_option linter.unusedVariables false
set_option autoImplicit false
set_option maxRecDepth 100000
namespace Mine

/-! ### exceptions -/
noncomputable abbrev CxB.hot {ib : Bool} (c : CxB ib) : CxB true := { w := c.w, h₀ := c.h₀, mg := c.mg, mb := c.mb, os := c.os, ro := c.ro, X := c.X, g := c.g, b := c.b, nolimit := c.nolimit, builtins := c.builtins, hro := c.hro, stk := c.stk }

/-- an exception in flight; N: what came new -/
noncomputable def Exc {ib : Bool} (c : CxB ib) (N : Addr → Prop) (H : AH) (h : Heap) (cls : Value) (a : Addr) : Prop := N a ∧ H a = none ∧ c.h₀.get? a = none ∧ ∃ ob vs, h.get? a = some ob ∧ ob.cls = cls ∧ ob.data = .fields vs ∧
  (vs[1]? = some .none ∨ ∃ T oT ts, vs[1]? = some (.ref T) ∧ T ≠ a ∧ N T ∧ H T = none ∧ c.h₀.get? T = none ∧ h.get? T = some oT ∧ oT.data = .fields ts ∧ ts[3]? = some .none)
/-- the same, with its place noted -/
noncomputable def Exc1 {ib : Bool} (c : CxB ib) (N : Addr → Prop) (H : AH) (h : Heap) (cls : Value) (a : Addr) : Prop := N a ∧ H a = none ∧ c.h₀.get? a = none ∧ ∃ ob vs, h.get? a = some ob ∧ ob.cls = cls ∧ ob.data = .fields vs ∧
  ∃ T oT ts, vs[1]? = some (.ref T) ∧ T ≠ a ∧ N T ∧ H T = none ∧ c.h₀.get? T = none ∧ h.get? T = some oT ∧ oT.data = .fields ts ∧ ts[3]? = some .none
theorem Exc1.exc {ib : Bool} {c : CxB ib} {N : Addr → Prop} {H : AH} {h : Heap} {cls : Value} {a : Addr} (x : Exc1 c N H h cls a) : Exc c N H h cls a := by
  obtain ⟨x1, x2, x3, ob, vs, x4, x5, x6, T, oT, ts, x7⟩ := x
  exact ⟨x1, x2, x3, ob, vs, x4, x5, x6, .inr ⟨T, oT, ts, x7⟩⟩
noncomputable def Newer (H : AH) (s : Shared) (a : Addr) : Prop := ∀ o, s.heap.get? a = some o → H a ≠ none

theorem Stk.frames {ib : Bool} {c : CxB ib} {H : AH} {h base : Heap} (x : Stk c H h) (hb : ∀ a ∈ c.stk.filterMap (·.frame), base.get? a = none) : h.FunFrames base c.stk := by
  have : ∀ l : List Env, (∀ e ∈ l, e ∈ c.stk) → h.FunFrames base l := by
    intro l
    induction l with
    | nil => intro _; trivial
    | cons e r ih =>
      intro hl
      obtain ⟨h1, L, o, es, n, h2, h3, h4, h5, h6⟩ := x e (hl e (by simp))
      exact ⟨h1, ⟨L, o, h2, hb L (List.mem_filterMap.mpr ⟨e, hl e (by simp), h2⟩), h5, fun vs q => by rw [h6] at q; cases q⟩, ih fun e' he => hl e' (by simp [he])⟩
  exact this _ fun _ h => h

section
variable {ib : Bool} {c : CxB ib} {A : Around} {E : Value → Shared → Prop} {s : Shared} {H : AH} {N : Addr → Prop} {cls : Value} {a : Addr} {env : Env} {outer : List Env} {L : Addr}

/-- what Left gives -/
theorem left_gives {h1 h' : Heap} {as : List Addr} {oe : Obj} (hp : HRep c H s) (hN : ∀ b, s.heap.get? b = none → N b) (x1 : N a) (x2 : H a = none) (x3 : c.h₀.get? a = none)
    (has : ∀ b ∈ as, b = a ∨ (N b ∧ H b = none ∧ c.h₀.get? b = none)) (haa : a ∈ as) (hvs : ∃ vs, oe.data = .fields vs) (ha : s.heap.get? a = some oe)
    (hf : ∀ b ∈ as, ∀ o, s.heap.get? b = some o → ∃ vs, o.data = .fields vs)
    (hl : Heap.Left (hideAll s.heap (as ++ c.stk.filterMap (·.frame))) c.stk a cls h1 h') (hsame : ∀ b, b ∉ as → h1.get? b = s.heap.get? b) :
    HRep c H { s with heap := h' } ∧ (∀ b o, s.heap.get? b = some o → ¬ N b → ∃ o', h'.get? b = some o' ∧ Like o o') ∧ Exc1 c N H h' cls a := by
  obtain ⟨l1, l2, l3, l4⟩ := hl
  have fr : ∀ b ∈ c.stk.filterMap (·.frame), ∃ o es n, H b = none ∧ c.h₀.get? b = none ∧ s.heap.get? b = some o ∧ o.data = .dict es n := fun b hb => by
    obtain ⟨e, he, hfe⟩ := List.mem_filterMap.mp hb
    obtain ⟨_, L, o, es, n, h2, h3, h4, h5, h6⟩ := hp.stk e he
    rw [h2] at hfe; cases hfe
    exact ⟨o, es, n, h4, h3, h5, h6⟩
  have frn : ∀ b ∈ c.stk.filterMap (·.frame), b ∉ as := fun b hb m => by
    obtain ⟨o, es, n, _, _, q1, q2⟩ := fr b hb
    obtain ⟨vs, q3⟩ := hf b m o q1
    rw [q2] at q3; cases q3
  have exact1 : ∀ b o, s.heap.get? b = some o → b ∉ as → b ∉ c.stk.filterMap (·.frame) → h'.get? b = some o := fun b o e n1 n2 => l1 b o (hideAll_get _ e (by simp only [List.mem_append, not_or]; exact ⟨n1, n2⟩))
  have like1 : ∀ b o, s.heap.get? b = some o → b ∉ as → ∃ o', h'.get? b = some o' ∧ Like o o' := fun b o e n1 => by
    by_cases q : b ∈ c.stk.filterMap (·.frame)
    · obtain ⟨o1, es, n, _, _, q1, q2⟩ := fr b q
      rw [e] at q1; cases q1
      obtain ⟨sl, z⟩ := l4 b o ((hsame b n1).trans e) (fun vs z => by rw [q2] at z; cases z)
      exact ⟨_, z, sl, rfl, fun z => absurd q2 (z es n)⟩
    · exact ⟨o, exact1 b o e n1 q, Like.refl o⟩
  have ask : ∀ b o, H b = some o → b ∉ as := fun b o e m => by
    rcases has b m with rfl | ⟨_, z, _⟩
    · rw [x2] at e; cases e
    · rw [z] at e; cases e
  have asb : ∀ b o, c.h₀.get? b = some o → b ∉ as := fun b o e m => by
    rcases has b m with rfl | ⟨_, _, z⟩
    · rw [x3] at e; cases e
    · rw [z] at e; cases e
  have asN : ∀ b, ¬ N b → b ∉ as := fun b e m => by
    rcases has b m with rfl | ⟨z, _⟩
    · exact e x1
    · exact e z
  refine ⟨⟨fun b o e => ?_, fun b o e => ⟨?_, (hp.base b o e).2⟩, hp.hi, hp.os, hp.gens, hp.stk.step fun b o es n e1 e2 e3 e4 => ?_⟩, fun b o e n => like1 b o e (asN b n), ?_⟩
  · obtain ⟨co, z1, z2⟩ := hp.know b o e
    refine ⟨co, exact1 b co z1 (ask b o e) fun m => ?_, z2⟩
    obtain ⟨_, _, _, z, _⟩ := fr b m
    rw [z] at e; cases e
  · refine exact1 b o (hp.base b o e).1 (asb b o e) fun m => ?_
    obtain ⟨_, _, _, _, z, _⟩ := fr b m
    rw [z] at e; cases e
  · obtain ⟨o', z1, z2⟩ := like1 b o e1 fun m => by
      obtain ⟨vs, z⟩ := hf b m o e1
      rw [e4] at z; cases z
    exact ⟨⟨o', es, n, z1, z2.data.trans e4⟩, e2⟩
  · obtain ⟨oe', vs, T, oT, ts, t1, t2, t3, t4, t5, t6, t7, t8, t9⟩ := l3
    refine ⟨x1, x2, x3, oe', vs, t1, t2, t3, T, oT, ts, t4, t6, ?_⟩
    have : N T ∧ H T = none ∧ c.h₀.get? T = none := by
      cases q : s.heap.get? T with
      | none =>
        refine ⟨hN T q, ?_, ?_⟩
        · cases z : H T with
          | none => rfl
          | some o => obtain ⟨co, y, _⟩ := hp.know _ _ z; rw [q] at y; cases y
        · cases z : c.h₀.get? T with
          | none => rfl
          | some o => have := (hp.base _ _ z).1; rw [q] at this; cases this
      | some o =>
        by_cases m : T ∈ as
        · rcases has T m with z | z
          · exact absurd z t6
          · exact z
        · by_cases m2 : T ∈ c.stk.filterMap (·.frame)
          · obtain ⟨o1, es, n, _, _, q1, q2⟩ := fr T m2
            obtain ⟨sl, z⟩ := l4 T o1 ((hsame T m).trans q1) (fun vs z => by rw [q2] at z; cases z)
            rw [t7] at z; cases z
            rw [show ({ o1 with slots := sl } : Obj).data = o1.data from rfl, q2] at t8; cases t8
          · rw [hideAll_get _ q (by simp only [List.mem_append, not_or]; exact ⟨m, m2⟩)] at t5; cases t5
    exact ⟨this.1, this.2.1, this.2.2, t7, t8, t9⟩

/-- the frame noted in the traceback -/
theorem note_flight {Q : Unit → Shared → Prop} (hfr : A.frames = some c.stk) (hst : c.stk = env :: outer) (hf : env.frame = some L) (hp : HRep c H s) (hN : ∀ b, s.heap.get? b = none → N b) (x : Exc c N H s.heap cls a)
    (h : ∀ h', HRep c H { s with heap := h' } → (∀ b o, s.heap.get? b = some o → ¬ N b → ∃ o', h'.get? b = some o' ∧ Like o o') → Exc1 c N H h' cls a → Q () { s with heap := h' }) :
    wpAny (M c) A (noteFrame (.ref a) env) (fun _ s₂ => wpAny (M c) A (setFlight (.ref a) none) Q E s₂) E s := by
  obtain ⟨x1, x2, x3, ob, vs, x4, x5, x6, x7⟩ := x
  subst x5
  have hfr' : A.frames = some (env :: outer) := hst ▸ hfr
  rcases x7 with x7 | ⟨T, oT, ts, x7, t1, t2, t3, t4, t5, t6, t7⟩
  · have hl := hp.stk.frames (base := hideAll s.heap ([a] ++ c.stk.filterMap (·.frame))) fun b hb => hideAll_none _ (List.mem_append_right _ hb)
    rw [hst] at hl
    unfold noteFrame
    simp only [hf]
    refine wpAny_bind (wpAny_field x4 x6 x7 ?_)
    rw [if_neg (by decide)]
    refine wpAny_newEntry hfr' hl hf x4 (fun b o e => of_hideAll _ e) (hideAll_none _ (by simp)) x6 (Array.getElem?_eq_some_iff.mp x7).1 fun h' hL => ?_
    rw [← hst] at hL
    obtain ⟨k1, k2, k3⟩ := left_gives (as := [a]) hp hN x1 x2 x3 (fun b hb => .inl (by simpa using hb)) (by simp) ⟨vs, x6⟩ x4 (fun b hb o e => by simp at hb; subst hb; rw [x4] at e; cases e; exact ⟨vs, x6⟩) hL fun b _ => rfl
    exact h h' k1 k2 k3
  · have hl := hp.stk.frames (base := hideAll s.heap ([a, T] ++ c.stk.filterMap (·.frame))) fun b hb => hideAll_none _ (List.mem_append_right _ hb)
    rw [hst] at hl
    have other : ∀ b, b ≠ T → (s.heap.update T (Obj.mapFields (·.setIfInBounds 3 Value.none))).get? b = s.heap.get? b := fun b hb => Heap.get?_update_other _ _ (Ne.symm hb)
    unfold noteFrame
    simp only [hf]
    refine wpAny_bind (wpAny_field x4 x6 x7 ?_)
    rw [if_pos (show (Value.ref T != Value.none) = true from by simp)]
    refine wpAny_bind (wpAny_field t5 t6 t7 ?_)
    rw [if_neg (show ¬ ((Value.none == rawInt L) = true) from by simp [rawInt])]
    refine wpAny_bind (wpAny_setField t5 t6 (Array.getElem?_eq_some_iff.mp t7).1 ?_)
    have nT : ∀ b o, s.heap.get? b = some o → (∀ vs, o.data ≠ .fields vs) → b ≠ T := fun b o hb hnf q => by
      rw [q, t5] at hb; cases hb; exact hnf ts t6
    refine wpAny_newEntry hfr' (hl.of_keeps fun b o hb hnf => ⟨o, (other b (nT b o hb hnf)).trans hb, rfl⟩) hf ((other a (Ne.symm t1)).trans x4)
      (fun b o e => (other b fun q => by rw [q, hideAll_none _ (by simp)] at e; cases e).trans (of_hideAll _ e)) (hideAll_none _ (by simp)) x6 (Array.getElem?_eq_some_iff.mp x7).1 fun h' hL => ?_
    rw [← hst] at hL
    obtain ⟨k1, k2, k3⟩ := left_gives (as := [a, T]) hp hN x1 x2 x3 (fun b hb => by simp at hb; rcases hb with rfl | rfl; exact .inl rfl; exact .inr ⟨t2, t3, t4⟩) (by simp) ⟨vs, x6⟩ x4
      (fun b hb o e => by simp at hb; rcases hb with rfl | rfl; (rw [x4] at e; cases e; exact ⟨vs, x6⟩); (rw [t5] at e; cases e; exact ⟨ts, t6⟩)) hL fun b hb => other b fun q => hb (by simp [q])
    exact h h' k1 k2 k3

theorem flight_again {Q : Unit → Shared → Prop} (hp : HRep c H s) (x : Exc1 c N H s.heap cls a)
    (h : ∀ h', HRep c H { s with heap := h' } → (∀ b o, s.heap.get? b = some o → ¬ N b → ∃ o', h'.get? b = some o' ∧ Like o o') → Q () { s with heap := h' }) :
    wpAny (M c) A (setFlight (.ref a) none) Q E s := by
  obtain ⟨x1, x2, x3, ob, vs, x4, x5, x6, T, oT, ts, x7, t1, t2, t3, t4, t5, t6, t7⟩ := x
  refine wpAny_setFlight_none x4 x6 x7 t5 t6 (Array.getElem?_eq_some_iff.mp t7).1 ?_
  have other : ∀ b, b ≠ T → (s.heap.update T (Obj.mapFields (·.setIfInBounds 3 Value.none))).get? b = s.heap.get? b := fun b hb => Heap.get?_update_other _ _ (Ne.symm hb)
  refine h _ ⟨fun b o e => ?_, fun b o e => ⟨?_, (hp.base b o e).2⟩, hp.hi, hp.os, hp.gens, hp.stk.step fun b o es n e1 e2 e3 e4 => ?_⟩ fun b o e n => ?_
  · obtain ⟨co, z1, z2⟩ := hp.know b o e
    exact ⟨co, (other b fun q => by subst q; rw [t3] at e; cases e).trans z1, z2⟩
  · exact (other b fun q => by subst q; rw [t4] at e; cases e).trans (hp.base b o e).1
  · exact ⟨⟨o, es, n, (other b fun q => by subst q; rw [t5] at e1; cases e1; rw [t6] at e4; cases e4).trans e1, e4⟩, e2⟩
  · exact ⟨o, (other b fun q => n (q ▸ t2)).trans e, Like.refl o⟩
end
end Mine
end

-- part L15
section
open PySem PySem.W PySem.Calls PyProof.Rows
set_option Elab.async false
set_option genSizeOf false
set_option genInjectivity false
set_option linter.unusedVariables false
set_option autoImplicit false
set_option maxRecDepth 100000
namespace Mine

noncomputable def del (H : AH) (a : Addr) : AH := fun b => if b = a then none else H b
theorem del_self (H : AH) (a : Addr) : del H a a = none := if_pos rfl
theorem del_ne (H : AH) {a b : Addr} (h : b ≠ a) : del H a b = H b := if_neg h

/-- the judgement with an exception of one class -/
structure JX {α β : Type} (c : Cx) (n : Nat) (F : Fm) (ab : α → β) (t : Sem α) (P : PS) (Q : β → PS → Prop) (cls : Value) (QE : PS → Prop) : Prop where
  go : ∀ A s, Room c n A → Rep c F P s → wpAny (M c) A t (fun v s' => ∃ P', Rep c F P' s' ∧ FF F P s s' P' ∧ Q (ab v) P')
    (fun e s' => ∃ a P', e = .ref a ∧ Rep c F P' s' ∧ FF F P s s' P' ∧ Exc c (Newer P.H s) P'.H s'.heap cls a ∧ QE P') s
/-- a call -/
structure TCX (c : Cx) (n : Nat) (f : Value) (args : List AV) (H : AH) (Q : AV → AH → Prop) (cls : Value) (QE : AH → Prop) : Prop where
  co : ∀ vs, vs.map abs = args → ∀ A s, Room c n A → HRep c H s → codeAny (M c) A (.call f ⟨vs, []⟩) (fun r s' => match r with
    | .ok (.ret v) => ∃ H', HRep c H' s' ∧ HF H s s' H' ∧ Q (abs v) H'
    | .ok _ => False
    | .error e => ∃ a H', e = .ref a ∧ HRep c H' s' ∧ HF H s s' H' ∧ Exc c (Newer H s) H' s'.heap cls a ∧ QE H') s

section
variable {α β : Type} {c : Cx} {n : Nat} {F : Fm} {P : PS} {cls : Value} {QE : PS → Prop}

theorem Exc.mono {N N' : Addr → Prop} {H : AH} {h : Heap} {a : Addr} (x : Exc c N H h cls a) (k : ∀ b, N b → N' b) : Exc c N' H h cls a := by
  obtain ⟨x1, x2, x3, ob, vs, x4, x5, x6, x7⟩ := x
  refine ⟨k _ x1, x2, x3, ob, vs, x4, x5, x6, ?_⟩
  rcases x7 with x7 | ⟨T, oT, ts, y1, y2, y3, y4⟩
  · exact .inl x7
  · exact .inr ⟨T, oT, ts, y1, y2, k _ y3, y4⟩
theorem newer_of {P1 : PS} {s s1 : Shared} (f : FF F P s s1 P1) (r1 : Rep c F P1 s1) {b : Addr} (h : Newer P1.H s1 b) : Newer P.H s b := fun o e q => by
  by_cases z : b = F.env.locals
  · subst z
    obtain ⟨mm, ⟨oL, es, ep, hL, _⟩, _⟩ := r1.ns
    exact h oL hL r1.own
  · obtain ⟨⟨o', z1, _⟩, z2⟩ := f b o e z q
    exact h o' z1 z2
theorem newer_all {P1 : PS} {s s1 : Shared} (f : FF F P s s1 P1) (r1 : Rep c F P1 s1) {b : Addr} (h : s1.heap.get? b = none) : Newer P.H s b :=
  newer_of f r1 fun o e => by rw [h] at e; cases e
theorem not_newer {H : AH} {s : Shared} {b : Addr} {o : Obj} (e : s.heap.get? b = some o) (q : H b = none) : ¬ Newer H s b := fun h => h o e q

theorem J.x {ab : α → β} {t : Sem α} {Q : β → PS → Prop} (h : J c n F ab t P Q) : JX c n F ab t P Q cls QE := ⟨fun A s hr hp => wpAny_mono (h.go A s hr hp) (fun _ _ z => z) fun _ _ z => z.elim⟩
theorem JX.mono {ab : α → β} {t : Sem α} {Q Q' : β → PS → Prop} (h : JX c n F ab t P Q cls QE) (hQ : ∀ b P', Q b P' → Q' b P') : JX c n F ab t P Q' cls QE :=
  ⟨fun A s hr hp => wpAny_mono (h.go A s hr hp) (fun v s' ⟨P', a, b, d⟩ => ⟨P', a, b, hQ _ _ d⟩) fun _ _ x => x⟩

/-- from a later point -/
theorem JX.after {ab : α → β} {t : Sem α} {Q : β → PS → Prop} {P1 : PS} (h : JX c n F ab t P1 Q cls QE) {A : Around} {s s1 : Shared} (hr : Room c n A) (r1 : Rep c F P1 s1) (f : FF F P s s1 P1) :
    wpAny (M c) A t (fun v s' => ∃ P', Rep c F P' s' ∧ FF F P s s' P' ∧ Q (ab v) P') (fun e s' => ∃ a P', e = .ref a ∧ Rep c F P' s' ∧ FF F P s s' P' ∧ Exc c (Newer P.H s) P'.H s'.heap cls a ∧ QE P') s1 :=
  wpAny_mono (h.go A s1 hr r1) (fun v s' ⟨P', a, b, d⟩ => ⟨P', a, f.trans b, d⟩) fun e s' ⟨a, P', z1, z2, z3, z4, z5⟩ => ⟨a, P', z1, z2, f.trans z3, z4.mono fun b hb => newer_of f r1 hb, z5⟩

theorem JX_cons {st : Stmt} {rest : List Stmt} {Q : AF → PS → Prop}
    (h : JX c n F absF (exec st F.env) P (fun f P1 => match f with | .next => JX c n F absF (execs rest F.env) P1 Q cls QE | f => Q f P1) cls QE) : JX c n F absF (execs (st :: rest) F.env) P Q cls QE :=
  ⟨fun A s hr hp => wpAny_execs_cons (wpAny_mono (h.go A s hr hp) (fun f s1 ⟨P1, r1, f1, k1⟩ => by
    cases f with
    | next => exact JX.after k1 hr r1 f1
    | _ => exact ⟨P1, r1, f1, k1⟩) fun _ _ x => x)⟩
theorem JX_set (i : Nat) {x : Str} {pos' : Pos} {value : Expr} {pos : Pos} {Q : AF → PS → Prop} (h : JX c n F abs (eval value F.env) P (fun v P1 => Q .next ⟨P1.m.set i v, P1.H⟩) cls QE)
    (hi : F.ns[i]? = some x := by rfl) (hs : swapsWith value (some (.Name x pos')) pos.line F.env = pure false := by rfl) : JX c n F absF (exec (.Assign [.Name x pos'] value pos) F.env) P Q cls QE :=
  ⟨fun A s hr hp => wpAny_Assign_Name (wpAny_mono (h.go A s hr hp) (fun v s1 ⟨P1, r1, f1, k1⟩ => (J_store (n := n) (Q := fun _ P2 => Q .next P2) hi k1).on hr r1 fun _ s2 P2 r2 f2 k2 => ⟨P2, r2, f1.trans f2, k2⟩) fun _ _ x => x) hs⟩
theorem JX_Expr {e : Expr} {pos : Pos} {Q : AF → PS → Prop} (h : JX c n F abs (eval e F.env) P (fun v P1 => (∀ a, v ≠ .ref a) ∧ Q .next P1) cls QE)
    (hi : interactive F.env = false := by rfl) (hs : swapsWith e none pos.line F.env = pure false := by rfl) : JX c n F absF (exec (.Expr e pos) F.env) P Q cls QE :=
  ⟨fun A s hr hp => wpAny_Expr (wpAny_mono (h.go A s hr hp) (fun v s1 ⟨P1, r1, f1, k1⟩ => by
    cases v <;> first | exact ⟨P1, r1, f1, k1.2⟩ | exact k1.1 _ rfl) fun _ _ x => x) hi hs⟩

theorem HRep.hot {H : AH} {s : Shared} (h : HRep c H s) : HRep c.hot H s := ⟨h.know, h.base, h.hi, h.os, h.gens, h.stk⟩
theorem HRep.cool {H : AH} {s : Shared} (h : HRep c.hot H s) : HRep c H s := ⟨h.know, h.base, h.hi, h.os, h.gens, h.stk⟩
theorem Rep.hot {s : Shared} (h : Rep c F P s) : Rep c.hot F P s := ⟨h.h.hot, h.ns, h.own, h.new⟩
theorem Rep.cool {s : Shared} (h : Rep c.hot F P s) : Rep c F P s := ⟨h.h.cool, h.ns, h.own, h.new⟩

/-- the frame stands, the heap being alike -/
theorem Rep.alike {s : Shared} (h : Rep c F P s) {h' : Heap} {N : Addr → Prop} (hr : HRep c P.H { s with heap := h' }) (hk : ∀ b o, s.heap.get? b = some o → ¬ N b → ∃ o', h'.get? b = some o' ∧ Like o o')
    (hL : ¬ N F.env.locals) : Rep c F P { s with heap := h' } := by
  obtain ⟨mm, ⟨oL, es, ep, h1, h2⟩, hm⟩ := h.ns
  obtain ⟨o', z1, z2⟩ := hk _ _ h1 hL
  exact ⟨hr, ⟨mm, ⟨o', es, ep, z1, z2.data ▸ h2⟩, hm⟩, h.own, h.new⟩

/-- try .. except one class -/
theorem JS_Try {body : List Stmt} {t : Expr} {b₀ : Stmt} {bs : List Stmt} {pos' pos : Pos} {tv : Value} {Q : AF → PS → Prop} {outer : List Env}
    (h : JX c n F absF (execs body F.env) P Q cls QE)
    (hev : ∀ P1 A s, Room c.hot n A → Rep c.hot F P1 s → ∀ (Q' : Value → Shared → Prop) (E' : Value → Shared → Prop), Q' tv s → wpAny (M c) A (eval t F.env) Q' E' s)
    (hmt : ∀ H A s a, HRep c H s → (∃ ob, s.heap.get? a = some ob ∧ ob.cls = cls) → ∀ (Q' : Bool → Shared → Prop) (E' : Value → Shared → Prop), Q' true s → wpAny (M c) A (excMatches (.ref a) tv) Q' E' s)
    (hb : ∀ P1, QE P1 → JSS c.hot n F (b₀ :: bs) P1 Q)
    (hst : c.stk = F.env :: outer := by rfl) (hf : F.env.frame = some F.env.locals := by rfl) :
    JS c n F (.Try body [.ExceptHandler (some t) none (b₀ :: bs) pos'] [] [] pos) P Q := ⟨fun A s hr hp => by
  refine wpAny_Try_except (wpAny_mono (h.go A s hr hp) (fun f s1 ⟨P1, r1, f1, k1⟩ => ?_) fun e s1 ⟨a, P1, z1, r1, f1, x1, q1⟩ => ?_)
  · cases f with
    | next => exact (JSS_nil (c := c) (n := n) (F := F) k1).on hr r1 fun v s2 P2 r2 f2 k2 => ⟨P2, r2, f1.trans f2, k2⟩
    | _ => exact ⟨P1, r1, f1, k1⟩
  · subst z1
    have hL : ¬ Newer P.H s F.env.locals := by
      obtain ⟨mm, ⟨oL, es, ep, h1, h2⟩, hm⟩ := hp.ns
      exact not_newer h1 hp.own
    refine note_flight hr.2.2.2 hst hf r1.h (fun b hb => newer_all f1 r1 hb) x1 fun h' p1 k1 x2 => ?_
    have r2 := r1.alike p1 k1 hL
    have hrh : Room c.hot n (A.mark (some (.ref a))) := ⟨nofun, hr.2.1, hr.2.2.1, hr.2.2.2⟩
    refine wpAny_handleBy_cons (codeAny_handlers_test (hev P1 _ _ hrh r2.hot _ _ (hmt P1.H _ _ a p1 (by obtain ⟨_, _, _, ob, vs, y1, y2, _⟩ := x2; exact ⟨ob, y1, y2⟩) _ _ ?_))) (by intro q; cases q)
    refine codeAny_handlers_suite ?_
    refine flight_again p1 x2 fun h'' p2 k2 => ?_
    have r3 := r2.alike p2 k2 hL
    refine (hb P1 q1).on hrh r3.hot fun f s4 P4 r4 f4 k4 => ⟨P4, r4.cool, fun b o e1 e2 e3 => ?_, k4⟩
    obtain ⟨⟨o1, y1, y2⟩, y3⟩ := f1 b o e1 e2 e3
    obtain ⟨o2, y4, y5⟩ := k1 b o1 y1 (not_newer e1 e3)
    obtain ⟨o3, y6, y7⟩ := k2 b o2 y4 (not_newer e1 e3)
    obtain ⟨⟨o4, y8, y9⟩, y10⟩ := f4 b o3 y6 e2 y3
    exact ⟨⟨o4, y8, ((y2.trans y5).trans y7).trans y9⟩, y10⟩⟩
end
end Mine
end

-- part L16
section
open PySem PySem.W PySem.Calls PyProof.Rows
set_option Elab.async false
set_option linter.unusedVariables false
set_option autoImplicit false
set_option maxRecDepth 100000
namespace Mine

theorem HRep.forget {c : Cx} {H : AH} {s : Shared} (h : HRep c H s) {a : Addr} {o : AO} (e : H a = some o) {h' : Heap} (hk : Heap.ExtBut a s.heap h') : HRep c (del H a) { s with heap := h' } := by
  have hb : ∀ b o, c.h₀.get? b = some o → b ≠ a := fun b o z q => by subst q; rw [(h.base b o z).2] at e; cases e
  refine ⟨fun b ob z => ?_, fun b ob z => ⟨hk b ob (hb b ob z) (h.base b ob z).1, ?_⟩, fun b ob z => ?_, h.os, h.gens, h.stk.ext fun b ob z1 z2 _ => ⟨hk b ob (fun q => by subst q; rw [z2] at e; cases e) z1, ?_⟩⟩
  · by_cases q : b = a
    · subst q; rw [del_self] at z; cases z
    · rw [del_ne _ q] at z; obtain ⟨co, y1, y2⟩ := h.know b ob z; exact ⟨co, hk b co q y1, y2⟩
  · rw [del_ne _ (hb b ob z)]; exact (h.base b ob z).2
  · by_cases q : b = a
    · subst q; rw [del_self] at z; cases z
    · rw [del_ne _ q] at z; exact h.hi b ob z
  · by_cases q : b = a
    · subst q; exact del_self ..
    · rw [del_ne _ q]; exact z2
theorem HF.forget {H : AH} {s : Shared} {a : Addr} {o : AO} (e : H a = some o) {h' : Heap} (hk : Heap.ExtBut a s.heap h') : HF H s { s with heap := h' } (del H a) := HF.of fun b ob z1 z2 => by
  have q : b ≠ a := fun q => by subst q; rw [z2] at e; cases e
  exact ⟨hk b ob q z1, by rw [del_ne _ q]; exact z2⟩

section
variable {c : Cx} {n : Nat} {F : Fm} {P : PS} {QE : PS → Prop}

theorem callWith_nx {A : Around} {E : Value → Shared → Prop} {s : Shared} {pos : Pos} {u it : Addr} {env : Env} {Q : Value → Shared → Prop} (ho : s.heap.get? u = some (nextObj it)) (h : wpAny (M c) A (call (.ref u) []) Q E s) :
    wpAny (M c) A (callWith pos (.ref u) [] (backTo pos (starEach [] env)) []) Q E s := by
  unfold callWith
  refine wpAny_bind (wpAny_holding (evalArgs_all (c := c) rfl (spliced_nil (wpAny_bind (wpAny_standAt ?_)))))
  show wpAny _ _ (keeperOf (.ref u) >>= _) _ _ _
  refine wpAny_bind (m := keeperOf (.ref u)) ?_
  unfold keeperOf
  refine wpAny_bind (wpAny_load ho ?_)
  simp only [nextObj, show (Value.type "method-wrapper" != Value.type "method") = true by decide, show (Value.type "method-wrapper" == Value.type "builtin_function_or_method" || Value.type "method-wrapper" == Value.type "method-wrapper") = true by decide, if_true]
  refine wpAny_pure ?_
  exact wpAny_bind (wpAny_mono h (fun r s₂ hr => wpAny_bind (wpAny_holding (wpAny_point (wpAny_pure hr)))) fun _ _ x => x)

/-- the wrapper called: an item, or StopIteration -/
theorem JX_next {f : Expr} {pos : Pos} {Q : AV → PS → Prop}
    (h : JE c n F f P fun v P1 => ∃ u it l i vs, v = .ref u ∧ P1.H u = some (.next it) ∧ P1.H it = some (.liter l i) ∧ gets c P1.H l = some (.list vs) ∧ (∀ x, vs[i]? = some x → Q x ⟨P1.m, upd P1.H it (.liter l (i + 1))⟩) ∧ (vs[i]? = none → QE ⟨P1.m, del P1.H it⟩))
    (he : eval (.Call f [] [] pos) F.env = (eval f F.env >>= fun fv => callWith pos fv [] (backTo pos (starEach [] F.env)) []) := by rfl) :
    JX c n F abs (eval (.Call f [] [] pos) F.env) P Q (.type "StopIteration") QE := ⟨fun A s hr hp => by
  rw [he]
  refine wpAny_bind (h.on hr hp fun v s1 P1 r1 f1 k1 => ?_)
  obtain ⟨u, it, l, i, vs, e1, e2, e3, e4, e5, e6⟩ := k1
  obtain rfl := abs_ref e1
  obtain ⟨co, g1, rfl⟩ := r1.h.know _ _ e2
  obtain ⟨co, g2, rfl⟩ := r1.h.know _ _ e3
  obtain ⟨co, g3, g4⟩ := r1.h.at e4
  obtain ⟨items, hl, hm⟩ := islist_of g3 g4
  refine callWith_nx g1 (nx_open g1 ?_)
  cases q : vs[i]? with
  | some x =>
    rw [← hm, List.getElem?_map] at q
    obtain ⟨y, hy, rfl⟩ := Option.map_eq_some_iff.mp q
    refine nx_item (l := l) (i := i) g2 hl (x := y) (by simpa using hy) fun h' k1 k2 => ?_
    obtain ⟨r2, f2⟩ := r1.ofH (s' := { s1 with heap := h' }) (r1.h.change e3 k2 k1 (o' := .liter l (i + 1)) rfl rfl rfl) (HF.change e3 k2)
    exact ⟨_, r2, f1.trans f2, e5 _ (by rw [← hm, List.getElem?_map, hy]; rfl)⟩
  | none =>
    refine nx_stop (l := l) (i := i) (hr.1 rfl) g2 hl (by rw [← hm] at q; simpa using q) fun h' e k1 k2 k3 => ?_
    obtain ⟨r2, f2⟩ := r1.ofH (s' := { s1 with heap := h' }) (r1.h.forget e3 k1) (HF.forget e3 k1)
    refine ⟨e, _, rfl, r2, f1.trans f2, ⟨newer_all f1 r1 k2, ?_, ?_, ?_⟩, e6 q⟩
    · show del P1.H it e = none
      by_cases z : e = it
      · subst z; exact del_self ..
      · rw [del_ne _ z]
        cases y : P1.H e with
        | none => rfl
        | some o => obtain ⟨co, w, _⟩ := r1.h.know _ _ y; rw [k2] at w; cases w
    · cases y : c.h₀.get? e with
      | none => rfl
      | some o => have := (r1.h.base _ _ y).1; rw [k2] at this; cases this
    · obtain ⟨ob, vs', y1, y2, y3, y4⟩ := k3
      exact ⟨ob, vs', y1, y2, y3, .inl y4⟩⟩

/-! except StopIteration -/
theorem nin_stop (w : World) : nsIn (KW w) mainGlobals "StopIteration" = some none := by kernel_rfl
theorem boot_stop : bootBuiltins "StopIteration" = some (.type "StopIteration") := by kernel_rfl
theorem ev_stop {p : Pos} (hx : F.env.kindOf "StopIteration" = some .globalImplicit) : ∀ P1 A s, Room c.hot n A → Rep c.hot F P1 s → ∀ (Q' : Value → Shared → Prop) (E' : Value → Shared → Prop), Q' (.type "StopIteration") s → wpAny (M c) A (eval (.Name "StopIteration" p) F.env) Q' E' s :=
  fun P1 A s hr hp Q' E' h => Name_function_global F.kind hx (loadGlobal_builtin (mg := c.mg) (mb := c.mb) (show s.heap.Ns F.env.globals c.mg from F.glob ▸ c.g.keeps hp.h.keep) (mg_none_of c.X c.g (nin_stop c.w))
    (show s.heap.Ns F.env.builtins c.mb from F.bi ▸ c.b.keeps hp.h.keep) ((c.builtins "StopIteration" (by decide)).trans boot_stop) h) (by decide)
theorem stop_base : isSubtype (.type "StopIteration") (.type "BaseException") = pure true := by rw [isSubtype_type]; kernel_rfl
theorem stop_self : isSubtype (.type "StopIteration") (.type "StopIteration") = pure true := by rw [isSubtype_type]; kernel_rfl
theorem stop_nt : isSubtype (.type ((Manifest.find? "StopIteration").elim "type" fun x => x.metatype)) (.type "tuple") = pure false := by
  rw [show ((Manifest.find? "StopIteration").elim "type" fun x => x.metatype) = "type" by decide +kernel, isSubtype_type]; kernel_rfl
theorem mt_stop : ∀ (H : AH) (A : Around) (s : Shared) (a : Addr), HRep c H s → (∃ ob, s.heap.get? a = some ob ∧ ob.cls = .type "StopIteration") → ∀ (Q' : Bool → Shared → Prop) (E' : Value → Shared → Prop), Q' true s → wpAny (M c) A (excMatches (.ref a) (.type "StopIteration")) Q' E' s :=
  fun H A s a hp ⟨ob, h1, h2⟩ Q' E' h => wpAny_excMatches_type ⟨ob, h1, h2⟩ stop_base stop_nt stop_self h
end
end Mine
end

-- part L17
section
open PySem PySem.W PySem.Calls PyProof.Rows
set_option Elab.async false
set_option linter.unusedVariables false
set_option autoImplicit false
set_option maxRecDepth 100000
namespace Mine

/-! CycleError -/
theorem ce55 (w : World) : ∃ sn sub ab col dd k0 k1 k2 k3 k5 hdct, (KW w).lookup 55 = some (excClassObj (Str.ofString "CycleError") (Str.ofString "CycleError") 55 54 [.type "ValueError"] [.type "ValueError", .type "Exception", .type "BaseException", .type "object"] hdct sn sub ab col dd k0 k1 k2 k3 k5 "ValueError.__new__") :=
  ⟨_, _, _, _, _, _, _, _, _, _, _, rfl⟩
theorem nin_ce (w : World) : nsIn (KW w) mainGlobals "CycleError" = some (some (.ref 55)) := by kernel_rfl
theorem ns54 (w : World) : ∃ mN : Str → Option Value, mN "__init__" = none ∧ ∀ h : Heap, (KW w).In h → h.Ns 54 mN := by
  refine ⟨_, ?_, fun h X => ⟨_, _, _, X 54 _ rfl, rfl, ?_, fun _ => rfl⟩⟩
  · kernel_rfl
  · intro e he
    simp only [List.mem_toArray, List.mem_cons, List.not_mem_nil, or_false] at he
    rcases he with rfl | rfl | rfl | rfl | rfl <;> exact ⟨_, _, rfl⟩

section
variable {c : Cx} {n : Nat} {F : Fm} {P : PS} {QE : PS → Prop}
theorem JX_cycle {np cpos pos : Pos} {e₀ : Expr} {es : List Expr} {Q : AF → PS → Prop} (h : JL c n F cpos (e₀ :: es) P fun vs P1 => vs.length ≤ 1000 ∧ QE P1)
    (hx : F.env.kindOf "CycleError" = some .globalImplicit := by rfl) (hs : (e₀ :: es).any isStar = false := by rfl) :
    JX c n F absF (exec (.Raise (some (.Call (.Name "CycleError" np) (e₀ :: es) [] cpos)) none pos) F.env) P Q (.ref 55) QE := ⟨fun A s hr hp => by
  obtain ⟨sn, sub, ab, col, dd, k0, k1, k2, k3, k5, hdct, ho⟩ := ce55 c.w
  obtain ⟨mN, hN⟩ := ns54 c.w
  refine wpAny_Raise_call_subT (C := 55) (N := 54) (nm := Str.ofString "CycleError") (q := Str.ofString "CycleError") (bs := [.type "ValueError"]) (bm := [.type "ValueError", .type "Exception", .type "BaseException", .type "object"]) (hdct := hdct) (sn := sn) (sub := sub) (ab := ab) (col := col) (dd := dd) (k0 := k0) (k1 := k1) (k2 := k2) (k3 := k3) (k5 := k5)
    PySem.F.excBase_ValueError (mN := mN) (by decide +kernel) (hr.1 rfl) (any_back hs) hN.1 ?_
  refine Name_function_global F.kind hx (loadGlobal_global (mg := c.mg) (show s.heap.Ns F.env.globals c.mg from F.glob ▸ c.g.keeps hp.h.keep) (mg_of c.X c.g (nin_ce c.w)) ⟨rfl, ?_⟩) (by decide)
  refine evalArgs_all (c := c) hs (h.on hr hp fun vs s1 P1 r1 f1 k1 => ?_)
  have hk := r1.h.keep
  refine ⟨rfl, by have := k1.1; rw [List.length_map] at this; show vs.length ≤ sizeLine; rw [sizeLine_eq]; lia, r1.h.K _ _ ho, hN.2 _ r1.h.K, .base, fun h' e hm => ?_⟩
  · have ext := hm.keeps
    obtain ⟨r2, f2⟩ := r1.ofH (s' := { s1 with heap := h' }) (r1.h.ext ext rfl rfl) (HF.ext ext)
    refine ⟨e, P1, rfl, r2, f1.trans f2, ⟨newer_all f1 r1 hm.new, ?_, ?_, ?_⟩, k1.2⟩
    · cases y : P1.H e with
      | none => rfl
      | some o => obtain ⟨co, w, _⟩ := r1.h.know _ _ y; rw [hm.new] at w; cases w
    · cases y : c.h₀.get? e with
      | none => rfl
      | some o => have := (r1.h.base _ _ y).1; rw [hm.new] at this; cases this
    · obtain ⟨t, z1, _⟩ := hm.there
      exact ⟨_, _, z1, rfl, rfl, .inl rfl⟩⟩

theorem ev_cycle {p : Pos} (hx : F.env.kindOf "CycleError" = some .globalImplicit) : ∀ P1 A s, Room c.hot n A → Rep c.hot F P1 s → ∀ (Q' : Value → Shared → Prop) (E' : Value → Shared → Prop), Q' (.ref 55) s → wpAny (M c) A (eval (.Name "CycleError" p) F.env) Q' E' s :=
  fun P1 A s hr hp Q' E' h => Name_function_global F.kind hx (loadGlobal_global (mg := c.mg) (show s.heap.Ns F.env.globals c.mg from F.glob ▸ c.g.keeps hp.h.keep) (mg_of c.X c.g (nin_ce c.w)) h) (by decide)
theorem mt_cycle : ∀ (H : AH) (A : Around) (s : Shared) (a : Addr), HRep c H s → (∃ ob, s.heap.get? a = some ob ∧ ob.cls = .ref 55) → ∀ (Q' : Bool → Shared → Prop) (E' : Value → Shared → Prop), Q' true s → wpAny (M c) A (excMatches (.ref a) (.ref 55)) Q' E' s :=
  fun H A s a hp ⟨ob, h1, h2⟩ Q' E' h => by
    obtain ⟨sn, sub, ab, col, dd, k0, k1, k2, k3, k5, hdct, ho⟩ := ce55 c.w
    obtain ⟨hh, g, d, t, os⟩ := s
    exact wpAny_excMatches_sub_self (C := 55) (hp.K _ _ ho) h1 h2 (by decide +kernel) h
theorem JE_fstr {x : Str} {k : Nat} {pos pos' : Pos} {Q : AV → PS → Prop} (h : Q .other P) : JE c n F (.JoinedStr [.Constant (.str x) k pos] pos') P Q :=
  ⟨fun A s hr hp => JoinedStr_one (wpAny_Constant_str ⟨P, hp.toks _, FF.refl _ _ _, h⟩)⟩

theorem JX_If {cls : Value} {test : Expr} {body orelse : List Stmt} {pos : Pos} {Q : AF → PS → Prop}
    (h : JB c n F test P fun b P1 => (b = true → JX c n F absF (execs body F.env) P1 Q cls QE) ∧ (b = false → JX c n F absF (execs orelse F.env) P1 Q cls QE)) : JX c n F absF (exec (.If test body orelse pos) F.env) P Q cls QE :=
  ⟨fun A s hr hp => wpAny_If (h.on hr hp fun b s1 P1 r1 f1 k1 => by
    cases b
    · exact (k1.2 rfl).after hr r1 f1
    · exact (k1.1 rfl).after hr r1 f1)⟩

/-- a method that may raise -/
theorem JX_methFn {cls : Value} {o : Expr} {name : Str} {apos pos : Pos} {es : List Expr} {fa : Addr} {fo : Obj} {fd : FuncData} {Q : AV → PS → Prop} (hf : findIn (KW c.w) (.ref 137) name = some (some (.ref fa))) (hT : typeIn (KW c.w) (.ref fa) = some (.type "function"))
    (ho : (KW c.w).lookup fa = some fo) (hd : fo.data = .func fd)
    (h : JE c n F o P fun ov P1 => ∃ a d fs, ov = .ref a ∧ P1.H a = some (.inst 137 d) ∧ P1.H d = some (.attrs fs) ∧ look fs name = none ∧ JL c n F pos es P1 fun vs P2 => TCX c n (.ref fa) (.ref a :: vs) P2.H (fun v H' => Q v ⟨P2.m, H'⟩) cls fun H' => QE ⟨P2.m, H'⟩)
    (hbase : attributeBase o name F.env (eval o F.env) = eval o F.env := by rfl)
    (hfew : ((backTo pos (starEach es F.env)).all (fun x => !x.1) && (backToKw pos (keywordEach [] F.env)).all (fun x => x.1.isSome)
      && decide (es.length + ([] : List Keyword).length + (if ([] : List Keyword).isEmpty then 0 else 1) < 30)) = true := by rfl)
    (hline : (apos.endLine == pos.line) = true := by rfl) (hs : es.any isStar = false := by rfl) : JX c n F abs (eval (.Call (.Attribute o name apos) es [] pos) F.env) P Q cls QE := ⟨fun A s hr hp => by
  rw [arm_eval_Call, hbase]
  refine wpAny_bind (h.on hr hp fun ov s1 P1 r1 f1 k1 => ?_)
  obtain ⟨a, d, fs, e, h1, h2, h3, k1⟩ := k1
  obtain rfl := abs_ref e
  obtain ⟨co, g1, rfl⟩ := r1.h.know _ _ h1
  obtain ⟨cd, d1, ents, k, hda, hk, hu, hl⟩ := r1.h.know _ _ h2
  have I : PySem.W.InstAt s1.heap a ⟨.ref 137, some d, .plain, #[]⟩ 137 (some cd) := ⟨g1, rfl, rfl, d1⟩
  have hn : nsFind ents name = none := by have := hl name; rw [h3] at this; exact Option.map_eq_none_iff.mp this
  refine wpAny_bind (wpAny_standAt ?_)
  have hform : methodCallForm (es.length + ([] : List Keyword).length) (backTo pos (starEach es F.env)) (backToKw pos (keywordEach [] F.env)) = true := hfew
  have hpos : methodCallPos true o F.env apos pos = pure pos := by unfold methodCallPos; simp [hline]
  unfold methodCall
  rw [hform]
  refine wpAny_bind (wpAny_holding (method_fn r1.h.K I (pg137 _) (pk137 _) hf hT (by show (lookIn name cd).map _ = _; rw [lookIn_of hda hk, hn]; rfl) ?_))
  refine wpAny_bind (wpAny_of_eq hpos ?_)
  refine callWith_function (o := fo) (fd := fd) (evalArgs_all (c := c) hs (k1.on hr r1 fun vs s2 P2 r2 f2 k2 => ?_))
  refine ⟨⟨r2.h.K _ _ ho, hd⟩, wpAny_call ?_⟩
  refine codeAny_mono (k2.co (.ref a :: vs) (by rw [List.map_cons]; rfl) A s2 hr r2.h) fun r s3 z => ?_
  have ff := f1.trans f2
  rcases r with e | (v | _ | _ | _)
  · obtain ⟨x, H', z1, z2, z3, z4, z5⟩ := z
    obtain ⟨r3, f3⟩ := r2.ofH z2 z3
    refine ⟨x, ⟨P2.m, H'⟩, z1, r3, ff.trans f3, z4.mono fun b hb => ?_, z5⟩
    exact newer_of ff r2 hb
  all_goals first | exact z.elim | skip
  obtain ⟨H', z1, z2, z3⟩ := z
  obtain ⟨r3, f3⟩ := r2.ofH z1 z2
  exact ⟨⟨P2.m, H'⟩, r3, ff.trans f3, z3⟩⟩

/-- a def that may raise -/
theorem TC_defX (ps ls : List Str) {cls : Value} {fa : Addr} {o : Obj} {fd : FuncData} {body : List Stmt} {args : List AV} {H : AH} {Q : AV → AH → Prop} {QH : AH → Prop}
    (ho : (KW c.w).lookup fa = some o) (hd : o.data = .func fd) (hb : fd.body = .stmts body) (hcd : codeIn (KW c.w) fd.code fd.qualname = true)
    (hg : fd.globals = mainGlobals) (hbi : fd.builtins = builtinsNs)
    (hbind : ∀ vs : List Value, vs.length = args.length → bindArgs fd ⟨vs, []⟩ = pure (ps.zip vs))
    (hcell : ∀ x ∈ fd.scope.names, x.2 ≠ .cell) (hloc : ∀ x ∈ ps ++ ls, fd.scope.names.lookup x = some .local ∧ (x == ("__debug__" : Str)) = false) (hnd : (ps ++ ls).Nodup)
    (hco : fd.scope.isCoroutine = false) (hgen : fd.scope.isGenerator = false) (hk : fd.scope.kind = .function) (hlen : ps.length = args.length)
    (h : ∀ L, JX (c.push (callEnv fd L fa)) n (fmOf fd L fa (ps ++ ls) hnd hloc hk hg hbi) absF (execs body (callEnv fd L fa)) ⟨args ++ List.replicate ls.length .other, H⟩ (fun f P' => Q (retOf f) P'.H) cls fun P' => QH P'.H) : TCX c (n + 1) (.ref fa) args H Q cls QH := by
  refine ⟨fun vs hvs A s hr hp => ?_⟩
  subst hvs
  refine (codeAny_call_def (fd := fd) (body := body) (binds := ps.zip vs) hr.depth (hp.K _ _ ho) hd (c.nolimit.keeps hp.keep)
    (codeRec_of hp.K hcd) hb (BindsTo.of_eq (hbind vs (by simp))) hcell (fun x hx => (hloc x.1 (List.mem_append_left _ (List.of_mem_zip hx).1)).1) (fun h₁ hns hk₁ => ?_) hco hgen hk)
  have r1 : Rep (c.push (callEnv fd s.heap.objs.size fa)) (fmOf fd s.heap.objs.size fa (ps ++ ls) hnd hloc hk hg hbi) ⟨vs.map abs ++ List.replicate ls.length .other, H⟩ { s with heap := h₁, toks := s.toks + (ps.zip vs).length } := by
    refine ⟨(hp.ext (s' := { s with heap := h₁, toks := s.toks + (ps.zip vs).length }) hk₁ rfl rfl).push hk rfl hns hp.base_fresh hp.fresh, ⟨_, hns, fun i x v e1 e2 e3 => ?_⟩, hp.fresh, hp.base_fresh⟩
    rw [List.length_map] at hlen
    by_cases hi : i < vs.length
    · rw [List.getElem?_append_left (by simpa using hi), List.getElem?_map] at e2
      obtain ⟨u, hu, rfl⟩ := Option.map_eq_some_iff.mp e2
      rw [List.getElem?_append_left (by lia)] at e1
      rw [lookup_rev_zip (List.nodup_append.mp hnd).1 e1 hu]; rfl
    · rw [List.getElem?_append_right (by simpa using hi)] at e2
      exact absurd (List.mem_replicate.mp (List.mem_of_getElem? e2)).2 e3
  have hr' := hr.deeper (e := callEnv fd s.heap.objs.size fa)
  refine wpAny_mono ((h s.heap.objs.size).go _ _ hr' r1) (fun f s' ⟨P', r', f', q'⟩ => ?_) fun e s' ⟨a, P', z1, r', f', x', q'⟩ => ?_
  · refine ⟨P'.H, r'.h.pop, fun b ob e1 e2 => f' b ob (hk₁ _ _ e1) (Nat.ne_of_lt (Heap.lt_size e1)) e2, ?_⟩
    cases f <;> exact q'
  · subst z1
    unfold leaving
    refine wpAny_bind (note_flight (c := c.push (callEnv fd s.heap.objs.size fa)) (N := Newer H s) (outer := c.stk) (L := s.heap.objs.size) hr'.2.2.2 rfl rfl r'.h (fun b hb => ?_) (x'.mono fun b hb => ?_) fun h' p1 k1 x2 => ?_)
    · intro o e q
      obtain ⟨⟨o', y1, _⟩, _⟩ := f' b o (hk₁ _ _ e) (Nat.ne_of_lt (Heap.lt_size e)) q
      rw [hb] at y1; cases y1
    · intro o e q
      exact hb o (hk₁ _ _ e) q
    · refine ⟨a, P'.H, rfl, p1.pop, fun b ob e1 e2 => ?_, x2.exc, q'⟩
      obtain ⟨⟨o1, y1, y2⟩, y3⟩ := f' b ob (hk₁ _ _ e1) (Nat.ne_of_lt (Heap.lt_size e1)) e2
      obtain ⟨o2, y4, y5⟩ := k1 b o1 y1 (not_newer e1 e2)
      exact ⟨⟨o2, y4, y2.trans y5⟩, y3⟩
end
end Mine
end

-- part L18
section
open PySem PySem.W PySem.Calls PyProof.Rows
set_option Elab.async false
set_option linter.unusedVariables false
set_option autoImplicit false
set_option maxRecDepth 100000
namespace Mine

/-! ### comprehensions -/
section
variable {c : Cx} {n : Nat} {F : Fm} {P : PS}

/-- the tests -/
noncomputable abbrev CB (c : Cx) (n : Nat) (F : Fm) (ifs : List Expr) (P : PS) (Q : Bool → PS → Prop) : Prop := J c n F (id : Bool → Bool)
  (forIn ifs true fun e r => if r = true then do let ok ← isTrue e F.env (eval e F.env); pure (ForInStep.yield ok) else pure (ForInStep.yield r)) P Q
theorem CB_nil {Q : Bool → PS → Prop} (h : Q true P) : CB c n F [] P Q := ⟨fun A s hr hp => by
  rw [List.forIn_nil]
  exact wpAny_pure ⟨P, hp, FF.refl _ _ _, h⟩⟩
theorem CB_one {e : Expr} {Q : Bool → PS → Prop} (h : JB c n F e P Q) : CB c n F [e] P Q := ⟨fun A s hr hp => by
  rw [List.forIn_cons]
  refine wpAny_bind ?_
  rw [if_pos rfl]
  refine wpAny_bind (h.on hr hp fun b s1 P1 r1 f1 k1 => wpAny_pure ?_)
  show wpAny _ _ (forIn [] b _) _ _ _
  rw [List.forIn_nil]
  exact wpAny_pure ⟨P1, r1, f1, k1⟩⟩

theorem MLe.other (k : Nat) (m : List AV) : MLe (List.replicate k .other) m := fun i v h n => absurd (List.mem_replicate.mp (List.mem_of_getElem? h)).2 n

theorem comp_core {Fc : Fm} {it D : Addr} {vs : List AV} {K : AH → Prop} {C : Nat → Obj → Prop} (T : Itr c n it vs K C) {elt tgt iter : Expr} {ifs : List Expr} {scope : Scope} {pos : Pos} (I : Nat → AH → List AV → Prop)
    (hK : ∀ k H acc, k ≤ vs.length → I k H acc → K (upd H D (.list acc)) ∧ acc.length ≤ 10000)
    (step : ∀ k v H acc, vs[k]? = some v → I k H acc → ∀ u, abs u = v → J c n Fc id (assign tgt Fc.env u) ⟨List.replicate Fc.ns.length .other, upd H D (.list acc)⟩ fun _ P1 => CB c n Fc ifs P1 fun b P2 =>
      (b = false → ∃ H', HLe (upd H' D (.list acc)) P2.H ∧ I (k + 1) H' acc) ∧ (b = true → JE c n Fc elt P2 fun y P3 => ∃ H', HLe (upd H' D (.list acc)) P3.H ∧ I (k + 1) H' (acc ++ [y])))
    {A : Around} {s s1 : Shared} {o : Obj} {H0 H1 : AH} {m0 : List AV} (hr : Room c n A) (hp : Rep c Fc ⟨m0, upd H0 D (.list [])⟩ s) (ho : s.heap.get? it = some o) (hC : C 0 o) (hH : H0 it = none) (hDi : it ≠ D) (hL : it ≠ Fc.env.locals) (hb : c.h₀.get? it = none)
    (hf : HF H1 s1 s (upd H0 D (.list []))) (hold : ∀ b o, s1.heap.get? b = some o → b ≠ it ∧ b ≠ Fc.env.locals) (h : I 0 H0 [])
    {R : Result → Shared → Prop} (hR : ∀ s' H acc m, Rep c Fc ⟨m, upd H D (.list acc)⟩ s' → HF H1 s1 s' (upd H D (.list acc)) → I vs.length H acc → R (.ok .next) s')
    (ht : ∀ v, letOwnedTupleGo tgt (.ref it) v = pure () := by intro _; rfl) :
    codeAny (M c) A (.compLoop (.ListComp elt [⟨tgt, iter, ifs, 0⟩] scope pos) 0 (.ref it) (.ref D) Fc.env) R s := by
  have nd1 : ∀ k o, C k o → ∀ {s : Shared}, s.heap.get? it = some o → ∀ b ob es n, s.heap.get? b = some ob → ob.data = .dict es n → b ≠ it := fun k o hc s g b ob es n e1 e2 q => by
    subst q
    rw [g] at e1; cases e1
    obtain ⟨vs, hv⟩ := T.nd k _ hc
    rw [hv] at e2; cases e2
  refine codeAny_compLoop_tests (fun q s' => ∃ k H acc m o', q = vs.length - k ∧ k ≤ vs.length ∧ Rep c Fc ⟨m, upd H D (.list acc)⟩ s' ∧ HF H1 s1 s' (upd H D (.list acc)) ∧ s'.heap.get? it = some o' ∧ C k o' ∧ upd H D (.list acc) it = none ∧ I k H acc)
    (fun q s2 ⟨k, H, acc, m, o2, hq, hk, r2, f2, g2, c2, n2, i2⟩ => ?_) vs.length ⟨0, H0, [], m0, o, rfl, Nat.zero_le _, hp, hf, ho, hC, by rw [upd_ne _ _ hDi]; exact hH, h⟩ ht
  obtain ⟨hK2, hz⟩ := hK k H acc hk i2
  cases hv : vs[k]? with
  | none =>
    have hkl : k = vs.length := Nat.le_antisymm hk (List.getElem?_eq_none_iff.mp hv)
    subst hkl
    refine T.fin hr r2.h hK2 g2 c2 hv fun h' hs => ?_
    have r3 := r2.other (t := s2.toks) hs n2 hL hb (nd1 _ o2 c2 g2)
    refine hR _ H acc m r3 (fun b ob e1 e2 => ?_) i2
    obtain ⟨⟨o3, y1, y2⟩, y3⟩ := f2 b ob e1 e2
    exact ⟨⟨o3, hs b o3 (hold b ob e1).1 y1, y2⟩, y3⟩
  | some v =>
    refine T.item hr r2.h hK2 g2 c2 hv fun u h' o' t hu hs ho' hC' => ?_
    have r3 := (r2.other (t := t) hs.extBut n2 hL hb (nd1 k o2 c2 g2)).le (P := ⟨List.replicate Fc.ns.length .other, upd H D (.list acc)⟩) (MLe.other _ _) (HLe.refl _)
    obtain ⟨vs', hvs'⟩ := T.nd _ _ hC'
    have nd' : ∀ es n, o'.data ≠ .dict es n := fun es n q => by rw [hvs'] at q; cases q
    have hlt : k < vs.length := (List.getElem?_eq_some_iff.mp hv).1
    have f3 : HF H1 s1 { s2 with heap := h', toks := t } (upd H D (.list acc)) := fun b ob e1 e2 => by
      obtain ⟨⟨o3, y1, y2⟩, y3⟩ := f2 b ob e1 e2
      exact ⟨⟨o3, (hs.2 b (hold b ob e1).1).trans y1, y2⟩, y3⟩
    refine (step k v H acc hv i2 u hu).on hr r3 fun _ s4 P4 r4 f4 k4 => ?_
    refine J.on k4 hr r4 fun ok s5 P5 r5 f5 k5 => ?_
    have f45 := f4.trans f5
    have fin : ∀ {s6 : Shared} {P6 : PS} {H' : AH} {acc' : List AV}, Rep c Fc P6 s6 → FF Fc ⟨List.replicate Fc.ns.length .other, upd H D (.list acc)⟩ { s2 with heap := h', toks := t } s6 P6 → HLe (upd H' D (.list acc')) P6.H → I (k + 1) H' acc' →
        ∃ m', m' < q ∧ ∃ k H acc m o', m' = vs.length - k ∧ k ≤ vs.length ∧ Rep c Fc ⟨m, upd H D (.list acc)⟩ s6 ∧ HF H1 s1 s6 (upd H D (.list acc)) ∧ s6.heap.get? it = some o' ∧ C k o' ∧ upd H D (.list acc) it = none ∧ I k H acc := by
      intro s6 P6 H' acc' r6 f6 l6 i6
      obtain ⟨⟨o6, z1, z2⟩, z3⟩ := f6 it o' ho' hL n2
      obtain ⟨_, _, z4⟩ := z2
      rw [z4 nd'] at z1
      refine ⟨vs.length - (k + 1), by lia, k + 1, H', acc', P6.m, o', rfl, hlt, r6.le (MLe.refl _) l6, fun b ob e1 e2 => ?_, z1, hC', l6.none z3, i6⟩
      obtain ⟨⟨o3, y1, y2⟩, y3⟩ := f3 b ob e1 e2
      obtain ⟨⟨o7, x1, x2⟩, x3⟩ := f6 b o3 y1 (hold b ob e1).2 y3
      exact ⟨⟨o7, x1, y2.trans x2⟩, l6.none x3⟩
    cases ok with
    | false =>
      obtain ⟨H', l1, i1⟩ := k5.1 rfl
      exact fin r5 f45 l1 i1
    | true =>
      refine J.on (k5.2 rfl) hr r5 fun y s6 P6 r6 f6 k6 => ?_
      obtain ⟨H', l1, i1⟩ := k6
      have hD : P6.H D = some (.list acc) := l1 _ _ (upd_self ..)
      refine (J_append (c := c) (n := n) (F := Fc) (P := P6) (v := abs y) (Q := fun v P7 => P7 = ⟨P6.m, upd P6.H D (.list (acc ++ [abs y]))⟩) hD hz rfl [y] rfl).on hr r6 fun _ s7 P7 r7 f7 k7 => ?_
      subst k7
      refine fin r7 ((f45.trans f6).trans f7) ?_ i1
      intro b ob e
      show upd P6.H D (.list (acc ++ [abs y])) b = some ob
      by_cases z : b = D
      · subst z; rw [upd_self] at e ⊢; exact e
      · rw [upd_ne _ _ z] at e ⊢; exact l1 b ob (by rw [upd_ne _ _ z]; exact e)

theorem HRep.dropFrame {H : AH} {s : Shared} (h : HRep c H s) {C : Addr} {h' : Heap} (hs : Heap.SameBut C s.heap h') (hC : H C = none) (hb : c.h₀.get? C = none) (hst : ∀ e ∈ c.stk, e.frame ≠ some C) : HRep c H { s with heap := h' } := by
  refine ⟨fun b o e => ?_, fun b o e => ⟨?_, (h.base b o e).2⟩, h.hi, h.os, h.gens, fun e he => ?_⟩
  · obtain ⟨co, z1, z2⟩ := h.know b o e
    exact ⟨co, (hs.2 b fun q => by subst q; rw [hC] at e; cases e).trans z1, z2⟩
  · exact (hs.2 b fun q => by subst q; rw [hb] at e; cases e).trans (h.base b o e).1
  · obtain ⟨h1, L, o, es, n, h2, h3, h4, h5, h6⟩ := h.stk e he
    exact ⟨h1, L, o, es, n, h2, h3, h4, (hs.2 L fun q => hst e he (q ▸ h2)).trans h5, h6⟩

/-- the comprehension's frame -/
noncomputable abbrev fmC (F : Fm) (scope : Scope) (cl : List (Str × Addr)) (C : Addr) (ns : List Str) (nodup : ns.Nodup) (loc : ∀ x ∈ ns, (relabel scope F.env).names.lookup x = some .local ∧ (x == ("__debug__" : Str)) = false) (hk : scope.kind = .function) : Fm :=
  ⟨compEnvC scope cl C F.env, ns, nodup, loc, hk, F.glob, F.bi⟩

/-- an iterator gives itself -/
noncomputable def Selfs (c : Cx) (it : Addr) (C : Nat → Obj → Prop) : Prop := ∀ {A : Around} {s : Shared} {k : Nat} {o : Obj} {Q : Value → Shared → Prop} {E : Value → Shared → Prop}, s.heap.get? it = some o → C k o → Q (.ref it) s → wpAny (M c) A (pyIter (.ref it)) Q E s
/-- an iterable -/
noncomputable def Mk (c : Cx) (n : Nat) (vs : List AV) (K : AH → Prop) (C : Nat → Obj → Prop) (o : AV) (H : AH) : Prop := ∀ vo, abs vo = o → ∀ (A : Around) (s : Shared), Room c n A → HRep c H s → ∀ (Q' : Value → Shared → Prop) (E : Value → Shared → Prop),
  (∀ it s' ob, (∀ b o, s.heap.get? b = some o → s'.heap.get? b = some o) → s'.os = s.os → s'.gens = s.gens → s.heap.objs.size ≤ it → s'.heap.get? it = some ob → C 0 ob → Itr c n it vs K C → Selfs c it C → Q' (.ref it) s') → wpAny (M c) A (pyIter vo) Q' E s

/-- what a comprehension does -/
theorem comp_run {elt tgt iter : Expr} {ifs : List Expr} {scope : Scope} {cl : List (Str × Addr)} {pos : Pos} {ns : List Str} {R : Value → Addr → Result → Shared → Prop} {E : Value → Shared → Prop}
    (nodup : ns.Nodup) (loc : ∀ x ∈ ns, (relabel scope F.env).names.lookup x = some .local ∧ (x == ("__debug__" : Str)) = false) (hkind : scope.kind = .function)
    (hcell : ∀ y ∈ scope.names, y.2 ≠ .cell)
    {o : AV} {vs : List AV} {K : AH → Prop} {C : Nat → Obj → Prop} {H1 H0 : AH} (mk : Mk c n vs K C o H1) (I : Addr → Nat → AH → List AV → Prop) (hle : HLe H0 H1)
    (h0 : ∀ D, gets c H1 D = none → I D 0 H0 []) (hK : ∀ D k H acc, gets c H1 D = none → k ≤ vs.length → I D k H acc → K (upd H D (.list acc)) ∧ acc.length ≤ 10000)
    (step : ∀ D Cl k v H acc, gets c H1 D = none → vs[k]? = some v → I D k H acc → ∀ u, abs u = v → J c n (fmC F scope cl Cl ns nodup loc hkind) id (assign tgt (compEnvC scope cl Cl F.env) u) ⟨List.replicate ns.length .other, upd H D (.list acc)⟩ fun _ P2 => CB c n (fmC F scope cl Cl ns nodup loc hkind) ifs P2 fun b P3 =>
        (b = false → ∃ H', HLe (upd H' D (.list acc)) P3.H ∧ I D (k + 1) H' acc) ∧ (b = true → JE c n (fmC F scope cl Cl ns nodup loc hkind) elt P3 fun y P4 => ∃ H', HLe (upd H' D (.list acc)) P4.H ∧ I D (k + 1) H' (acc ++ [y])))
    {A : Around} {s1 : Shared} (hr : Room c n A) (hp : HRep c H1 s1) {vo : Value} (hvo : abs vo = o)
    (hR : ∀ D Cl H acc s', gets c H1 D = none → I D vs.length H acc → HRep c (upd H D (.list acc)) s' → HF H1 s1 s' (upd H D (.list acc)) → (∃ m, s'.heap.Ns Cl m) → upd H D (.list acc) Cl = none → c.h₀.get? Cl = none → s1.heap.get? Cl = none → R (.ref D) Cl (.ok .next) s')
    (ht : ∀ it v, letOwnedTupleGo tgt (.ref it) v = pure () := by intro _ _; rfl) :
    wpAny (M c) A (pyIter vo) (fun itv s2 => wpAny (M c) A (newList []) (fun acc s3 => wpAny (M c) A (newFunctionEnv scope F.env.globals cl [] F.env.qual none .none (some F.env)) (fun cenv s4 =>
      codeAny (M c) A (.compStart (.ListComp elt [⟨tgt, iter, ifs, 0⟩] scope pos) 0 itv acc { cenv with scope := relabel scope F.env }) (R acc cenv.locals) s4) E s3) E s2) E s1 := by
  refine mk vo hvo A s1 hr hp _ _ fun it s2 ob ext e1 e2 hit hob hC T S => ?_
  have hp2 : HRep c H1 s2 := hp.ext ext e1 e2
  have hitn : s1.heap.get? it = none := by
    cases q : s1.heap.get? it with
    | none => rfl
    | some x => exact absurd (Heap.lt_size q) (Nat.not_lt.mpr hit)
  have hH : H1 it = none := by
    cases q : H1 it with
    | none => rfl
    | some x => obtain ⟨co, z, _⟩ := hp.know _ _ q; rw [hitn] at z; cases z
  have hb : c.h₀.get? it = none := by
    cases q : c.h₀.get? it with
    | none => rfl
    | some x => rw [(hp.base _ _ q).1] at hitn; cases hitn
  refine wpAny_newObj_type (wpAny_newFunctionEnv hcell (by intro y hy; simp at hy) (fun h₁ hns₁ hsb₁ => ?_) hkind)
  dsimp only at hns₁ hsb₁ ⊢
  generalize hH2 : s2.heap.push { cls := .type "list", dict := none, data := .seq ([] : List Value).toArray } = H2 at hns₁ hsb₁ ⊢
  have hD := hp2.free
  have hp0 := hp2.le hle
  have hD1 : gets c H1 s2.heap.objs.size = none := hD
  have hp3 := hp0.alloc (o := .list []) (co := { cls := .type "list", dict := none, data := .seq ([] : List Value).toArray }) (s' := { s2 with heap := H2 }) ⟨_, _, rfl, rfl⟩ hH2.symm rfl rfl
  have hf3 : HF H0 s2 { s2 with heap := H2 } (upd H0 s2.heap.objs.size (.list [])) := HF.alloc hH2.symm
  have hk4 : ∀ b o, H2.get? b = some o → h₁.get? b = some o := fun b o e => hsb₁.extBut b o (Nat.ne_of_lt (Heap.lt_size e)) (Heap.get?_push_of_some _ e)
  have hp4 : HRep c (upd H0 s2.heap.objs.size (.list [])) { s2 with heap := h₁, toks := s2.toks + ([] : List (Str × Value)).length } := hp3.ext hk4 rfl rfl
  have hC2 : H2.objs.size = s2.heap.objs.size + 1 := by rw [← hH2, Heap.size_push]
  have r4 : Rep c (fmC F scope cl H2.objs.size ns nodup loc hkind) ⟨List.replicate ns.length .other, upd H0 s2.heap.objs.size (.list [])⟩ { s2 with heap := h₁, toks := s2.toks + ([] : List (Str × Value)).length } :=
    ⟨hp4, ⟨_, hns₁, fun i x v z1 z2 z3 => absurd (List.mem_replicate.mp (List.mem_of_getElem? z2)).2 z3⟩, hp3.fresh, hp3.base_fresh⟩
  have hit2 : s2.heap.get? it = some ob := hob
  have hlt := Heap.lt_size hit2
  have hit4 : h₁.get? it = some ob := hk4 _ _ (hH2 ▸ Heap.get?_push_of_some _ hit2)
  have hf4 : HF H1 s1 { s2 with heap := h₁, toks := s2.toks + ([] : List (Str × Value)).length } (upd H0 s2.heap.objs.size (.list [])) := HF.of fun b o z1 z2 =>
    ⟨hk4 _ _ (hH2 ▸ Heap.get?_push_of_some _ (ext b o z1)), by rw [upd_ne _ _ (Nat.ne_of_lt (Heap.lt_size (ext b o z1)))]; exact hle.none z2⟩
  have loop : codeAny (M c) A (.compLoop (.ListComp elt [⟨tgt, iter, ifs, 0⟩] scope pos) 0 (.ref it) (.ref s2.heap.objs.size) (fmC F scope cl H2.objs.size ns nodup loc hkind).env) (R (.ref s2.heap.objs.size) H2.objs.size) { s2 with heap := h₁, toks := s2.toks + ([] : List (Str × Value)).length } := by
    refine comp_core T (I s2.heap.objs.size) (hK _ · · · hD1 · ·) (step _ H2.objs.size · · · · hD1 · ·) hr r4 hit4 hC (hle.none hH) (Nat.ne_of_lt hlt) (by show it ≠ H2.objs.size; rw [hC2]; exact Nat.ne_of_lt (Nat.lt_succ_of_lt hlt)) hb hf4
      (fun b o z => ⟨(fun q => by subst q; rw [hitn] at z; cases z), by show b ≠ H2.objs.size; rw [hC2]; exact Nat.ne_of_lt (Nat.lt_succ_of_lt (Heap.lt_size (ext b o z)))⟩) (h0 _ hD1) (fun s' H acc m r' f' i' => ?_) (ht it)
    obtain ⟨mm, z1, _⟩ := r'.ns
    refine hR _ _ H acc s' hD1 i' r'.h f' ⟨mm, z1⟩ r'.own r'.new ?_
    cases q : s1.heap.get? H2.objs.size with
    | none => rfl
    | some x => exact absurd (Heap.lt_size (ext _ _ q)) (by rw [hC2]; exact Nat.not_lt.mpr (Nat.le_succ _))
  exact codeAny_compStart_list loop (S hit4 hC loop)

/-- a list comprehension -/
theorem JE_comp {elt tgt iter : Expr} {ifs : List Expr} {scope : Scope} {cl : List (Str × Addr)} {pos : Pos} (ns : List Str) {Q : AV → PS → Prop}
    (hclos : closureFor scope F.env = pure cl) (nodup : ns.Nodup) (loc : ∀ x ∈ ns, (relabel scope F.env).names.lookup x = some .local ∧ (x == ("__debug__" : Str)) = false) (hkind : scope.kind = .function)
    (hcell : ∀ y ∈ scope.names, y.2 ≠ .cell) (hnames : ∀ x ∈ scope.names, x.2 = .local → scope.names.lookup x.1 = some .local)
    (h : JE c n F iter P fun o P1 => ∃ (vs : List AV) (K : AH → Prop) (C : Nat → Obj → Prop) (I : Addr → Nat → AH → List AV → Prop) (H0 : AH), Mk c n vs K C o P1.H ∧ HLe H0 P1.H ∧
      (∀ D, gets c P1.H D = none → I D 0 H0 []) ∧ (∀ D k H acc, gets c P1.H D = none → k ≤ vs.length → I D k H acc → K (upd H D (.list acc)) ∧ acc.length ≤ 10000) ∧
      (∀ D Cl k v H acc, gets c P1.H D = none → vs[k]? = some v → I D k H acc → ∀ u, abs u = v → J c n (fmC F scope cl Cl ns nodup loc hkind) id (assign tgt (compEnvC scope cl Cl F.env) u) ⟨List.replicate ns.length .other, upd H D (.list acc)⟩ fun _ P2 => CB c n (fmC F scope cl Cl ns nodup loc hkind) ifs P2 fun b P3 =>
        (b = false → ∃ H', HLe (upd H' D (.list acc)) P3.H ∧ I D (k + 1) H' acc) ∧ (b = true → JE c n (fmC F scope cl Cl ns nodup loc hkind) elt P3 fun y P4 => ∃ H', HLe (upd H' D (.list acc)) P4.H ∧ I D (k + 1) H' (acc ++ [y]))) ∧
      ∀ D H acc, gets c P1.H D = none → I D vs.length H acc → Q (.ref D) ⟨P1.m, upd H D (.list acc)⟩)
    (hs : ∀ x, foldedSetIterable iter F.env x = pure x := by intro _; rfl) (ht : ∀ it v, letOwnedTupleGo tgt (.ref it) v = pure () := by intro _ _; rfl) :
    JE c n F (.ListComp elt [⟨tgt, iter, ifs, 0⟩] scope pos) P Q := ⟨fun A s hr hp => by
  rw [eval_ListComp]
  refine wpAny_comprehension_free (use := none) rfl hs hclos hkind hnames ?_
  refine J.on h hr hp fun vo s1 P1 r1 f1 k1 => ?_
  obtain ⟨vs, K, C, I, H0, mk, hle, h0, hK, step, fin⟩ := k1
  refine comp_run (R := fun acc C => compPost (M c) A (fun _ _ => False) none (fun v s' => ∃ P', Rep c F P' s' ∧ FF F P s s' P' ∧ Q (abs v) P') acc C) nodup loc hkind hcell mk I hle h0 hK step hr r1.h rfl (fun D Cl H acc s' hD i' p' f' hn hCl hb hC1 => ?_) ht
  obtain ⟨m, hm⟩ := hn
  refine ⟨m, hm, fun h' hs' => ?_⟩
  have hst : ∀ e ∈ c.stk, e.frame ≠ some Cl := fun e he q => by
    obtain ⟨_, L, o, es, n, z2, z3, z4, z5, z6⟩ := r1.h.stk e he
    rw [z2] at q; cases q
    rw [hC1] at z5; cases z5
  have p2 := p'.dropFrame hs' hCl hb hst
  have f2 : HF P1.H s1 { s' with heap := h' } (upd H D (.list acc)) := fun b o e1 e2 => by
    obtain ⟨⟨o', y1, y2⟩, y3⟩ := f' b o e1 e2
    exact ⟨⟨o', (hs'.2 b fun q => by subst q; rw [hC1] at e1; cases e1).trans y1, y2⟩, y3⟩
  obtain ⟨r2, f3⟩ := r1.ofH p2 f2
  exact ⟨_, r2, f1.trans f3, fin D H acc hD i'⟩⟩

/-- x = a list comprehension, its store exchanged -/
theorem JS_setComp (i : Nat) {x : Str} {pos' spos : Pos} {elt tgt iter : Expr} {ifs : List Expr} {scope : Scope} {cl : List (Str × Addr)} {pos : Pos} (ns : List Str) {Q : AF → PS → Prop}
    (hi : F.ns[i]? = some x)
    (hclos : closureFor scope F.env = pure cl) (nodup : ns.Nodup) (loc : ∀ x ∈ ns, (relabel scope F.env).names.lookup x = some .local ∧ (x == ("__debug__" : Str)) = false) (hkind : scope.kind = .function)
    (hcell : ∀ y ∈ scope.names, y.2 ≠ .cell) (hnames : ∀ x ∈ scope.names, x.2 = .local → scope.names.lookup x.1 = some .local)
    (h : JE c n F iter P fun o P1 => ∃ (vs : List AV) (K : AH → Prop) (C : Nat → Obj → Prop) (I : Addr → Nat → AH → List AV → Prop) (H0 : AH), Mk c n vs K C o P1.H ∧ HLe H0 P1.H ∧
      (∀ D, gets c P1.H D = none → I D 0 H0 []) ∧ (∀ D k H acc, gets c P1.H D = none → k ≤ vs.length → I D k H acc → K (upd H D (.list acc)) ∧ acc.length ≤ 10000) ∧
      (∀ D Cl k v H acc, gets c P1.H D = none → vs[k]? = some v → I D k H acc → ∀ u, abs u = v → J c n (fmC F scope cl Cl ns nodup loc hkind) id (assign tgt (compEnvC scope cl Cl F.env) u) ⟨List.replicate ns.length .other, upd H D (.list acc)⟩ fun _ P2 => CB c n (fmC F scope cl Cl ns nodup loc hkind) ifs P2 fun b P3 =>
        (b = false → ∃ H', HLe (upd H' D (.list acc)) P3.H ∧ I D (k + 1) H' acc) ∧ (b = true → JE c n (fmC F scope cl Cl ns nodup loc hkind) elt P3 fun y P4 => ∃ H', HLe (upd H' D (.list acc)) P4.H ∧ I D (k + 1) H' (acc ++ [y]))) ∧
      ∀ D H acc, gets c P1.H D = none → I D vs.length H acc → Q .next ⟨P1.m.set i (.ref D), upd H D (.list acc)⟩)
    (hsw : swapsWith (.ListComp elt [⟨tgt, iter, ifs, 0⟩] scope pos) (some (.Name x pos')) spos.line F.env = pure true := by rfl)
    (hs : ∀ x, foldedSetIterable iter F.env x = pure x := by intro _; rfl) (ht : ∀ it v, letOwnedTupleGo tgt (.ref it) v = pure () := by intro _ _; rfl) :
    JS c n F (.Assign [.Name x pos'] (.ListComp elt [⟨tgt, iter, ifs, 0⟩] scope pos) spos) P Q := ⟨fun A s hr hp => by
  rw [exec_Assign_Name_used _ _ _ _ hsw]
  refine wpAny_bind (wpAny_standAt (wpAny_bind ?_))
  show wpAny _ A (do let _ ← comprehension (.ListComp elt [⟨tgt, iter, ifs, 0⟩] scope pos) scope F.env _ (newList []) false (eval iter F.env) (some (assign (.Name x pos') F.env))) _ _ s
  refine wpAny_bind (wpAny_mono (wpAny_comprehension_free (use := some (assign (.Name x pos') F.env)) (Q := fun _ s' => ∃ P', Rep c F P' s' ∧ FF F P s s' P' ∧ Q .next P') rfl hs hclos hkind hnames ?_) (fun _ s' hq => wpAny_pure (wpAny_pure hq)) fun _ _ e => e)
  refine J.on h hr hp fun vo s1 P1 r1 f1 k1 => ?_
  obtain ⟨vs, K, C, I, H0, mk, hle, h0, hK, step, fin⟩ := k1
  refine comp_run (R := fun acc C => compPost (M c) A (fun _ _ => False) (some (assign (.Name x pos') F.env)) (fun _ s' => ∃ P', Rep c F P' s' ∧ FF F P s s' P' ∧ Q .next P') acc C) nodup loc hkind hcell mk I hle h0 hK step hr r1.h rfl (fun D Cl H acc s' hD i' p' f' hn hCl hb hC1 => ?_) ht
  obtain ⟨m, o2, es, ep, hm1, hm2⟩ := hn
  have hst : ∀ e ∈ c.stk, e.frame ≠ some Cl := fun e he q => by
    obtain ⟨_, L, o, es, n, z2, z3, z4, z5, z6⟩ := r1.h.stk e he
    rw [z2] at q; cases q
    rw [hC1] at z5; cases z5
  obtain ⟨r2, f2⟩ := r1.ofH p' f'
  have hLC : Cl ≠ F.env.locals := fun q => by
    subst q
    obtain ⟨mm, ⟨oL, es, ep, z, _⟩, _⟩ := r1.ns
    rw [hC1] at z; cases z
  show wpAny _ A (assign (.Name x pos') F.env (.ref D)) _ _ _
  refine (J_asg (c := c) (n := n) (F := F) (P := ⟨P1.m, upd H D (.list acc)⟩) (u := .ref D) (Q := fun _ P' => P' = ⟨P1.m.set i (.ref D), upd H D (.list acc)⟩) i rfl hi).on hr r2 fun _ s3 P3 r3 f3 k3 => ?_
  subst k3
  obtain ⟨⟨o3, y1, y2⟩, y3⟩ := f3 Cl o2 hm1 hLC hCl
  refine ⟨m, ⟨o3, es, ep, y1, y2.data ▸ hm2⟩, fun h' hs' => ?_⟩
  have p2 := r3.h.dropFrame hs' hCl hb hst
  obtain ⟨mm, ⟨oL, es', ep', z1, z2⟩, z3⟩ := r3.ns
  refine ⟨_, ⟨p2, ⟨mm, ⟨oL, es', ep', (hs'.2 _ (Ne.symm hLC)).trans z1, z2⟩, z3⟩, r3.own, r3.new⟩, fun b o e1 e2 e3 => ?_, fin D H acc hD i'⟩
  obtain ⟨⟨o4, x1, x2⟩, x3⟩ := ((f1.trans f2).trans f3) b o e1 e2 e3
  refine ⟨⟨o4, (hs'.2 b fun q => ?_).trans x1, x2⟩, x3⟩
  subst q
  obtain ⟨⟨o5, w1, _⟩, _⟩ := f1 b o e1 e2 e3
  rw [hC1] at w1; cases w1⟩
end
end Mine
end

-- part L19
section
open PySem PySem.W PySem.Calls PyProof.Rows
set_option Elab.async false
set_option linter.unusedVariables false
set_option autoImplicit false
set_option maxRecDepth 100000
namespace Mine

section
variable {c : Cx} {n : Nat} {F : Fm} {P : PS}

/-! iterables -/
theorem mk_list {l : Addr} {vs : List AV} {H : AH} (h : gets c H l = some (.list vs)) : Mk c n vs (fun H => gets c H l = some (.list vs)) (fun k o => o.cls = .type "list_iterator" ∧ o.data = .fields #[.ref l, .int k 0]) (.ref l) H := fun vo eo A s hr hp Q' E k => by
  obtain rfl := abs_ref eo
  obtain ⟨co, h1, h2⟩ := hp.at h
  obtain ⟨items, hl, hm⟩ := islist_of h1 h2
  exact wpAny_pyIter_list hl (k _ _ _ (fun b o z => Heap.get?_push_of_some _ z) rfl rfl (Nat.le_refl _) (Heap.get?_push_size _ rfl) ⟨rfl, rfl⟩ itr_list fun {A s k o Q E} g hC hq => wpAny_pyIter_listiter ⟨o, g, hC⟩ hq)
theorem mk_range {r : Addr} {m : Nat} {H : AH} (hm : m < 2 ^ 60) (h : H r = some (.rng 0 m 1)) : Mk c n (upTo m) (fun _ => True) (fun k o => o = { cls := .type "range_iterator", dict := none, data := .fields #[rawInt k, rawInt (m - k : Int), rawInt 1], slots := #[] }) (.ref r) H := fun vo eo A s hr hp Q' E k => by
  obtain rfl := abs_ref eo
  obtain ⟨co, h1, t, u, v, rfl⟩ := hp.know r _ h
  refine wpAny_pyIter_range h1 (small_one (by lia) (by lia) (by lia) (by lia)) (k _ _ _ (fun b o z => Heap.get?_push_of_some _ z) rfl rfl (Nat.le_refl _) (Heap.get?_push_size _ rfl) ?_ itr_range fun {A s k o Q E} g hC hq => wpAny_pyIter_rangeiter (x := k) (left := m - k) (step := 1) (by subst hC; exact g) hq)
  rw [show Builtin.Range.rangeSize 0 m 1 = (m : Int) - (0 : Nat) by rw [rangeSize_one]; split <;> lia]
  rfl

/-! d.values() -/
theorem J_values {a : Addr} {es : List (Int × AV)} {ep : Nat} {Q : AV → PS → Prop} (e : P.H a = some (.dict es ep)) (h : ∀ r, gets c P.H r = none → Q (.ref r) ⟨P.m, upd P.H r (.vals a)⟩) :
    ∀ us, us.map abs = [] → J c n F abs (call (.builtin "dict.values") (.ref a :: us)) P Q := fun us eu => by
  obtain rfl := List.map_eq_nil_iff.mp eu
  refine TH.J ⟨fun A s hr hp => ?_⟩
  obtain ⟨co, g1, g2⟩ := hp.know a _ e
  obtain ⟨kvs, hd, rfl⟩ := dictAt_of g1 g2
  exact call_meetsIn PySem.F.slot_dict_values hd.dictOf.typeIs PySem.F.entry_dict_values (PySem.F.args_dict_values_1 _) (meets_dict_values (intKind prg c.w) a (beq_eq_false_iff_ne.mpr (hp.hi _ _ e))) ⟨⟨kvs, hd.dictOf⟩,
    ⟨_, hp.alloc (o := .vals a) ⟨rfl, rfl⟩ rfl rfl rfl, HF.alloc rfl, h _ hp.free⟩⟩
theorem itr_vals {d it : Addr} {es : List (Int × AV)} {ep : Nat} : Itr c n it (es.map fun p => p.2) (fun H => H d = some (.dict es ep))
    (fun k o => o.cls = .type "dict_valueiterator" ∧ o.data = .fields #[.ref d, .int k 0, .int es.length 0, .int ep 0]) where
  item := fun {A s H k o v} hr hp hK ho hC hv {Q' E} h => by
    obtain ⟨co, h1, h2⟩ := hp.know _ _ hK
    obtain ⟨kvs, hd, rfl⟩ := dictAt_of h1 h2
    rw [List.getElem?_map, List.getElem?_map] at hv
    obtain ⟨y, hy, rfl⟩ := Option.map_eq_some_iff.mp hv
    obtain ⟨⟨i, x⟩, hx, rfl⟩ := Option.map_eq_some_iff.mp hy
    rw [List.length_map] at hC
    refine wpAny_pyNext_values_item ⟨o, ho, hC⟩ hd hx fun h' ⟨o', z1, z2⟩ hs => ?_
    exact h _ h' o' s.toks rfl hs z1 (by rw [List.length_map]; exact z2)
  fin := fun {A s H k o} hr hp hK ho hC hv {Q' E} h => by
    obtain ⟨co, h1, h2⟩ := hp.know _ _ hK
    obtain ⟨kvs, hd, rfl⟩ := dictAt_of h1 h2
    rw [List.length_map] at hC
    exact wpAny_pyNext_values_end (hr.1 rfl) ⟨o, ho, hC⟩ hd (by simpa using hv) h
  plain := fun k o h => ⟨_, h.1, by decide⟩
  nd := fun k o h => ⟨_, h.2⟩
theorem mk_vals {v d : Addr} {es : List (Int × AV)} {ep : Nat} {H : AH} (hv : H v = some (.vals d)) (hd : H d = some (.dict es ep)) :
    Mk c n (es.map fun p => p.2) (fun H => H d = some (.dict es ep)) (fun k o => o.cls = .type "dict_valueiterator" ∧ o.data = .fields #[.ref d, .int k 0, .int es.length 0, .int ep 0]) (.ref v) H := fun vo eo A s hr hp Q' E k => by
  obtain rfl := abs_ref eo
  obtain ⟨co, h1, h2⟩ := hp.know _ _ hd
  obtain ⟨kvs, hda, hm⟩ := dictAt_of h1 h2
  obtain ⟨cv, g1, g2⟩ := hp.know _ _ hv
  refine wpAny_pyIter_values ⟨cv, g1, g2⟩ hda (k _ _ _ (fun b o z => Heap.get?_push_of_some _ z) rfl rfl (Nat.le_refl _) (Heap.get?_push_size _ rfl) ⟨rfl, ?_⟩ itr_vals fun {A s k o Q E} g hC hq => wpAny_pyIter_valiter ⟨o, g, hC⟩ hq)
  rw [← hm, List.length_map]; rfl

/-! cells -/
/-- the name of a cell -/
theorem JE_C {x : Str} {pos : Pos} {a : Addr} {v : AV} {Q : AV → PS → Prop} (hx : F.env.kindOf x = some .cell) (hc : F.env.cells.lookup x = some a) (hv : P.H a = some (.cell (some v))) (h : Q v P) (hd : (x == ("__debug__" : Str)) = false := by decide) : JE c n F (.Name x pos) P Q := ⟨fun A s hr hp => by
  obtain ⟨co, g1, cv, g2, g3⟩ := hp.h.know _ _ hv
  obtain ⟨u, rfl, rfl⟩ := Option.map_eq_some_iff.mp g3
  exact wpAny_Name (wpAny_loadName_cell F.kind hx hc ⟨co, g1, g2⟩ ⟨P, hp, FF.refl _ _ _, h⟩) hd⟩
theorem J_storeC {x : Str} {a : Addr} {v : Option AV} {u : Value} {Q : Unit → PS → Prop} (hx : F.env.kindOf x = some .cell) (hc : F.env.cells.lookup x = some a) (hv : P.H a = some (.cell v)) (h : Q () ⟨P.m, upd P.H a (.cell (some (abs u)))⟩) :
    J c n F id (storeName F.env x u) P Q := by
  refine TH.J ⟨fun A s hr hp => ?_⟩
  obtain ⟨co, g1, cv, g2, g3⟩ := hp.know _ _ hv
  refine wpAny_storeName_cell F.kind hx hc ⟨co, g1, g2⟩ fun h' ⟨o', z1, z2⟩ hs => ?_
  exact ⟨_, hp.change hv hs z1 (o' := .cell (some (abs u))) ⟨some u, z2, rfl⟩ rfl rfl, HF.change hv hs, h⟩
theorem J_asgC {x : Str} {pos : Pos} {a : Addr} {v : Option AV} {u : Value} {Q : Unit → PS → Prop} (hx : F.env.kindOf x = some .cell) (hc : F.env.cells.lookup x = some a) (hv : P.H a = some (.cell v)) (h : Q () ⟨P.m, upd P.H a (.cell (some (abs u)))⟩) :
    J c n F id (assign (.Name x pos) F.env u) P Q := ⟨fun A s hr hp => wpAny_assign_Name ((J_storeC (n := n) hx hc hv h).go A s hr hp)⟩
theorem JS_setC {x : Str} {pos' pos : Pos} {value : Expr} {a : Addr} {Q : AF → PS → Prop} (hx : F.env.kindOf x = some .cell) (hc : F.env.cells.lookup x = some a)
    (h : JE c n F value P fun v P1 => ∃ w, P1.H a = some (.cell w) ∧ Q .next ⟨P1.m, upd P1.H a (.cell (some v))⟩)
    (hs : swapsWith value (some (.Name x pos')) pos.line F.env = pure false := by rfl) : JS c n F (.Assign [.Name x pos'] value pos) P Q :=
  ⟨fun A s hr hp => wpAny_Assign_Name (h.on hr hp fun v s1 P1 r1 f1 ⟨w, k1, k2⟩ => (J_storeC (n := n) (Q := fun _ P2 => Q .next P2) hx hc k1 k2).on hr r1 fun _ s2 P2 r2 f2 k2 => ⟨P2, r2, f1.trans f2, k2⟩) hs⟩

/-- one thing more is known -/
theorem HRep.learn {H : AH} {s : Shared} (h : HRep c H s) {a : Addr} {o : AO} {co : Obj} (e : s.heap.get? a = some co) (hi : OIs c.w o co) (hb : c.h₀.get? a = none) (hm : a ≠ sysModules) (hst : ∀ e ∈ c.stk, e.frame ≠ some a) : HRep c (upd H a o) s := by
  refine ⟨fun b ob z => ?_, fun b ob z => ⟨(h.base b ob z).1, ?_⟩, fun b ob z => ?_, h.os, h.gens, fun e' he => ?_⟩
  · by_cases q : b = a
    · subst q; rw [upd_self] at z; cases z; exact ⟨co, e, hi⟩
    · rw [upd_ne _ _ q] at z; exact h.know b ob z
  · rw [upd_ne _ _ (fun q => by subst q; rw [hb] at z; cases z)]; exact (h.base b ob z).2
  · by_cases q : b = a
    · subst q; exact hm
    · rw [upd_ne _ _ q] at z; exact h.hi b ob z
  · obtain ⟨h1, L, o', es, n, h2, h3, h4, h5, h6⟩ := h.stk e' he
    exact ⟨h1, L, o', es, n, h2, h3, by rw [upd_ne _ _ (fun q : L = a => hst e' he (q ▸ h2))]; exact h4, h5, h6⟩

/-- cells laid in a row -/
noncomputable def cellsH (H : AH) (a : Addr) : List (Option AV) → AH
  | [] => H
  | v :: r => cellsH (upd H a (.cell v)) (a + 1) r

theorem HRep.cells {s : Shared} {L : Addr} (hb : ∀ b, L < b → c.h₀.get? b = none) (hm : sysModules ≤ L) (hst : ∀ e ∈ c.stk, ∀ b, L < b → e.frame ≠ some b) :
    ∀ {cv : List (Option AV)} {H : AH} {a : Addr}, L < a → HRep c H s → (∀ (k : Nat) v, cv[k]? = some v → ∃ w, s.heap.IsCell (a + k) w ∧ w.map abs = v) → HRep c (cellsH H a cv) s
  | [], H, a, ha, h, hc => h
  | v :: r, H, a, ha, h, hc => by
    obtain ⟨w, ⟨co, z1, z2⟩, z3⟩ := hc 0 v rfl
    refine HRep.cells (H := upd H a (.cell v)) (a := a + 1) hb hm hst (Nat.lt_succ_of_lt ha) (h.learn z1 ⟨w, z2, z3⟩ (hb a ha) (Nat.ne_of_gt (Nat.lt_of_le_of_lt hm ha)) fun e he => hst e he a ha) fun k v' hk => ?_
    obtain ⟨w', y1, y2⟩ := hc (k + 1) v' (by simpa using hk)
    exact ⟨w', by rw [show a + 1 + k = a + (k + 1) from (Nat.add_assoc a 1 k).trans (congrArg (a + ·) (Nat.add_comm 1 k))]; exact y1, y2⟩
theorem cellsH_out : ∀ {cv : List (Option AV)} {H : AH} {a b : Addr}, b < a → cellsH H a cv b = H b
  | [], _, _, _, _ => rfl
  | v :: r, H, a, b, h => by
    show cellsH (upd H a (.cell v)) (a + 1) r b = H b
    rw [cellsH_out (Nat.lt_succ_of_lt h), upd_ne _ _ (Nat.ne_of_lt h)]

/-- the frame of a call with cells -/
noncomputable abbrev fmX (fd : FuncData) (L fa : Addr) (ns : List Str) (nodup : ns.Nodup) (loc : ∀ x ∈ ns, fd.scope.names.lookup x = some .local ∧ (x == ("__debug__" : Str)) = false) (hk : fd.scope.kind = .function)
    (hg : fd.globals = mainGlobals) (hbi : fd.builtins = builtinsNs) : Fm := ⟨callEnvC fd L fa, ns, nodup, loc, hk, hg, hbi⟩

theorem TC_cells (ps ns cn : List Str) (cv : List (Option AV)) (m0 : List AV) {fa : Addr} {o : Obj} {fd : FuncData} {body : List Stmt} {args : List AV} {H : AH} {Q : AV → AH → Prop}
    (ho : (KW c.w).lookup fa = some o) (hd : o.data = .func fd) (hb : fd.body = .stmts body) (hcd : codeIn (KW c.w) fd.code fd.qualname = true)
    (hg : fd.globals = mainGlobals) (hbi : fd.builtins = builtinsNs) (hclo : fd.closure = [])
    (hbind : ∀ vs : List Value, vs.length = args.length → bindArgs fd ⟨vs, []⟩ = pure (ps.zip vs))
    (hkb : ∀ L, ∀ x ∈ ps, fd.scope.names.lookup x = some .local ∨ (fd.scope.names.lookup x = some .cell ∧ ((cellsFrom (L + 1) fd.scope.names []).lookup x).isSome = true))
    (hloc : ∀ x ∈ ns, fd.scope.names.lookup x = some .local ∧ (x == ("__debug__" : Str)) = false) (hnd : ns.Nodup)
    (hco : fd.scope.isCoroutine = false) (hgen : fd.scope.isGenerator = false) (hk : fd.scope.kind = .function)
    (hm : ∀ L (vs : List Value), vs.map abs = args → ∀ (i : Nat) x v, ns[i]? = some x → m0[i]? = some v → v ≠ .other → (bindL (callEnvC fd L fa).kindOf (ps.zip vs) (fun _ => none) x).map abs = some v)
    (hcn : ∀ L (k : Nat) v, cv[k]? = some v → ∃ x, (callEnvC fd L fa).cells.lookup x = some (L + 1 + k) ∧ ∀ vs : List Value, vs.map abs = args → (bindC (callEnvC fd L fa).kindOf (ps.zip vs) (fun _ => none) x).map abs = v)
    (h : ∀ L, (∀ b, L ≤ b → gets c H b = none) → JSS (c.push (callEnvC fd L fa)) n (fmX fd L fa ns hnd hloc hk hg hbi) body ⟨m0, cellsH H (L + 1) cv⟩ fun f P' => Q (retOf f) P'.H) : TC c (n + 1) (.ref fa) args H Q := by
  refine ⟨fun vs hvs A s hr hp => ?_⟩
  have hfree : ∀ b, s.heap.objs.size ≤ b → s.heap.get? b = none := fun b hb' => by
    cases q : s.heap.get? b with
    | none => rfl
    | some x => exact absurd (Heap.lt_size q) (Nat.not_lt.mpr hb')
  have hb0 : ∀ b, s.heap.objs.size ≤ b → c.h₀.get? b = none := fun b hb' => by
    cases q : c.h₀.get? b with
    | none => rfl
    | some x => have := (hp.base _ _ q).1; rw [hfree b hb'] at this; cases this
  have hgs : ∀ b, s.heap.objs.size ≤ b → gets c H b = none := fun b hb' => by
    cases q : gets c H b with
    | none => rfl
    | some x => obtain ⟨co, z, _⟩ := hp.at q; rw [hfree b hb'] at z; cases z
  refine codeAny_call_cells (fd := fd) (body := body) (binds := ps.zip vs) hr.depth (hp.K _ _ ho) hd (c.nolimit.keeps hp.keep)
    (codeRec_of hp.K hcd) hb (hbind vs (by rw [← hvs]; simp)) hclo (fun x hx => hkb _ x.1 (List.of_mem_zip hx).1) (fun s₁ x => ?_) hco hgen hk
  obtain ⟨h₁, tk, rfl, hk₁⟩ := x.done
  have hs0 : sysModules ≤ s.heap.objs.size := by
    obtain ⟨og, es, ep, hg', _⟩ := c.g
    exact Nat.le_of_lt (Nat.lt_trans (by decide) (Heap.lt_size (hp.base _ _ hg').1))
  have p1 := (hp.ext (s' := { s with heap := h₁, toks := tk }) hk₁ rfl rfl).push (e := callEnvC fd s.heap.objs.size fa) (L := s.heap.objs.size) hk rfl x.toInCall.ns (hb0 _ (Nat.le_refl _)) hp.fresh
  have p2 : HRep (c.push (callEnvC fd s.heap.objs.size fa)) (cellsH H (s.heap.objs.size + 1) cv) { s with heap := h₁, toks := tk } := by
    refine HRep.cells (c := c.push (callEnvC fd s.heap.objs.size fa)) (L := s.heap.objs.size) (fun b hb' => hb0 b (Nat.le_of_lt hb')) hs0 (fun e he b hb' q => ?_) (Nat.lt_succ_self _) p1 fun k v hkv => ?_
    · rcases List.mem_cons.mp he with rfl | he
      · cases q; exact Nat.lt_irrefl _ hb'
      · obtain ⟨_, L, o', es, n', z2, z3, z4, z5, z6⟩ := hp.stk e he
        rw [z2] at q; cases q
        exact absurd (Heap.lt_size z5) (Nat.not_lt.mpr (Nat.le_of_lt hb'))
    · obtain ⟨y, y1, y2⟩ := hcn s.heap.objs.size k v hkv
      exact ⟨_, x.cell y _ y1, y2 vs hvs⟩
  have r1 : Rep (c.push (callEnvC fd s.heap.objs.size fa)) (fmX fd s.heap.objs.size fa ns hnd hloc hk hg hbi) ⟨m0, cellsH H (s.heap.objs.size + 1) cv⟩ { s with heap := h₁, toks := tk } :=
    ⟨p2, ⟨_, x.toInCall.ns, fun i y v e1 e2 e3 => hm _ vs hvs i y v e1 e2 e3⟩, (cellsH_out (Nat.lt_succ_self _)).trans hp.fresh, hb0 _ (Nat.le_refl _)⟩
  refine wpAny_mono ((h s.heap.objs.size hgs).go _ _ (hr.deeper (e := callEnvC fd s.heap.objs.size fa)) r1) (fun f s' ⟨P', r', f', q'⟩ => ?_) fun _ _ x => x.elim
  refine ⟨P'.H, r'.h.pop, fun b ob e1 e2 => f' b ob (hk₁ _ _ e1) (Nat.ne_of_lt (Heap.lt_size e1)) ((cellsH_out (Nat.lt_succ_of_lt (Heap.lt_size e1))).trans e2), ?_⟩
  cases f <;> exact q'
end
end Mine
end

-- part L20
section
open PySem PySem.W PySem.Calls PyProof.Rows PySem.SeqAt
set_option Elab.async false
set_option linter.unusedVariables false
set_option autoImplicit false
set_option maxRecDepth 100000
namespace Mine

/-! ### comparing lists -/
noncomputable def lexB : List Int → List Int → Bool
  | [], [] => false
  | [], _ :: _ => true
  | _ :: _, [] => false
  | x :: xs, y :: ys => if x = y then lexB xs ys else decide (x < y)

section
open AutoSeq1 (wpAny_loadPart')
open MeetsSeq MeetsSeq2 MeetsSeq3 SeqRoads2

theorem int_inj : ∀ {xs ys : List Int}, xs.map AV.int = ys.map AV.int → xs = ys
  | [], [], _ => rfl
  | [], _ :: _, h => by cases h
  | _ :: _, [], h => by cases h
  | x :: xs, y :: ys, h => by
    have h := List.cons.inj h
    injection h.1 with e
    rw [e, int_inj h.2]
theorem list_inj {xs ys : List Int} (h : some (AO.list (xs.map AV.int)) = some (AO.list (ys.map AV.int))) : xs = ys := by injection Option.some.inj h with e; exact int_inj e
theorem ints_at {vs : List Value} {ns : List Int} (h : vs.map abs = ns.map AV.int) {j : Nat} (h1 : j < vs.length) (h2 : j < ns.length) : ∃ t, vs[j] = .int ns[j] t := by
  have := congrArg (·[j]?) h
  simp only [List.getElem?_map, List.getElem?_eq_getElem h1, List.getElem?_eq_getElem h2, Option.map_some, Option.some.injEq] at this
  exact abs_int this

theorem lt_loop (l b : Addr) (items items2 : List Value) (xs ys : List Int) (n n2 : Nat) (dd dd2 : Option Addr) (sl sl2 : Array (Option Value)) (hx : items.map abs = xs.map AV.int) (hy : items2.map abs = ys.map AV.int) (k : Nat) :
    ∀ i : Nat, items.length - i = k → i ≤ items.length → i ≤ items2.length → Meets (Builtin.«list.__eq__.loop» ⟨[.ref l, .ref b, rawInt i, rawInt 0], []⟩)
      (fun A R s => s.heap.get? l = some { cls := .type "list", dict := dd, data := .seq items.toArray n, slots := sl } ∧ s.heap.get? b = some { cls := .type "list", dict := dd2, data := .seq items2.toArray n2, slots := sl2 } ∧ A.units < cLine - 5 ∧
        R (.ok (.ret (.bool (lexB (xs.drop i) (ys.drop i))))) s) := by
  have lx : items.length = xs.length := by simpa using congrArg List.length hx
  have ly : items2.length = ys.length := by simpa using congrArg List.length hy
  induction k with
  | zero =>
    intro i hk hi1 hi2 prog w A R s h
    obtain ⟨hp, g, d, tk, os⟩ := s; obtain ⟨hl, hb, hu, h⟩ := h
    wp_walk using wpAny_loadPart' hl, wpAny_loadPart' hb
    have hi : i = items.length := by lia
    subst hi
    have e1 : items.toArray[((items.length : Nat) : Int).toNat]? = none := by simp
    rw [e1]
    wp_walk using wpAny_loadPart' hl, wpAny_loadPart' hb
    show R (.ok (.ret (.bool (decide (items.toArray.size < items2.toArray.size))))) _
    rw [lx, List.drop_length] at h
    have : lexB [] (ys.drop xs.length) = decide (items.toArray.size < items2.toArray.size) := by
      simp only [List.size_toArray]
      cases q : ys.drop xs.length with
      | nil => have := List.drop_eq_nil_iff.mp q; simp [lexB]; lia
      | cons a r => have : xs.length < ys.length := by
                      have := congrArg List.length q; simp at this; lia
                    simp [lexB]; lia
    rw [← this]; exact h
  | succ k ih =>
    intro i hk hi1 hi2 prog w A R s h
    obtain ⟨hp, g, d, tk, os⟩ := s; obtain ⟨hl, hb, hu, h⟩ := h
    wp_walk using wpAny_loadPart' hl, wpAny_loadPart' hb
    have hlt : i < items.length := by lia
    have e1 : items.toArray[((i : Nat) : Int).toNat]? = some items[i] := by simp [hlt]
    rw [e1]
    have dx : xs.drop i = xs[i] :: xs.drop (i + 1) := List.drop_eq_getElem_cons (by lia)
    by_cases q : i < items2.length
    · have e2 : items2.toArray[((i : Nat) : Int).toNat]? = some items2[i] := by simp [q]
      have dy : ys.drop i = ys[i] :: ys.drop (i + 1) := List.drop_eq_getElem_cons (by lia)
      obtain ⟨t, ht⟩ := ints_at hx hlt (by lia)
      obtain ⟨u, hu'⟩ := ints_at hy q (by lia)
      rw [e2, ht, hu']
      rw [dx, dy] at h
      refine wpAny_bind (EqGives.int xs[i] ys[i] t u prog w _ _ _ _ ?_)
      by_cases z : xs[i] = ys[i]
      · have zb : (xs[i] == ys[i]) = true := by simpa using z
        rw [zb]
        wp_walk
        rw [show ((i : Int) + 1) = ((i + 1 : Nat) : Int) by push_cast; rfl]
        refine ⟨plainId_quiet plain_eq_loop _, codeAny_builtin entry_eq_loop (by
          rw [Around.under_plainId plain_eq_loop _]
          exact ih (i + 1) (by lia) (by lia) (by lia) prog w A R _ ⟨hl, hb, hu, by simpa [lexB, z] using h⟩)⟩
      · have zb : (xs[i] == ys[i]) = false := by simpa using z
        rw [zb]
        wp_walk using wpAny_loadPart' hl, wpAny_loadPart' hb
        rw [e1, e2, ht, hu']
        show wpAny _ _ (compareOp .Lt (.int xs[i] t) (.int ys[i] u) >>= _) _ _ _
        refine wpAny_bind (PyProof.Rows.lt_int ?_)
        simp only [lexB, if_neg z] at h
        exact wpAny_pure h
    · have e2 : items2.toArray[((i : Nat) : Int).toNat]? = none := by simp; lia
      rw [e2]
      wp_walk using wpAny_loadPart' hl, wpAny_loadPart' hb
      show R (.ok (.ret (.bool (decide (items.toArray.size < items2.toArray.size))))) _
      rw [dx, List.drop_of_length_le (l := ys) (i := i) (by lia)] at h
      have : lexB (xs[i] :: xs.drop (i + 1)) [] = decide (items.toArray.size < items2.toArray.size) := by simp [lexB]; lia
      rw [← this]; exact h

theorem list_lt (l b : Addr) (items items2 : List Value) (xs ys : List Int) (n n2 : Nat) (dd dd2 : Option Addr) (sl sl2 : Array (Option Value)) (hx : items.map abs = xs.map AV.int) (hy : items2.map abs = ys.map AV.int) :
    Meets (Builtin.«list.__lt__» ⟨[.ref l, .ref b], []⟩)
      (fun A R s => s.heap.get? l = some { cls := .type "list", dict := dd, data := .seq items.toArray n, slots := sl } ∧ s.heap.get? b = some { cls := .type "list", dict := dd2, data := .seq items2.toArray n2, slots := sl2 } ∧ A.units < cLine - 5 ∧
        R (.ok (.ret (.bool (lexB xs ys)))) s) := by
  intro prog w A R s h
  obtain ⟨hp, g, d, tk, os⟩ := s; obtain ⟨hl, hb, hu, h⟩ := h
  have f3 := AutoSeq1.sub_list_list
  wp_walk using wpAny_loadPart' hl, wpAny_loadPart' hb
  exact ⟨plainId_quiet plain_eq_loop _, codeAny_builtin entry_eq_loop (by
    rw [Around.under_plainId plain_eq_loop _]
    exact lt_loop l b items items2 xs ys n n2 dd dd2 sl sl2 hx hy _ 0 rfl (Nat.zero_le _) (Nat.zero_le _) prog w A R _ ⟨hl, hb, hu, by simpa using h⟩)⟩

theorem eq_intlists {A : Around} {s : Shared} {l b : Addr} {items items2 : List Value} {xs ys : List Int} (hl : s.heap.IsList l items.toArray) (hb : s.heap.IsList b items2.toArray) (hx : items.map abs = xs.map AV.int) (hy : items2.map abs = ys.map AV.int) (hu : A.units < cLine) :
    EqAt A s (.ref l) (.ref b) (decide (xs = ys)) := by
  have lx : items.length = xs.length := by simpa using congrArg List.length hx
  have ly : items2.length = ys.length := by simpa using congrArg List.length hy
  by_cases hne : l = b
  · subst hne
    obtain ⟨o1, a1, _, n1, d1⟩ := hl
    obtain ⟨o2, a2, _, n2, d2⟩ := hb
    rw [a1] at a2; cases a2
    rw [d1] at d2
    have : items = items2 := by cases d2; rfl
    subst this
    have : xs = ys := int_inj (hx.symm.trans hy)
    rw [decide_eq_true this]
    exact EqAt.same _
  · refine EqAt.of_refs hne ?_
    by_cases q : items.length = items2.length
    · have := RcAt.lists (e := fun j => decide (xs[j]? = ys[j]?)) hl hb (by simpa using q) hu fun j h1 h2 => ?_
      · have e : (List.range items.toArray.size).all (fun j => decide (xs[j]? = ys[j]?)) = decide (xs = ys) := by
          rw [Bool.eq_iff_iff, List.all_eq_true, decide_eq_true_iff]
          constructor
          · intro z
            apply List.ext_getElem?
            intro j
            by_cases hj : j < items.length
            · simpa using z j (by simpa using hj)
            · rw [List.getElem?_eq_none (by lia), List.getElem?_eq_none (by lia)]
          · intro z j _; simp [z]
        rw [e] at this; exact this
      · have h1' : j < items.length := by simpa using h1
        have h2' : j < items2.length := by simpa using h2
        obtain ⟨t, ht⟩ := ints_at hx h1' (by lia)
        obtain ⟨u, hu'⟩ := ints_at hy h2' (by lia)
        have := (EqGives.int xs[j] ys[j] t u).at A.in1 s
        have e2 : decide (xs[j]? = ys[j]?) = (xs[j] == ys[j]) := by
          rw [List.getElem?_eq_getElem (by lia), List.getElem?_eq_getElem (by lia)]
          by_cases z : xs[j] = ys[j] <;> simp [z]
        show EqAt A.in1 s items[j] items2[j] _
        rw [ht, hu', e2]; exact this
    · have := RcAt.lists_lengths hl hb (by simpa using q) hu
      rw [decide_eq_false (fun z : xs = ys => q (by rw [lx, ly, z]))]; exact this

/-- two lists, alike item by item -/
theorem eq_lists {A : Around} {s : Shared} {l b : Addr} {items items2 : Array Value} (hl : s.heap.IsList l items) (hb : s.heap.IsList b items2) (hsz : items.size = items2.size) (hu : A.units < cLine)
    (he : ∀ j (h1 : j < items.size) (h2 : j < items2.size), EqAt A.in1 s items[j] items2[j] true) : EqAt A s (.ref l) (.ref b) true := by
  by_cases hne : l = b
  · subst hne; exact EqAt.same _
  · have := EqAt.of_refs hne (RcAt.lists (e := fun _ => true) hl hb hsz hu he)
    rw [show (List.range items.size).all (fun _ => true) = true by rw [List.all_eq_true]; intros; rfl] at this
    exact this
end

section
variable {c : Cx} {n : Nat} {F : Fm} {P : PS}

theorem Room.line {A : Around} (h : Room c n A) : A.units < cLine - 5 := by have := h.2.2.1; show _ < 9900 - 5; lia

/-- xs < ys, of lists of ints -/
theorem J_ltList {a b : Addr} {xs ys : List Int} {Q : AV → PS → Prop} (ea : gets c P.H a = some (.list (xs.map .int))) (eb : gets c P.H b = some (.list (ys.map .int))) (h : Q (.bool (lexB xs ys)) P) :
    ∀ va vb, abs va = .ref a → abs vb = .ref b → J c n F abs (compareOp .Lt va vb) P Q := fun va vb e1 e2 => ⟨fun A s hr hp => by
  obtain rfl := abs_ref e1; obtain rfl := abs_ref e2
  obtain ⟨_, g1, i1, k1, rfl, m1⟩ := hp.h.at ea
  obtain ⟨_, g2, i2, k2, rfl, m2⟩ := hp.h.at eb
  obtain ⟨i1⟩ := i1
  obtain ⟨i2⟩ := i2
  exact richCompare_meets_room (op := .Lt) ⟨_, g1, rfl⟩ ⟨_, g2, rfl⟩ PySem.F.slot_list_lt PySem.F.entry_list_lt (PySem.F.args_list_lt_2 _ _) (list_lt a b i1 i2 xs ys k1 k2 none none #[] #[] m1 m2)
    ⟨g1, g2, hr.line, (show Value.bool (lexB xs ys) ≠ Value.notImplemented ∧ _ from ⟨(fun x => nomatch x), P, hp, FF.refl _ _ _, h⟩)⟩ hr.units⟩

/-- xs == [] -/
theorem J_eqNil {a b : Addr} {vs : List AV} {Q : AV → PS → Prop} (ea : gets c P.H a = some (.list vs)) (eb : gets c P.H b = some (.list [])) (h : Q (.bool vs.isEmpty) P) :
    ∀ va vb, abs va = .ref a → abs vb = .ref b → J c n F abs (compareOp .Eq va vb) P Q := fun va vb e1 e2 => ⟨fun A s hr hp => by
  obtain rfl := abs_ref e1; obtain rfl := abs_ref e2
  obtain ⟨co1, g1, o1⟩ := hp.h.at ea
  obtain ⟨co2, g2, o2⟩ := hp.h.at eb
  obtain ⟨i1, hl, rfl⟩ := islist_of g1 o1
  obtain ⟨i2, hb, e⟩ := islist_of g2 o2
  obtain rfl := List.map_eq_nil_iff.mp e
  cases i1 with
  | nil => exact eq_listAt (e := fun _ => true) hl hb rfl hr.units (fun j h1 h2 => absurd h1 (by simp)) ⟨P, hp, FF.refl _ _ _, h⟩
  | cons x r => exact eq_list_lengthsAt hl hb (by simp) hr.units ⟨P, hp, FF.refl _ _ _, h⟩⟩
/-- xs != [] -/
theorem J_neNil {a b : Addr} {vs : List AV} {Q : AV → PS → Prop} (ea : gets c P.H a = some (.list vs)) (eb : gets c P.H b = some (.list [])) (h : Q (.bool (!vs.isEmpty)) P) :
    ∀ va vb, abs va = .ref a → abs vb = .ref b → J c n F abs (compareOp .NotEq va vb) P Q := fun va vb e1 e2 => ⟨fun A s hr hp => by
  obtain rfl := abs_ref e1; obtain rfl := abs_ref e2
  obtain ⟨co1, g1, o1⟩ := hp.h.at ea
  obtain ⟨co2, g2, o2⟩ := hp.h.at eb
  obtain ⟨i1, hl, rfl⟩ := islist_of g1 o1
  obtain ⟨i2, hb, e⟩ := islist_of g2 o2
  obtain rfl := List.map_eq_nil_iff.mp e
  cases i1 with
  | nil => exact RcNeAt.lists (e := fun _ => true) hl hb rfl hr.units (fun j h1 h2 => absurd h1 (by simp)) _ _ _ _ ⟨P, hp, FF.refl _ _ _, h⟩
  | cons x r => exact RcNeAt.lists_lengths hl hb (by simp) hr.units _ _ _ _ ⟨P, hp, FF.refl _ _ _, h⟩⟩

/-- p not in xs, of lists of ints -/
theorem J_notInLL {p a : Addr} {rs : List Addr} {ps : List (List Int)} {xs : List Int} {Q : AV → PS → Prop} (ep : gets c P.H p = some (.list (xs.map .int))) (ea : gets c P.H a = some (.list (rs.map .ref)))
    (hrs : rs.map (gets c P.H) = ps.map fun l => some (.list (l.map .int))) (h : Q (.bool (!decide (xs ∈ ps))) P) :
    ∀ va vb, abs va = .ref p → abs vb = .ref a → J c n F abs (compareOp .NotIn va vb) P Q := fun va vb e1 e2 => ⟨fun A s hr hp => by
  obtain rfl := abs_ref e1; obtain rfl := abs_ref e2
  obtain ⟨co1, g1, o1⟩ := hp.h.at ep
  obtain ⟨co2, g2, o2⟩ := hp.h.at ea
  obtain ⟨i1, hl, hx⟩ := islist_of g1 o1
  obtain ⟨i2, hb, hm⟩ := islist_of g2 o2
  have hu : A.in1.units < cLine := by have := hr.2.2.1; show _ + 1 < 9900; lia
  classical
  have key : ∀ y ∈ i2, ∃ b, EqAt A.in1 s y (.ref p) b ∧ (b = true ↔ ∃ r l, y = .ref r ∧ gets c P.H r = some (.list (l.map .int)) ∧ l = xs) := fun y hy => by
    have : abs y ∈ rs.map AV.ref := hm ▸ List.mem_map_of_mem hy
    obtain ⟨r, hr', e⟩ := List.mem_map.mp this
    obtain rfl := abs_ref e.symm
    have : gets c P.H r ∈ ps.map fun l => some (AO.list (l.map .int)) := hrs ▸ List.mem_map_of_mem hr'
    obtain ⟨l, hl', e2⟩ := List.mem_map.mp this
    obtain ⟨co3, g3, o3⟩ := hp.h.at e2.symm
    obtain ⟨i3, hl3, hx3⟩ := islist_of g3 o3
    refine ⟨_, eq_intlists hl3 hl hx3 hx hu, ?_⟩
    rw [decide_eq_true_iff]
    constructor
    · intro z; exact ⟨r, l, rfl, e2.symm, z⟩
    · rintro ⟨r', l', z1, z2, z3⟩
      cases z1
      rw [← e2] at z2
      rw [← z3]
      exact list_inj z2
  let e : Value → Bool := fun y => decide (∃ r l, y = .ref r ∧ gets c P.H r = some (AO.list (l.map .int)) ∧ l = xs)
  refine notIn_listAt e hb (fun y hy => ?_) ⟨P, hp, FF.refl _ _ _, ?_⟩
  · obtain ⟨b, z1, z2⟩ := key y (by simpa using hy)
    have : e y = b := by
      rw [Bool.eq_iff_iff, z2]; exact decide_eq_true_iff
    rw [this]; exact z1
  · have : i2.toArray.any e = decide (xs ∈ ps) := by
      rw [Bool.eq_iff_iff, decide_eq_true_iff, ← Array.any_toList, List.any_eq_true]
      constructor
      · rintro ⟨y, hy, hey⟩
        obtain ⟨r, l, rfl, z2, rfl⟩ := of_decide_eq_true hey
        have : abs (.ref r) ∈ rs.map AV.ref := hm ▸ List.mem_map_of_mem (by simpa using hy)
        obtain ⟨r', hr', e3⟩ := List.mem_map.mp this
        cases e3
        have : gets c P.H r ∈ ps.map fun l => some (AO.list (l.map .int)) := hrs ▸ List.mem_map_of_mem hr'
        obtain ⟨l2, hl2, e4⟩ := List.mem_map.mp this
        rw [z2] at e4
        rw [← list_inj e4]; exact hl2
      · intro hx2
        have : some (AO.list (xs.map .int)) ∈ rs.map (gets c P.H) := hrs ▸ List.mem_map_of_mem (f := fun l => some (AO.list (l.map AV.int))) hx2
        obtain ⟨r, hr', e3⟩ := List.mem_map.mp this
        have : AV.ref r ∈ i2.map abs := hm ▸ List.mem_map_of_mem hr'
        obtain ⟨y, hy, e4⟩ := List.mem_map.mp this
        obtain rfl := abs_ref e4
        exact ⟨_, by simpa using hy, decide_eq_true ⟨r, xs, rfl, e3, rfl⟩⟩
    rw [this]; exact h⟩
end
end Mine
end

-- part L21
section
open PySem PySem.W PySem.Calls PyProof.Rows PySem.SeqAt
set_option Elab.async false
set_option linter.unusedVariables false
set_option autoImplicit false
set_option maxRecDepth 100000
namespace Mine

noncomputable def RowsAt (c : Cx) (H : AH) (a : Addr) (rows : List (List Int)) : Prop := ∃ rs qs : List Addr, gets c H a = some (.list (rs.map .ref)) ∧ rs.map (gets c H) = qs.map (fun q => some (.list [.bool true, .ref q])) ∧ qs.map (gets c H) = rows.map fun l => some (.list (l.map .int))
noncomputable def Told (c : Cx) (H : AH) (a : Addr) (f : Bool) (order : List Int) (rows : List (List Int)) : Prop := ∃ o w t, gets c H a = some (.list [.bool f, .ref o, .ref w, .bool false, .ref t]) ∧ gets c H o = some (.list (order.map .int)) ∧ RowsAt c H w rows ∧ gets c H t = some (.tup [])

section
variable {c : Cx} {n : Nat} {F : Fm} {P : PS}

theorem eq_intsAt {A : Around} {s : Shared} {H : AH} (hp : HRep c H s) {a b : Addr} {xs : List Int} (ea : gets c H a = some (.list (xs.map .int))) (eb : gets c H b = some (.list (xs.map .int))) (hu : A.units < cLine) : EqAt A s (.ref a) (.ref b) true := by
  obtain ⟨co1, g1, o1⟩ := hp.at ea
  obtain ⟨co2, g2, o2⟩ := hp.at eb
  obtain ⟨i1, hl, hx⟩ := islist_of g1 o1
  obtain ⟨i2, hb, hy⟩ := islist_of g2 o2
  have := eq_intlists hl hb hx hy hu
  rwa [decide_eq_true rfl] at this

theorem map_some_get {rs qs : List Addr} {f : Addr → Option AO} {g : Addr → Option AO} (h : rs.map f = qs.map g) {j : Nat} {r : Addr} (hr : rs[j]? = some r) : ∃ q, qs[j]? = some q ∧ f r = g q := by
  have := congrArg (·[j]?) h
  simp only [List.getElem?_map, hr, Option.map_some] at this
  obtain ⟨q, h1, h2⟩ := Option.map_eq_some_iff.mp this.symm
  exact ⟨q, h1, h2.symm⟩

theorem eq_rowAt {A : Around} {s : Shared} {H : AH} (hp : HRep c H s) {a b q1 q2 : Addr} {xs : List Int} (ea : gets c H a = some (.list [.bool true, .ref q1])) (eb : gets c H b = some (.list [.bool true, .ref q2]))
    (e1 : gets c H q1 = some (.list (xs.map .int))) (e2 : gets c H q2 = some (.list (xs.map .int))) (hu : A.units + 1 < cLine) : EqAt A s (.ref a) (.ref b) true := by
  obtain ⟨co1, g1, o1⟩ := hp.at ea
  obtain ⟨co2, g2, o2⟩ := hp.at eb
  obtain ⟨i1, hl, hx⟩ := islist_of g1 o1
  obtain ⟨i2, hb, hy⟩ := islist_of g2 o2
  obtain ⟨x1, x2, rfl, z1, z2⟩ := two_abs hx
  obtain ⟨y1, y2, rfl, w1, w2⟩ := two_abs hy
  obtain rfl := abs_bool z1; obtain rfl := abs_ref z2; obtain rfl := abs_bool w1; obtain rfl := abs_ref w2
  refine eq_lists hl hb rfl (by lia) fun j h1 h2 => ?_
  match j, h1 with
  | 0, _ => exact EqAt.same _
  | 1, _ => exact eq_intsAt hp e1 e2 hu
  | j + 2, h => exact absurd h (by simp)

theorem eq_rowsAt {A : Around} {s : Shared} {H : AH} (hp : HRep c H s) {a b : Addr} {rows : List (List Int)} (ha : RowsAt c H a rows) (hb : RowsAt c H b rows) (hu : A.units + 2 < cLine) : EqAt A s (.ref a) (.ref b) true := by
  obtain ⟨rs, qs, a1, a2, a3⟩ := ha
  obtain ⟨rs', qs', b1, b2, b3⟩ := hb
  obtain ⟨co1, g1, o1⟩ := hp.at a1
  obtain ⟨co2, g2, o2⟩ := hp.at b1
  obtain ⟨i1, hl, hx⟩ := islist_of g1 o1
  obtain ⟨i2, hb, hy⟩ := islist_of g2 o2
  have l1 : i1.length = rs.length := by simpa using congrArg List.length hx
  have l2 : i2.length = rs'.length := by simpa using congrArg List.length hy
  have l3 : rs.length = qs.length := by simpa using congrArg List.length a2
  have l4 : rs'.length = qs'.length := by simpa using congrArg List.length b2
  have l5 : qs.length = rows.length := by simpa using congrArg List.length a3
  have l6 : qs'.length = rows.length := by simpa using congrArg List.length b3
  refine eq_lists hl hb (by simp; lia) (by lia) fun j h1 h2 => ?_
  have h1' : j < i1.length := by simpa using h1
  have h2' : j < i2.length := by simpa using h2
  have e1 : abs i1[j] = .ref rs[j] := by
    have := congrArg (·[j]?) hx
    simp only [List.getElem?_map, List.getElem?_eq_getElem h1', List.getElem?_eq_getElem (show j < rs.length by lia), Option.map_some, Option.some.injEq] at this
    exact this
  have e2 : abs i2[j] = .ref rs'[j] := by
    have := congrArg (·[j]?) hy
    simp only [List.getElem?_map, List.getElem?_eq_getElem h2', List.getElem?_eq_getElem (show j < rs'.length by lia), Option.map_some, Option.some.injEq] at this
    exact this
  show EqAt A.in1 s i1[j] i2[j] true
  rw [abs_ref e1, abs_ref e2]
  obtain ⟨q1, k1, k2⟩ := map_some_get a2 (List.getElem?_eq_getElem (show j < rs.length by lia))
  obtain ⟨q2, m1, m2⟩ := map_some_get b2 (List.getElem?_eq_getElem (show j < rs'.length by lia))
  have f1 := congrArg (·[j]?) a3
  have f2 := congrArg (·[j]?) b3
  simp only [List.getElem?_map, k1, m1, List.getElem?_eq_getElem (show j < rows.length by lia), Option.map_some, Option.some.injEq] at f1 f2
  exact eq_rowAt hp k2 m2 f1 f2 (by show A.units + 1 + 1 < _; lia)

theorem five_abs {items : List Value} {a b d e f : AV} (h : items.map abs = [a, b, d, e, f]) : ∃ v w x y z, items = [v, w, x, y, z] ∧ abs v = a ∧ abs w = b ∧ abs x = d ∧ abs y = e ∧ abs z = f := by
  rcases items with _ | ⟨v, _ | ⟨w, _ | ⟨x, _ | ⟨y, _ | ⟨z, _ | _⟩⟩⟩⟩⟩ <;> simp at h
  exact ⟨v, w, x, y, z, rfl, h⟩

/-- what is told is as it is due: != gives False -/
theorem J_neTold {a b : Addr} {f : Bool} {order : List Int} {rows : List (List Int)} {Q : AV → PS → Prop} (ea : Told c P.H a f order rows) (eb : Told c P.H b f order rows) (h : Q (.bool false) P) :
    ∀ va vb, abs va = .ref a → abs vb = .ref b → J c n F abs (compareOp .NotEq va vb) P Q := fun va vb e1 e2 => ⟨fun A s hr hp => by
  obtain rfl := abs_ref e1; obtain rfl := abs_ref e2
  obtain ⟨o1, w1, t1, a1, a2, a3, a4⟩ := ea
  obtain ⟨o2, w2, t2, b1, b2, b3, b4⟩ := eb
  obtain ⟨co1, g1, p1⟩ := hp.h.at a1
  obtain ⟨co2, g2, p2⟩ := hp.h.at b1
  obtain ⟨i1, hl, hx⟩ := islist_of g1 p1
  obtain ⟨i2, hb, hy⟩ := islist_of g2 p2
  obtain ⟨v1, v2, v3, v4, v5, rfl, z1, z2, z3, z4, z5⟩ := five_abs hx
  obtain ⟨u1, u2, u3, u4, u5, rfl, y1, y2, y3, y4, y5⟩ := five_abs hy
  obtain rfl := abs_bool z1; obtain rfl := abs_ref z2; obtain rfl := abs_ref z3; obtain rfl := abs_bool z4; obtain rfl := abs_ref z5
  obtain rfl := abs_bool y1; obtain rfl := abs_ref y2; obtain rfl := abs_ref y3; obtain rfl := abs_bool y4; obtain rfl := abs_ref y5
  have hu := hr.line
  have hc : cLine = 9900 := rfl
  refine RcNeAt.lists (e := fun _ => true) hl hb rfl hr.units (fun j h1 h2 => ?_) _ _ _ _ ⟨P, hp, FF.refl _ _ _, ?_⟩
  · match j, h1 with
    | 0, _ => exact EqAt.same _
    | 1, _ => exact eq_intsAt hp.h a2 b2 (by show A.units + 1 < _; lia)
    | 2, _ => exact eq_rowsAt hp.h a3 b3 (by show A.units + 1 + 2 < _; lia)
    | 3, _ => exact EqAt.same _
    | 4, _ =>
      show EqAt A.in1 s (.ref t1) (.ref t2) true
      by_cases hne : t1 = t2
      · subst hne; exact EqAt.same _
      · obtain ⟨co3, g3, q3⟩ := hp.h.at a4
        obtain ⟨co4, g4, q4⟩ := hp.h.at b4
        obtain ⟨i3, hl3, hx3⟩ := istup_of g3 q3
        obtain ⟨i4, hl4, hx4⟩ := istup_of g4 q4
        obtain rfl := List.map_eq_nil_iff.mp hx3
        obtain rfl := List.map_eq_nil_iff.mp hx4
        exact EqAt.of_refs hne (RcAt.tuples (e := fun _ => true) hl3 hl4 (by show A.units + 1 < _; lia) fun j h1 h2 => absurd h1 (by simp))
    | j + 5, h => exact absurd h (by simp)
  · exact h⟩
end
end Mine
end

-- part L22
section
open PySem PySem.W PySem.Calls PyProof.Rows
set_option Elab.async false
set_option linter.unusedVariables false
set_option autoImplicit false
set_option maxRecDepth 100000
namespace Mine

/-! ### a comprehension whose variable lies in a cell -/
section
variable {c : Cx} {n : Nat} {F : Fm} {P : PS}

theorem newEnv_cells {A : Around} {E : Value → Shared → Prop} {s : Shared} {scope : Scope} {globals : Addr} {cl : List (Str × Addr)} {qual : Str} {env : Env} {Q : Env → Shared → Prop}
    (h : Q { scope := scope, locals := s.heap.objs.size, globals := globals, cells := cellsFrom (s.heap.objs.size + 1) scope.names cl, qual := qual, func := none, code := env.code, frame := env.frame, builtins := env.builtins }
      { s with heap := pushCells (s.heap.push { cls := .type "dict", data := .dict #[] }) scope.names }) :
    wpAny (M c) A (newFunctionEnv scope globals cl [] qual none .none (some env)) Q E s := by
  simp only [newFunctionEnv, Option.isSome_some, if_true]
  refine wpAny_bind (wpAny_alloc ?_)
  refine wpAny_bind (wpAny_layCells _ (fun name kind cells => by cases hkc : kind == NameKind.cell <;> simp [hkc]) _ _ _ _ ?_)
  rw [show ({ s with heap := s.heap.push { cls := .type "dict", data := .dict #[] } } : Shared).heap.objs.size = s.heap.objs.size + 1 from Heap.size_push ..]
  rw [List.forIn_nil]
  exact wpAny_bind (wpAny_pure (wpAny_pure h))

/-- a list comprehension whose variable x lies in a cell -/
theorem JE_compC {elt iter : Expr} {x : Str} {px : Pos} {ifs : List Expr} {scope : Scope} {cl : List (Str × Addr)} {pos : Pos} {Q : AV → PS → Prop}
    (hclos : closureFor scope F.env = pure cl) (hkind : scope.kind = .function)
    (hone : ∀ a, cellsFrom a scope.names cl = (x, a) :: cl) (hpush : ∀ h : Heap, pushCells h scope.names = h.push { cls := .type "cell", data := .cell none })
    (hnames : ∀ x ∈ scope.names, x.2 = .local → scope.names.lookup x.1 = some .local)
    (h : JE c n F iter P fun o P1 => ∃ (vs : List AV) (K : AH → Prop) (C : Nat → Obj → Prop) (I : Addr → Addr → Nat → AH → List AV → Prop) (H0 : AH), Mk c n vs K C o P1.H ∧ HLe H0 P1.H ∧
      (∀ D Cl, gets c P1.H D = none → gets c P1.H (Cl + 1) = none → Cl + 1 ≠ D → I D Cl 0 (upd H0 (Cl + 1) (.cell none)) []) ∧
      (∀ D Cl k H acc, gets c P1.H D = none → gets c P1.H (Cl + 1) = none → Cl + 1 ≠ D → k ≤ vs.length → I D Cl k H acc → K (upd H D (.list acc)) ∧ acc.length ≤ 10000) ∧
      (∀ D Cl k v H acc, gets c P1.H D = none → gets c P1.H (Cl + 1) = none → Cl + 1 ≠ D → vs[k]? = some v → I D Cl k H acc → ∀ u, abs u = v → J c n (fmC F scope ((x, Cl + 1) :: cl) Cl [] List.nodup_nil nofun hkind) id (assign (.Name x px) (compEnvC scope ((x, Cl + 1) :: cl) Cl F.env) u) ⟨[], upd H D (.list acc)⟩ fun _ P2 => CB c n (fmC F scope ((x, Cl + 1) :: cl) Cl [] List.nodup_nil nofun hkind) ifs P2 fun b P3 =>
        (b = false → ∃ H', HLe (upd H' D (.list acc)) P3.H ∧ I D Cl (k + 1) H' acc) ∧ (b = true → JE c n (fmC F scope ((x, Cl + 1) :: cl) Cl [] List.nodup_nil nofun hkind) elt P3 fun y P4 => ∃ H', HLe (upd H' D (.list acc)) P4.H ∧ I D Cl (k + 1) H' (acc ++ [y]))) ∧
      ∀ D Cl H acc, gets c P1.H D = none → I D Cl vs.length H acc → Q (.ref D) ⟨P1.m, upd H D (.list acc)⟩)
    (hs : ∀ x, foldedSetIterable iter F.env x = pure x := by intro _; rfl) :
    JE c n F (.ListComp elt [⟨.Name x px, iter, ifs, 0⟩] scope pos) P Q := ⟨fun A s hr hp => by
  rw [eval_ListComp]
  refine wpAny_comprehension_free (use := none) rfl hs hclos hkind hnames ?_
  refine J.on h hr hp fun vo s1 P1 r1 f1 k1 => ?_
  obtain ⟨vs, K, C, I, H0, mk, hle, h0, hK, step, fin⟩ := k1
  refine mk vo rfl A s1 hr r1.h _ _ fun it s2 ob ext e1 e2 hit hob hC T S => ?_
  have hp1 := r1.h
  have hp2 : HRep c P1.H s2 := hp1.ext ext e1 e2
  have hitn : s1.heap.get? it = none := by
    cases q : s1.heap.get? it with
    | none => rfl
    | some x => exact absurd (Heap.lt_size q) (Nat.not_lt.mpr hit)
  have hH : P1.H it = none := by
    cases q : P1.H it with
    | none => rfl
    | some x => obtain ⟨co, z, _⟩ := hp1.know _ _ q; rw [hitn] at z; cases z
  have hb : c.h₀.get? it = none := by
    cases q : c.h₀.get? it with
    | none => rfl
    | some x => rw [(hp1.base _ _ q).1] at hitn; cases hitn
  refine wpAny_newObj_type (newEnv_cells ?_)
  dsimp only
  rw [hone, hpush]
  generalize hH2 : s2.heap.push { cls := .type "list", dict := none, data := .seq ([] : List Value).toArray } = H2
  have hC2 : H2.objs.size = s2.heap.objs.size + 1 := by rw [← hH2, Heap.size_push]
  have hD := hp2.free
  have hp0 := hp2.le hle
  have hp3 := hp0.alloc (o := .list []) (co := { cls := .type "list", dict := none, data := .seq ([] : List Value).toArray }) (s' := { s2 with heap := H2 }) ⟨_, _, rfl, rfl⟩ hH2.symm rfl rfl
  have hp4 : HRep c (upd H0 s2.heap.objs.size (.list [])) { s2 with heap := H2.push { cls := .type "dict", data := .dict #[] } } := hp3.ext (fun b o e => Heap.get?_push_of_some _ e) rfl rfl
  have hsz : (H2.push { cls := .type "dict", data := .dict #[] }).objs.size = H2.objs.size + 1 := Heap.size_push ..
  have hp5 := hp4.alloc (o := .cell none) (co := { cls := .type "cell", data := .cell none }) (s' := { s2 with heap := (H2.push { cls := .type "dict", data := .dict #[] }).push { cls := .type "cell", data := .cell none } }) ⟨none, rfl, rfl⟩ rfl rfl rfl
  dsimp only at hp5
  rw [hsz] at hp5
  have hfc : gets c P1.H (H2.objs.size + 1) = none := by
    cases q : gets c P1.H (H2.objs.size + 1) with
    | none => rfl
    | some x => obtain ⟨co, z, _⟩ := hp2.at q; exact absurd (Heap.lt_size z) (by rw [hC2]; exact Nat.not_lt.mpr (Nat.le_trans (Nat.le_succ _) (Nat.le_succ _)))
  have hne : H2.objs.size + 1 ≠ s2.heap.objs.size := by rw [hC2]; exact Nat.ne_of_gt (Nat.lt_succ_of_lt (Nat.lt_succ_self _))
  rw [upd_comm _ _ _ hne.symm] at hp5
  have k6 : ∀ b o, s2.heap.get? b = some o → ((H2.push { cls := .type "dict", data := .dict #[] }).push { cls := .type "cell", data := .cell none }).get? b = some o := fun b o e =>
    Heap.get?_push_of_some _ (Heap.get?_push_of_some _ (hH2 ▸ Heap.get?_push_of_some _ e))
  have nC : ∀ H : AH, (∀ b, H2.objs.size ≤ b → H b = none) → upd (upd H (H2.objs.size + 1) (.cell none)) s2.heap.objs.size (.list []) H2.objs.size = none := fun H hh => by
    rw [upd_ne _ _ (by rw [hC2]; exact Nat.ne_of_gt (Nat.lt_succ_self _)), upd_ne _ _ (Nat.ne_of_lt (Nat.lt_succ_self _))]; exact hh _ (Nat.le_refl _)
  have h0n : ∀ b, H2.objs.size ≤ b → H0 b = none := fun b hb' => by
    cases q : H0 b with
    | none => rfl
    | some x => obtain ⟨co, z, _⟩ := hp0.know _ _ q; exact absurd (Heap.lt_size z) (Nat.not_lt.mpr (Nat.le_trans (by rw [hC2]; exact Nat.le_succ _) hb'))
  have r5 : Rep c (fmC F scope ((x, H2.objs.size + 1) :: cl) H2.objs.size [] List.nodup_nil nofun hkind) ⟨[], upd (upd H0 (H2.objs.size + 1) (.cell none)) s2.heap.objs.size (.list [])⟩ { s2 with heap := (H2.push { cls := .type "dict", data := .dict #[] }).push { cls := .type "cell", data := .cell none } } :=
    ⟨hp5, ⟨fun _ => none, (Heap.Ns.new H2 (.type "dict")).keeps fun b o e => Heap.get?_push_of_some _ e, fun i y v z1 z2 z3 => by simp at z2⟩, nC H0 h0n, hp3.base_fresh⟩
  have hlt := Heap.lt_size hob
  have hf5 : HF P1.H s1 { s2 with heap := (H2.push { cls := .type "dict", data := .dict #[] }).push { cls := .type "cell", data := .cell none } } (upd (upd H0 (H2.objs.size + 1) (.cell none)) s2.heap.objs.size (.list [])) := HF.of fun b o z1 z2 =>
    ⟨k6 _ _ (ext b o z1), by
      have l := Heap.lt_size (ext b o z1)
      rw [upd_ne _ _ (Nat.ne_of_lt l), upd_ne _ _ (by rw [hC2]; exact Nat.ne_of_lt (Nat.lt_succ_of_lt (Nat.lt_succ_of_lt l)))]; exact hle.none z2⟩
  have loop : codeAny (M c) A (.compLoop (.ListComp elt [⟨.Name x px, iter, ifs, 0⟩] scope pos) 0 (.ref it) (.ref s2.heap.objs.size) (fmC F scope ((x, H2.objs.size + 1) :: cl) H2.objs.size [] List.nodup_nil nofun hkind).env)
      (compPost (M c) A (fun _ _ => False) none (fun v s' => ∃ P', Rep c F P' s' ∧ FF F P s s' P' ∧ Q (abs v) P') (.ref s2.heap.objs.size) H2.objs.size) { s2 with heap := (H2.push { cls := .type "dict", data := .dict #[] }).push { cls := .type "cell", data := .cell none } } := by
    refine comp_core T (I s2.heap.objs.size H2.objs.size) (fun k H acc => hK _ _ k H acc hD hfc hne) (fun k v H acc => step _ H2.objs.size k v H acc hD hfc hne) hr r5 (k6 _ _ hob) hC
      (by rw [upd_ne _ _ (by rw [hC2]; exact Nat.ne_of_lt (Nat.lt_succ_of_lt (Nat.lt_succ_of_lt hlt)))]; exact hle.none hH) (Nat.ne_of_lt hlt) (by show it ≠ H2.objs.size; rw [hC2]; exact Nat.ne_of_lt (Nat.lt_succ_of_lt hlt)) hb hf5
      (fun b o z => ⟨(fun q => by subst q; rw [hitn] at z; cases z), by show b ≠ H2.objs.size; rw [hC2]; exact Nat.ne_of_lt (Nat.lt_succ_of_lt (Heap.lt_size (ext b o z)))⟩) (h0 _ _ hD hfc hne) (fun s' H acc m r' f' i' => ?_)
    obtain ⟨mm, z1, _⟩ := r'.ns
    refine ⟨mm, z1, fun h' hs' => ?_⟩
    have hC1 : s1.heap.get? H2.objs.size = none := by
      cases q : s1.heap.get? H2.objs.size with
      | none => rfl
      | some x => exact absurd (Heap.lt_size (ext _ _ q)) (by rw [hC2]; exact Nat.not_lt.mpr (Nat.le_succ _))
    have hst : ∀ e ∈ c.stk, e.frame ≠ some H2.objs.size := fun e he q => by
      obtain ⟨_, L, o, es, n, z2, z3, z4, z5, z6⟩ := r1.h.stk e he
      rw [z2] at q; cases q
      rw [hC1] at z5; cases z5
    have p2 := r'.h.dropFrame hs' r'.own r'.new hst
    have f2 : HF P1.H s1 { s' with heap := h' } (upd H s2.heap.objs.size (.list acc)) := fun b o e1 e2 => by
      obtain ⟨⟨o', y1, y2⟩, y3⟩ := f' b o e1 e2
      exact ⟨⟨o', (hs'.2 b fun q => by have q : b = H2.objs.size := q; subst q; rw [hC1] at e1; cases e1).trans y1, y2⟩, y3⟩
    obtain ⟨r2, f3⟩ := r1.ofH p2 f2
    exact ⟨_, r2, f1.trans f3, fin _ _ H acc hD i'⟩
  exact codeAny_compStart_list loop (S (k6 _ _ hob) hC loop)⟩

/-! ### for over an iterator -/
theorem JS_ForIt {target iter : Expr} {body orelse : List Stmt} {pos : Pos} {Q : AF → PS → Prop}
    (h : JE c n F iter P fun o P1 => ∃ (it : Addr) (x : AO) (vs : List AV) (K : AH → Prop) (C : Nat → Obj → Prop) (I : Nat → PS → Prop), o = .ref it ∧ P1.H it = some x ∧ (∀ ob, OIs c.w x ob → C 0 ob) ∧ Itr c n it vs K C ∧ Selfs c it C ∧
      (∀ k P, I k P → K P.H) ∧ (∃ P2, MLe P2.m P1.m ∧ HLe P2.H P1.H ∧ P2.H it = none ∧ I 0 P2) ∧
      (∀ k v P, vs[k]? = some v → I k P → ∀ u, abs u = v → J c n F id (assign target F.env u) P fun _ P1 => JSS c n F body P1 (TurnF (I (k + 1)) Q)) ∧ (∀ P, I vs.length P → JSS c n F orelse P Q))
    (hs : ∀ x, foldedSetIterable iter F.env x = pure x := by intro _; rfl) : JS c n F (.For target iter body orelse pos) P Q := ⟨fun A s hr hp => by
  refine wpAny_For (h.on hr hp fun vo s1 P1 r1 f1 k1 => ?_) hs
  obtain ⟨it, x, vs, K, C, I, e1, e2, e3, T, S, hK, ⟨P2, l1, l2, l3, h0⟩, step, done⟩ := k1
  obtain rfl := abs_ref e1
  obtain ⟨ob, g1, g2⟩ := r1.h.know _ _ e2
  refine S g1 (e3 ob g2) ?_
  have hb : c.h₀.get? it = none := by
    cases q : c.h₀.get? it with
    | none => rfl
    | some y => rw [(r1.h.base _ _ q).2] at e2; cases e2
  have hLn : it ≠ F.env.locals := fun q => by subst q; rw [r1.own] at e2; cases e2
  refine for_core (R := fun r s' => match r with | .ok f => ∃ P', Rep c F P' s' ∧ FF F P s s' P' ∧ Q (absF f) P' | .error e => cameBackBy (M c) A F.env (fun _ _ => False) e s') T I hK step done hr (r1.le (P := P2) l1 l2) g1 (e3 ob g2) l3 hLn hb h0 fun f s' P' r' f' q' => ⟨P', r', fun b ob z1 z2 z3 => ?_, q'⟩
  obtain ⟨⟨o1, y1, y2⟩, y3⟩ := f1 b ob z1 z2 z3
  obtain ⟨⟨o2, x1, x2⟩, x3⟩ := f' b o1 y1 z2 (fun q => by subst q; rw [y3] at e2; cases e2) (l2.none y3)
  exact ⟨⟨o2, x1, y2.trans x2⟩, x3⟩⟩

/-! reversed(range(m)) -/
theorem asInt_ok (z : Int) (t : Tok) : asInt? (.int z t) = pure (some z) := by first | rfl | kernel_rfl
theorem rv_entry : entryFor table "reversed.__new__" = some Builtin.«reversed.__new__» := entryFor_of_tree (by kernel_rfl)
theorem rv_mro : mroOf (.type "reversed") = pure [.type "reversed", .type "object"] := by rw [mroOf_type]; kernel_rfl
theorem rv_lookup : typeLookup (.type "reversed") "__new__" = pure (some (.builtin "reversed.__new__")) := by rw [typeLookup_type, builtinLookup_eq_fast]; kernel_rfl
theorem rv_made : Bind.madeBy (.type "reversed") = pure (some "reversed.__new__") := madeBy_type rv_mro rv_lookup (by decide +kernel)
theorem rv_typeCall (a : Value) : checkTypeCall "reversed" ⟨[a], []⟩ = pure () := by kernel_rfl
theorem rv_newCall (a : Value) : checkBuiltinCall "reversed.__new__" ⟨[.type "reversed", a], []⟩ = pure () := by kernel_rfl
theorem rv_plain : plainId "reversed.__new__" = true := by decide +kernel
theorem rv_create : ((Manifest.find? "reversed").bind (·.mro.findSome? fun t => (Manifest.find? t).bind fun b => if b.noNew then some true else if b.attrs.any (·.1 == "__new__") then some false else none)).getD false = false := by decide +kernel
theorem rv_self : isSubtype (.type "reversed") (.type "reversed") = pure true := by rw [isSubtype_type]; kernel_rfl
theorem rv_ri : isSubtype (.type "range_iterator") (.type "reversed") = pure false := by rw [isSubtype_type]; kernel_rfl
noncomputable def riObj (x l s : Int) : Obj := { cls := .type "range_iterator", dict := none, data := .fields #[rawInt x, rawInt l, rawInt s], slots := #[] }
theorem rv_class (a : Value) : Builtin.SmallTypes.newClass "reversed" ⟨[.type "reversed", a], []⟩ = pure (.type "reversed", [a]) := by
  unfold Builtin.SmallTypes.newClass
  simp only [isType, rv_self, pure_bind, Bool.not_true, Bool.false_eq_true, if_false]

section
variable {A : Around} {E : Value → Shared → Prop} {s : Shared} {r : Addr} {m : Nat} {t u v : Tok}
theorem rv_fields {Q : Int × Int × Int → Shared → Prop} (hr : s.heap.get? r = some { cls := .type "range", dict := none, data := .fields #[.int 0 t, .int m u, .int 1 v], slots := #[] }) (h : Q (0, (m : Int), 1) s) : wpAny (M c) A (Builtin.Range.rangeFields (.ref r)) Q E s := by
  unfold Builtin.Range.rangeFields
  refine wpAny_bind (wpAny_field hr rfl (x := .int 0 t) rfl (wpAny_bind (wpAny_of_eq (asInt_ok 0 t) ?_)))
  refine wpAny_bind (wpAny_field hr rfl (x := .int m u) rfl (wpAny_bind (wpAny_of_eq (asInt_ok m u) ?_)))
  refine wpAny_bind (wpAny_field hr rfl (x := .int 1 v) rfl (wpAny_bind (wpAny_of_eq (asInt_ok 1 v) ?_)))
  exact wpAny_pure h
theorem rv_range {Q : Value → Shared → Prop} (hm : m < 2 ^ 60) (hr : s.heap.get? r = some { cls := .type "range", dict := none, data := .fields #[.int 0 t, .int m u, .int 1 v], slots := #[] })
    (h : Q (.ref s.heap.objs.size) { s with heap := s.heap.push (riObj (m - 1) m (-1)) }) : wpAny (M c) A (call (.builtin "range.__reversed__") [.ref r]) Q E s := by
  have hT : s.TypeIs (.ref r) "range" := ⟨_, hr, rfl⟩
  refine wpAny_call_entry PySem.F.slot_range_reversed hT PySem.F.entry_range_reversed ?_ (PySem.F.args_range_reversed_1 _)
  unfold Builtin.«range.__reversed__»
  refine wpAny_bind (wpAny_of_eq (a := Value.ref r) (by first | rfl | kernel_rfl) ?_)
  refine wpAny_bind (rv_fields hr ?_)
  have hn : Builtin.Range.rangeSize 0 m 1 = m := by rw [rangeSize_one]; split <;> lia
  have fit : ∀ z : Int, -(2 ^ 63) ≤ z → z < 2 ^ 63 → Builtin.Range.rangeFitsLong z = true := fun z h1 h2 => by unfold Builtin.Range.rangeFitsLong; simp only [Bool.and_eq_true, decide_eq_true_eq]; exact ⟨h1, h2⟩
  dsimp only
  rw [hn, fit 0 (by lia) (by lia), fit m (by lia) (by lia), fit 1 (by lia) (by lia), fit (-1) (by lia) (by lia), fit (0 - 1) (by lia) (by lia)]
  show wpAny _ _ (newFields "range_iterator" [rawInt (0 + ((m : Int) - 1) * 1), rawInt m, rawInt (-1)] >>= _) _ _ _
  rw [show (0 : Int) + ((m : Int) - 1) * 1 = m - 1 by lia]
  exact wpAny_bind (wpAny_newObj_type (wpAny_pure ⟨_, rfl, h⟩))
theorem rv_new {Q : Value → Shared → Prop} (hm : m < 2 ^ 60) (hr : s.heap.get? r = some { cls := .type "range", dict := none, data := .fields #[.int 0 t, .int m u, .int 1 v], slots := #[] })
    (h : Q (.ref s.heap.objs.size) { s with heap := s.heap.push (riObj (m - 1) m (-1)) }) :
    codeAny (M c) A (.call (.builtin "reversed.__new__") ⟨[.type "reversed", .ref r], []⟩) (wants Q E) s := by
  have hT : s.TypeIs (.ref r) "range" := ⟨_, hr, rfl⟩
  refine codeAny_of_tree ?_
  show wpAny _ A.in1 (do checkBuiltinCall "reversed.__new__" ⟨[.type "reversed", .ref r], []⟩; again (.builtin "reversed.__new__" ⟨[.type "reversed", .ref r], []⟩)) _ _ s
  refine wpAny_bind (wpAny_of_eq (rv_newCall _) (wpAny_pure ⟨plainId_quiet rv_plain _, codeAny_builtin rv_entry ?_⟩))
  rw [Around.under_plainId rv_plain _]
  unfold Builtin.«reversed.__new__»
  refine wpAny_bind (wpAny_of_eq (rv_class _) ?_)
  refine wpAny_bind (wpAny_of_eq (a := ()) (by first | rfl | kernel_rfl) ?_)
  refine wpAny_bind (wpAny_of_eq (a := ()) (by first | rfl | kernel_rfl) ?_)
  refine wpAny_bind (wpAny_specialOf hT PySem.F.slot_range_reversed.lookup ?_)
  refine wpAny_bind (wpAny_of_eq (PySem.F.slot_range_reversed.bind _) ?_)
  show wpAny _ _ (if (Value.builtin "range.__reversed__" == Value.none) = true then _ else _) _ _ _
  rw [if_neg (show ¬ ((Value.builtin "range.__reversed__" == Value.none) = true) from Bool.false_ne_true)]
  refine wpAny_bind (wpAny_rule ?_)
  refine wpAny_bind (m := runValue (.call (.builtin "range.__reversed__") ⟨[.ref r], []⟩)) (show wpAny _ _ (call (.builtin "range.__reversed__") [.ref r]) _ _ _ from rv_range hm hr ?_)
  first
  | exact wpAny_pure h
  | exact wpAny_bind (wpAny_pure (wpAny_pure h))
theorem call_reversed {Q : Value → Shared → Prop} (hm : m < 2 ^ 60) (hr : s.heap.get? r = some { cls := .type "range", dict := none, data := .fields #[.int 0 t, .int m u, .int 1 v], slots := #[] })
    (h : Q (.ref s.heap.objs.size) { s with heap := s.heap.push (riObj (m - 1) m (-1)) }) : wpAny (M c) A (call (.type "reversed") [.ref r]) Q E s := by
  have hmro := rv_mro
  have h1 : (Value.type "reversed" == Value.type "type") = false := by decide +kernel
  have h2 := rv_create
  have hmade := rv_made
  have hsub := rv_ri
  have hct := rv_typeCall (.ref r)
  refine wpAny_call (codeAny_of_tree ?_)
  show wpAny _ _ (callAny (.type "reversed") _) _ _ _
  refine wpAny_pure ⟨Code.quiet_builtin _ (by decide +kernel), codeAny_builtin PySem.F.entry_type_call ?_⟩
  rw [Around.under_plain (weight_type_call_type "reversed" [.ref r] []) rfl]
  repeat (any_goals (first | assumption | wp_step))
  refine codeAny_mono (rv_new (c := c) (E := E) (Q := fun obj s₁ => obj = .ref s.heap.objs.size ∧ s₁ = { s with heap := s.heap.push (riObj (m - 1) m (-1)) }) hm hr ⟨rfl, rfl⟩) fun r s₁ hr => ?_
  rcases r with e | (obj | _ | _ | _)
  · exact hr
  all_goals first | exact hr.elim | skip
  obtain ⟨rfl, rfl⟩ := hr
  have hT : ({ s with heap := s.heap.push (riObj (m - 1) m (-1)) } : Shared).TypeIs (.ref s.heap.objs.size) "range_iterator" := ⟨_, Heap.get?_push_size _ rfl, rfl⟩
  repeat (any_goals (first | assumption | wp_step))
end

theorem nin_reversed (w : World) : nsIn (KW w) mainGlobals "reversed" = some none := by kernel_rfl
theorem boot_reversed : bootBuiltins "reversed" = some (.type "reversed") := by kernel_rfl
noncomputable def downTo (m : Nat) : List AV := (List.range m).map fun i => AV.int ((m : Int) - 1 - (i : Nat))
theorem downTo_get {m k : Nat} {v : AV} (h : (downTo m)[k]? = some v) : k < m ∧ v = .int ((m : Int) - 1 - k) := by
  unfold downTo at h
  rw [List.getElem?_map] at h
  obtain ⟨x, hx, rfl⟩ := Option.map_eq_some_iff.mp h
  have := List.getElem?_eq_some_iff.mp hx
  simp at this
  exact ⟨this.1, by rw [this.2]⟩
theorem downTo_len (m : Nat) : (downTo m).length = m := by simp [downTo]
theorem itr_down {it : Addr} {m : Nat} : Itr c n it (downTo m) (fun _ => True) (fun k o => o = riObj ((m : Int) - 1 - k) (m - k) (-1)) where
  item := fun {A s H k o v} hr hp hK ho hC hv {Q' E} h => by
    subst hC
    obtain ⟨h1, rfl⟩ := downTo_get hv
    exact wpAny_pyNext_range_item (x := (m : Int) - 1 - k) (left := m - k) (step := -1) ho (by lia) fun h' z hs => h _ h' _ _ rfl hs z (by rw [show (m : Int) - 1 - k + -1 = m - 1 - ((k + 1 : Nat) : Int) by lia, show (m : Int) - k - 1 = m - ((k + 1 : Nat) : Int) by lia]; rfl)
  fin := fun {A s H k o} hr hp hK ho hC hv {Q' E} h => by
    subst hC
    have := List.getElem?_eq_none_iff.mp hv
    rw [downTo_len] at this
    exact wpAny_pyNext_range_end (hr.1 rfl) ho (by lia) h
  plain := fun k o h => ⟨"range_iterator", by rw [h]; rfl, by decide⟩
  nd := fun k o h => by subst h; exact ⟨_, rfl⟩

/-- for over reversed(range(m)) -/
theorem JS_ForRev {target e : Expr} {body orelse : List Stmt} {p p' pos1 pos2 pos : Pos} {Q : AF → PS → Prop} (I : Nat → PS → Prop) (m : Nat) (hm : m < 2 ^ 60)
    (h : JE c n F e P fun v P1 => v = .int m ∧ I 0 P1)
    (step : ∀ k P, k < m → I k P → ∀ u, abs u = .int ((m : Int) - 1 - k) → J c n F id (assign target F.env u) P fun _ P1 => JSS c n F body P1 (TurnF (I (k + 1)) Q))
    (done : ∀ P, I m P → JSS c n F orelse P Q)
    (hx : F.env.kindOf "range" = some .globalImplicit := by rfl) (hx' : F.env.kindOf "reversed" = some .globalImplicit := by rfl) (he : isStar e = false := by rfl) :
    JS c n F (.For target (.Call (.Name "reversed" p') [.Call (.Name "range" p) [e] [] pos1] [] pos2) body orelse pos) P Q := by
  refine JS_ForIt (JE_type (nin_reversed c.w) boot_reversed (JL_cons (JE_range (h.mono fun v P1 ⟨e1, e2⟩ => ⟨m, e1, fun r hr => JL_nil fun us eu => ?_⟩) hx he)) (by decide) hx' (by decide) rfl)
  obtain ⟨u, rfl, ev⟩ := map1 eu
  obtain rfl := abs_ref ev
  refine TH.J ⟨fun A s hr' hp => ?_⟩
  obtain ⟨co, g1, t, u, v', rfl⟩ := hp.know r _ (upd_self ..)
  refine call_reversed (c := c) hm g1 ⟨_, hp.alloc (o := .riter ((m : Int) - 1) m (-1)) (co := riObj ((m : Int) - 1) m (-1)) rfl rfl rfl rfl, HF.alloc rfl, s.heap.objs.size, .riter ((m : Int) - 1) m (-1), downTo m, fun _ => True, fun k o => o = riObj ((m : Int) - 1 - k) (m - k) (-1), I, rfl, upd_self .., fun ob z => ?_, itr_down, ?_, fun _ _ _ => trivial, ⟨P1, MLe.refl _, ?_, ?_, e2⟩, ?_, ?_⟩
  · show ob = riObj ((m : Int) - 1 - (0 : Nat)) (m - (0 : Nat)) (-1)
    rw [show (m : Int) - 1 - (0 : Nat) = m - 1 by lia, show (m : Int) - (0 : Nat) = m by lia]; exact z
  · intro A s k o Q E g hC hq
    exact wpAny_pyIter_rangeiter (x := (m : Int) - 1 - k) (left := m - k) (step := -1) (by subst hC; exact g) hq
  · exact HLe.trans (HLe.upd (gets_H hr)) (HLe.upd hp.fresh)
  · exact gets_H (gets_under hp.free).2
  · intro k v P' hv hi u hu
    obtain ⟨hk, rfl⟩ := downTo_get hv
    exact step k P' hk hi u hu
  · intro P' hi
    rw [downTo_len] at hi
    exact done P' hi
end
end Mine
end

-- part D1
section
open PySem PySem.W PySem.Calls PyProof.Rows
set_option Elab.async false
set_option linter.unusedVariables false
set_option autoImplicit false
set_option maxRecDepth 100000
namespace Mine

noncomputable def hpfyK (xs : List Int) (k : Nat) : List Int := (List.range k).foldl (fun ys i => sup ys (xs.length / 2 - 1 - i)) xs
noncomputable def hpfy (xs : List Int) : List Int := hpfyK xs (xs.length / 2)
theorem sdown_len (start : Nat) (new : Int) (xs : List Int) (pos : Nat) : (sdown start new xs pos).length = xs.length :=
  sdown_ind (M := fun xs _ r => r.length = xs.length) (fun _ _ _ _ _ ih => ih.trans (List.length_set ..)) (fun _ _ _ => List.length_set ..) xs pos
theorem sup_len (xs : List Int) (k : Nat) : (sup xs k).length = xs.length := by
  unfold sup; rw [sdown_len, List.length_set, sups_len]
theorem hpfyK_len (xs : List Int) (k : Nat) : (hpfyK xs k).length = xs.length := by
  unfold hpfyK
  induction k with
  | zero => rfl
  | succ k ih => rw [List.range_succ, List.foldl_append]; show (sup _ _).length = _; rw [sup_len]; exact ih

theorem heapify_ok {c : Cx} {n : Nat} {H : AH} {a : Addr} {xs : List Int} (hl : H a = some (.list (xs.map .int))) (hz : xs.length < 900) :
    TC c (n + 3) (.ref 176) [.ref a] H fun v H' => v = .none ∧ H' = upd H a (.list ((hpfy xs).map .int)) := by
  let Q0 : AV → AH → Prop := fun v H' => v = .none ∧ H' = upd H a (.list ((hpfy xs).map .int))
  show TC _ _ _ _ _ Q0
  refine TC_def [Str.ofString "x"] [Str.ofString "n", Str.ofString "i"] rfl rfl rfl (by kernel_rfl) rfl rfl ?_ (by decide) (by decide) (by decide) rfl rfl rfl rfl ?_
  · intro vs hvs
    rcases vs with _ | ⟨v1, _ | _⟩ <;> first | rfl | (simp at hvs)
  intro L
  refine JSS_cons (JS_set 1 (JE_len (JE_N 0 ⟨a, _, rfl, .inl (gets_of hl), by simp; lia, ?_⟩)))
  rw [List.length_map]
  let hI1 : Nat → PS → Prop := fun k P => ∃ v, P = ⟨[.ref a, .int xs.length, v], upd H a (.list ((hpfyK xs k).map .int))⟩
  refine JSS_cons (JS_ForRev (hI1) (xs.length / 2) (by lia) (JE_BinOp (JE_N 1 (JE_int (J_fdiv ⟨?_, .other, ?_⟩)))) ?_ ?_)
  · show AV.int _ = _
    congr 1
    rw [Int.fdiv_eq_ediv_of_nonneg _ (by decide)]; lia
  · show PS.mk _ _ = _
    congr 1
    exact (upd_same _ hl).symm
  · rintro k _ hk ⟨v, rfl⟩ u hu
    refine J_asg 2 ?_
    rw [hu]
    have e : (((xs.length / 2 : Nat) : Int) - 1 - (k : Nat)) = ((xs.length / 2 - 1 - k : Nat) : Int) := by lia
    rw [e]
    refine JSS_cons (JS_Expr (JE_Call (k190 _) rfl rfl (JL_cons (JE_N 0 (JL_cons (JE_N 2 (JL_nil (TC.mono (siftup_ok (pos := xs.length / 2 - 1 - k) (upd_self ..) (by rw [hpfyK_len]; lia) (by rw [hpfyK_len]; lia)) ?_))))))))
    rintro _ _ ⟨rfl, rfl⟩
    refine ⟨nofun, JSS_nil ⟨.int (xs.length / 2 - 1 - k : Nat), ?_⟩⟩
    show PS.mk _ (upd (upd H a _) a _) = _
    rw [upd_upd]
    unfold hpfyK
    rw [List.range_succ, List.foldl_append]; rfl
  · rintro _ ⟨v, rfl⟩
    exact JSS_nil (JSS_nil ⟨rfl, rfl⟩)
end Mine
end

-- part D2
section
open PySem PySem.W PySem.Calls PyProof.Rows
set_option Elab.async false
set_option linter.unusedVariables false
set_option autoImplicit false
set_option maxRecDepth 100000
namespace Mine

/-- the steps, laid as a list of lists -/
noncomputable def StepsAt (H : AH) (a : Addr) (ps : List (Int × Int)) : Prop := ∃ rs : List Addr, H a = some (.list (rs.map .ref)) ∧ rs.map H = ps.map fun p => some (.list [.int p.1, .int p.2])

theorem StepsAt.le {H H' : AH} {a : Addr} {ps : List (Int × Int)} (h : StepsAt H a ps) (l : HLe H H') : StepsAt H' a ps := by
  obtain ⟨rs, h1, h2⟩ := h
  refine ⟨rs, l _ _ h1, ?_⟩
  rw [← h2]
  refine List.map_congr_left fun r hr => ?_
  have : H r ∈ ps.map fun p => some (AO.list [.int p.1, .int p.2]) := h2 ▸ List.mem_map_of_mem hr
  obtain ⟨p, _, e⟩ := List.mem_map.mp this
  rw [← e, l _ _ e.symm]
theorem StepsAt.get {H : AH} {rs : List Addr} {ps : List (Int × Int)} (h : rs.map H = ps.map fun p => some (.list [.int p.1, .int p.2])) {j : Nat} {v : AV} (hv : (rs.map AV.ref)[j]? = some v) :
    ∃ r p, v = .ref r ∧ rs[j]? = some r ∧ ps[j]? = some p ∧ H r = some (.list [.int p.1, .int p.2]) := by
  rw [List.getElem?_map] at hv
  obtain ⟨r, hr, rfl⟩ := Option.map_eq_some_iff.mp hv
  have := congrArg (·[j]?) h
  simp only [List.getElem?_map, hr, Option.map_some] at this
  obtain ⟨p, hp, e⟩ := Option.map_eq_some_iff.mp this.symm
  exact ⟨r, p, rfl, hr, hp, e.symm⟩
theorem item_at {xs : List Int} {z : Int} (h0 : 0 ≤ z) (h1 : z < xs.length) (hz : xs.length < 1000) : itemAt (some (.list (xs.map AV.int))) z = some (.int (xs.getD z.toNat 0)) := by
  obtain ⟨k, rfl⟩ := Int.eq_ofNat_of_zero_le h0
  have := item_map (xs := xs) (i := k) (by lia) hz
  simpa using this
theorem getD_mem {xs : List Int} {k : Nat} (h : k < xs.length) : xs.getD k 0 ∈ xs := by
  rw [List.getD_eq_getElem?_getD, List.getElem?_eq_getElem h]; exact List.getElem_mem h

theorem steps_ok {c : Cx} {n : Nat} {H : AH} {sc nm : Addr} {script names : List Int} (hs : gets c H sc = some (.list (script.map .int))) (hz : script.length ≤ 63) (hn : H nm = some (.list (names.map .int))) (h6 : names.length = 6) :
    TC c (n + 1) (.ref 204) [.ref sc, .ref nm] H fun v H' => ∃ r ps, v = .ref r ∧ StepsAt H' r ps ∧ (∀ p ∈ ps, p.1 ∈ names ∧ p.2 ∈ names) ∧ ps.length ≤ 8 ∧ HLe H H' := by
  let Q0 : AV → AH → Prop := fun v H' => ∃ r ps, v = .ref r ∧ StepsAt H' r ps ∧ (∀ p ∈ ps, p.1 ∈ names ∧ p.2 ∈ names) ∧ ps.length ≤ 8 ∧ HLe H H'
  show TC _ _ _ _ _ Q0
  refine TC_def [Str.ofString "script", Str.ofString "names"] [Str.ofString "draws", Str.ofString "i", Str.ofString "steps", Str.ofString "d", Str.ofString "a", Str.ofString "b"] rfl rfl rfl (by kernel_rfl) rfl rfl ?_ (by decide) (by decide) (by decide) rfl rfl rfl rfl ?_
  · intro vs hvs
    rcases vs with _ | ⟨v1, _ | ⟨v2, _ | _⟩⟩ <;> first | rfl | (simp at hvs)
  intro L
  refine JSS_cons (JS_set 2 (JE_List (JL_cons <| JE_int <| JL_cons <| JE_int <| JL_cons <| JE_int <| JL_cons <| JE_int <| JL_cons <| JE_int <| JL_cons <| JE_int <| JL_cons <| JE_int <| JL_cons <| JE_int <| JL_nil ⟨by decide, fun dr hdr => ?_⟩)))
  have hdr0 := gets_H hdr
  let hI1 : PS → Prop := fun P => ∃ (ds : List Int) (v : AV), ds.length = 8 ∧ P = ⟨[.ref sc, .ref nm, .ref dr, v, .other, .other, .other, .other], upd H dr (.list (ds.map .int))⟩
  refine JSS_seq (hI1) ?_ ?_
  · let hI2 : Nat → PS → Prop := fun k P => ∃ (ds : List Int) (v : AV), ds.length = 8 ∧ P = ⟨[.ref sc, .ref nm, .ref dr, v, .other, .other, .other, .other], upd H dr (.list (ds.map .int))⟩
    refine JS_ForRange (hI2) script.length (by lia)
      (JE_len (JE_N 0 ⟨sc, script.map .int, rfl, .inl (gets_keep hdr hs), by simp; lia, by simp, [18, 13, 32, 24, 23, 26, 49, 14], .other, rfl, rfl⟩)) ?_ ?_
    · rintro k _ hk ⟨ds, v, hd8, rfl⟩ u hu
      refine J_asg 3 ?_
      rw [hu]
      have hb : 0 ≤ ((k : Nat) : Int).fmod 8 ∧ ((k : Nat) : Int).fmod 8 < 8 := ⟨Int.fmod_nonneg_of_pos _ (by decide), Int.fmod_lt_of_pos _ (by decide)⟩
      refine JSS_cons (JS_augItem (JE_N 2 (JE_BinOp (JE_N 3 (JE_int (J_mod fun vo vi eo ei => ?_))))))
      obtain rfl := abs_ref eo
      refine J_item (k := ((k : Nat) : Int).fmod 8) (v := .int (ds.getD (((k : Nat) : Int).fmod 8).toNat 0)) ei (by rw [gets_of (upd_self ..)]; exact item_at hb.1 (by rw [hd8]; exact hb.2) (by lia)) ?_
      refine JE_item (JE_N 0 (JE_N 3 ⟨sc, k, _, .int (script.getD k 0), rfl, rfl, gets_keep hdr hs, item_map hk (by lia), J_iadd fun vn en => ?_⟩))
      refine J_setListZ (upd_self ..) ei hb.1 (by simp [hd8]; exact hb.2) (by lia) ?_
      rw [en]
      refine JSS_nil ⟨ds.set (((k : Nat) : Int).fmod 8).toNat (ds.getD (((k : Nat) : Int).fmod 8).toNat 0 + script.getD k 0), .int k, by simpa using hd8, ?_⟩
      show PS.mk _ (upd (upd H dr _) dr _) = _
      rw [upd_upd, List.map_set]; rfl
    · rintro _ ⟨ds, v, hd8, rfl⟩
      exact JSS_nil ⟨rfl, ds, v, hd8, rfl⟩
  · rintro _ ⟨ds, v, hd8, rfl⟩
    refine JSS_cons (JS_set 4 (JE_List (JL_nil ⟨by decide, fun st hst => ?_⟩)))
    have hst0 := gets_H hst
    have hne : dr ≠ st := (gets_under hst).1.symm
    have hst0' : H st = none := gets_H (gets_under hst).2
    let hI3 : Nat → PS → Prop := fun j P => ∃ (rs : List Addr) (ps : List (Int × Int)) (w5 w6 w7 : AV), P.m = [.ref sc, .ref nm, .ref dr, v, .ref st, w5, w6, w7] ∧ P.H dr = some (.list (ds.map .int)) ∧ P.H st = some (.list (rs.map .ref)) ∧
          rs.map P.H = ps.map (fun p => some (.list [.int p.1, .int p.2])) ∧ (∀ p ∈ ps, p.1 ∈ names ∧ p.2 ∈ names) ∧ ps.length ≤ j ∧ HLe H P.H
    refine JSS_cons (JS_ForList (JE_N 2 ⟨dr, ds.map .int, hI3, rfl, ⟨_, MLe.refl _, HLe.refl _, [], [], .other, .other, .other, rfl, ?_, upd_self .., rfl, nofun, Nat.zero_le _, ?_⟩, ?_, ?_, ?_⟩))
    · show upd (upd H dr _) st _ dr = _
      rw [upd_ne _ _ hne, upd_self]
    · exact (HLe.upd hdr0).trans (HLe.upd (gets_H hst))
    · rintro j P ⟨rs, ps, w5, w6, w7, _, h, _⟩; exact gets_of h
    · rintro j v' ⟨m, G⟩ hv ⟨rs, ps, w5, w6, w7, hm, hG1, hG2, hG3, hG4, hG5, hG6⟩ u hu
      obtain ⟨d, hd, rfl⟩ := map_int_get hv
      obtain rfl : m = _ := hm
      dsimp only at hG1 hG2 hG3 hG6
      have hlt := (List.getElem?_eq_some_iff.mp hd).1
      have b6 : ∀ z : Int, 0 ≤ z.fmod 6 ∧ z.fmod 6 < names.length := fun z => ⟨Int.fmod_nonneg_of_pos _ (by decide), by rw [h6]; exact Int.fmod_lt_of_pos _ (by decide)⟩
      have nmem : ∀ z : Int, 0 ≤ z → z < names.length → names.getD z.toNat 0 ∈ names := fun z h0 h1 => getD_mem (by lia)
      have hps : ps.length ≤ 8 := Nat.le_trans hG5 (by lia)
      have hrl : rs.length = ps.length := by simpa using congrArg List.length hG3
      refine J_asg 5 ?_
      rw [hu]
      refine JSS_cons (JS_set 6 (JE_BinOp (JE_N 5 (JE_int (J_mod ?_)))))
      refine JSS_cons (JS_set 7 (JE_BinOp (JE_BinOp (JE_N 5 (JE_int (J_fdiv (JE_int (J_mod ?_))))))))
      have nt : ∀ {t q : Addr} {o : AO}, G q = some o → gets c G t = none → t ≠ q := fun {t q o} e1 e2 z => by subst z; rw [gets_H e2] at e1; cases e1
      have bi : ∀ {x y : Int}, (0 ≤ x ∧ x < names.length) → (0 ≤ y ∧ y < names.length) → (0 ≤ (if y < x then y else x) ∧ (if y < x then y else x) < names.length) ∧ (0 ≤ (if y > x then y else x) ∧ (if y > x then y else x) < names.length) := fun h1 h2 => by
        constructor <;> split <;> first | exact h1 | exact h2
      have fin : ∀ (x y : Int) (t : Addr), x ∈ names → y ∈ names → gets c G t = none → t ≠ st → t ≠ dr → ∀ w6 w7 : AV,
          ∃ (rs' : List Addr) (ps' : List (Int × Int)) (v5 v6 v7 : AV), (⟨[.ref sc, .ref nm, .ref dr, v, .ref st, .int d, w6, w7], upd (upd G t (.list [.int x, .int y])) st (.list (rs.map .ref ++ [.ref t]))⟩ : PS).m = [.ref sc, .ref nm, .ref dr, v, .ref st, v5, v6, v7] ∧
          upd (upd G t (.list [.int x, .int y])) st (.list (rs.map .ref ++ [.ref t])) dr = some (.list (ds.map .int)) ∧ upd (upd G t (.list [.int x, .int y])) st (.list (rs.map .ref ++ [.ref t])) st = some (.list (rs'.map .ref)) ∧
          rs'.map (upd (upd G t (.list [.int x, .int y])) st (.list (rs.map .ref ++ [.ref t]))) = ps'.map (fun p => some (.list [.int p.1, .int p.2])) ∧ (∀ p ∈ ps', p.1 ∈ names ∧ p.2 ∈ names) ∧ ps'.length ≤ j + 1 ∧ HLe H (upd (upd G t (.list [.int x, .int y])) st (.list (rs.map .ref ++ [.ref t]))) := by
        intro x y t hx hy ht hts htd w6 w7
        have ht0 := gets_H ht
        have hnr : ∀ r ∈ rs, r ≠ t ∧ r ≠ st := fun r hr => by
          have : G r ∈ ps.map fun p => some (AO.list [.int p.1, .int p.2]) := hG3 ▸ List.mem_map_of_mem hr
          obtain ⟨p, _, e⟩ := List.mem_map.mp this
          refine ⟨fun q => ?_, fun q => ?_⟩
          · subst q; rw [ht0] at e; cases e
          · subst q; rw [hG2] at e
            injection Option.some.inj e with this
            have l := congrArg (·[0]?) this
            rcases rs with _ | ⟨r0, rr⟩
            · simp at l
            · simp at l
        refine ⟨rs ++ [t], ps ++ [(x, y)], .int d, w6, w7, rfl, ?_, ?_, ?_, ?_, by simp; lia, ?_⟩
        · rw [upd_ne _ _ hne, upd_ne _ _ htd.symm]; exact hG1
        · rw [upd_self, List.map_append]; rfl
        · rw [List.map_append, List.map_append]
          congr 1
          · rw [← hG3]
            refine List.map_congr_left fun r hr => ?_
            rw [upd_ne _ _ (hnr r hr).2, upd_ne _ _ (hnr r hr).1]
          · simp only [List.map_cons, List.map_nil]
            rw [upd_ne _ _ hts, upd_self]
        · intro p hp
          rcases List.mem_append.mp hp with q | q
          · exact hG4 p q
          · simp at q; subst q; exact ⟨hx, hy⟩
        · intro b o e
          rw [upd_ne _ _ (fun q => by subst q; rw [hst0'] at e; cases e), upd_ne _ _ (fun q => by subst q; rw [hG6 _ _ e] at ht0; cases ht0)]
          exact hG6 _ _ e
      refine JSS_cons (JS_If (JB_Compare (JE_BinOp (JE_BinOp (JE_N 5 (JE_int (J_fdiv (JE_int (J_mod (JE_int (J_eq ⟨_, rfl, fun hc => ?_, fun hc => ?_⟩))))))))))) 
      · refine JSS_cons (JS_Expr (JE_meth PySem.F.plainAttrs_list PySem.F.slot_list_append PySem.F.type_list_append (JE_N 4 ⟨st, _, rfl, gets_of hG2, rfl, JL_cons (JE_List (JL_cons (JE_item (JE_N 1 (JE_N 6 ⟨nm, _, _, _, rfl, rfl, gets_of (hG6 _ _ hn), item_at (b6 _).1 (b6 _).2 (by lia),
          JL_cons (JE_item (JE_N 1 (JE_N 7 ⟨nm, _, _, _, rfl, rfl, gets_of (hG6 _ _ hn), item_at (b6 _).1 (b6 _).2 (by lia), JL_nil ⟨by simp, fun t ht => JL_nil (J_append (H_keep ht hG2) (by simp; lia) ⟨nofun, ?_⟩)⟩⟩)))⟩)))))⟩)))
        refine JSS_nil (JSS_nil ?_)
        exact fin _ _ t (nmem _ (b6 _).1 (b6 _).2) (nmem _ (b6 _).1 (b6 _).2) ht (nt hG2 ht) (nt hG1 ht) _ _
      · refine JSS_cons (JS_If (JB_Compare (JE_N 6 (JE_N 7 (J_ne ⟨_, rfl, fun hc2 => ?_, fun hc2 => ?_⟩)))))
        · refine JSS_cons (JS_Expr (JE_meth PySem.F.plainAttrs_list PySem.F.slot_list_append PySem.F.type_list_append (JE_N 4 ⟨st, _, rfl, gets_of hG2, rfl, JL_cons (JE_List (JL_cons (JE_item (JE_N 1 (JE_builtin (nin_min _) boot_min (JL_cons (JE_N 6 (JL_cons (JE_N 7 (JL_nil (J_min ⟨nm, _, _, _, rfl, rfl, gets_of (hG6 _ _ hn), item_at (bi (b6 _) (b6 _)).1.1 (bi (b6 _) (b6 _)).1.2 (by lia),
            JL_cons (JE_item (JE_N 1 (JE_builtin (nin_max _) boot_max (JL_cons (JE_N 6 (JL_cons (JE_N 7 (JL_nil (J_max ⟨nm, _, _, _, rfl, rfl, gets_of (hG6 _ _ hn), item_at (bi (b6 _) (b6 _)).2.1 (bi (b6 _) (b6 _)).2.2 (by lia), JL_nil ⟨by simp, fun t ht => JL_nil (J_append (H_keep ht hG2) (by simp; lia) ⟨nofun, ?_⟩)⟩⟩)))))))))⟩)))))))))))⟩)))
          refine JSS_nil (JSS_nil (JSS_nil ?_))
          exact fin _ _ t (nmem _ (bi (b6 _) (b6 _)).1.1 (bi (b6 _) (b6 _)).1.2) (nmem _ (bi (b6 _) (b6 _)).2.1 (bi (b6 _) (b6 _)).2.2) ht (nt hG2 ht) (nt hG1 ht) _ _
        · exact JSS_nil (JSS_nil (JSS_nil ⟨rs, ps, .int d, _, _, rfl, hG1, hG2, hG3, hG4, by lia, hG6⟩))
    · rintro ⟨m, G⟩ ⟨rs, ps, w5, w6, w7, hm, hG1, hG2, hG3, hG4, hG5, hG6⟩
      obtain rfl : m = _ := hm
      exact JSS_nil (JSS_cons (JS_Return (JE_N 4 ⟨st, ps, rfl, ⟨rs, hG2, hG3⟩, hG4, by simp [hd8] at hG5; exact hG5, hG6⟩)))
end Mine
end

-- part D3
section
open PySem PySem.W PySem.Calls PyProof.Rows
set_option Elab.async false
set_option genSizeOf false
set_option genInjectivity false
set_option linter.unusedVariables false
set_option autoImplicit false
set_option maxRecDepth 100000
namespace Mine

/-! ### _law_least, as a function -/
noncomputable def needS (names : List Int) (nd : List Nat) (p : Int × Int) : List Nat := nd.set (names.idxOf p.2) (nd.getD (names.idxOf p.2) 0 ||| 2 ^ names.idxOf p.1)
noncomputable def needL (names : List Int) (ps : List (Int × Int)) : List Nat := ps.foldl (needS names) (List.replicate names.length 0)
noncomputable abbrev WS := List (Nat × List Int)
noncomputable def lookW (ws : WS) (m : Nat) : List Int := ((ws.find? fun p => decide (p.1 = m)).map (·.2)).getD []
noncomputable def putW (ws : WS) (m : Nat) (w : List Int) : WS := ws.map fun p => if p.1 = m then (p.1, w) else p
noncomputable def lstep (names : List Int) (need : List Nat) (had : Nat) (st : WS × List Nat) (k : Nat) : WS × List Nat :=
  if (had ||| 2 ^ k) ≠ had ∧ need.getD k 0 &&& had = need.getD k 0 then
    if (had ||| 2 ^ k) ∈ st.1.map (·.1) then
      if lexB (lookW st.1 had ++ [names.getD k 0]) (lookW st.1 (had ||| 2 ^ k)) then (putW st.1 (had ||| 2 ^ k) (lookW st.1 had ++ [names.getD k 0]), st.2) else st
    else (st.1 ++ [(had ||| 2 ^ k, lookW st.1 had ++ [names.getD k 0])], st.2 ++ [had ||| 2 ^ k])
  else st
noncomputable def lhad (names : List Int) (need : List Nat) (st : WS × List Nat) (had : Nat) : WS × List Nat := (List.range names.length).foldl (lstep names need had) st
noncomputable def llayer (names : List Int) (need : List Nat) (ws : WS) (layer : List Nat) : WS × List Nat := layer.foldl (lhad names need) (ws, [])
noncomputable def lrun (names : List Int) (need : List Nat) : Nat → WS → List Nat → List Nat → List Int
  | 0, ws, layer, grown => lookW ws (layer.headD 0)
  | f + 1, ws, layer, grown => match grown with
    | [] => lookW ws (layer.headD 0)
    | _ => lrun names need f (llayer names need ws grown).1 grown (llayer names need ws grown).2
noncomputable def leastL (names : List Int) (ps : List (Int × Int)) : List Int := lrun names (needL names ps) 200 [(0, [])] [0] [0]

theorem bitAnd_nat (a b : Nat) : Builtin.bitAnd (a : Int) (b : Int) = ((a &&& b : Nat) : Int) := by
  rw [bitAnd_pp (by lia) (by lia)]; rfl
theorem and_or_sum : ∀ (a b : Nat), (a ||| b) + (a &&& b) = a + b := by
  intro a
  induction a using Nat.strongRecOn with
  | _ a ih =>
    intro b
    by_cases h : a = 0
    · subst h; simp
    · have h1 := ih (a / 2) (by lia) (b / 2)
      have e1 : (a ||| b) = 2 * ((a / 2) ||| (b / 2)) + ((a % 2) ||| (b % 2)) := by
        have := Nat.or_div_two (a := a) (b := b); have := Nat.or_mod_two_pow (a := a) (b := b) (n := 1)
        simp only [Nat.pow_one] at this; lia
      have e2 : (a &&& b) = 2 * ((a / 2) &&& (b / 2)) + ((a % 2) &&& (b % 2)) := by
        have := Nat.and_div_two (a := a) (b := b); have := Nat.and_mod_two_pow (a := a) (b := b) (n := 1)
        simp only [Nat.pow_one] at this; lia
      have e3 : (a % 2 ||| b % 2) + (a % 2 &&& b % 2) = a % 2 + b % 2 := by
        rcases Nat.mod_two_eq_zero_or_one a with q | q <;> rcases Nat.mod_two_eq_zero_or_one b with r | r <;> rw [q, r] <;> rfl
      lia
theorem bitOr_nat (a b : Nat) : Builtin.bitOr (a : Int) (b : Int) = ((a ||| b : Nat) : Int) := by
  rw [bitOr_and, bitAnd_nat]
  have := and_or_sum a b
  lia

noncomputable def nats (l : List Nat) : List AV := l.map fun m => AV.int (m : Nat)
theorem nats_len (l : List Nat) : (nats l).length = l.length := List.length_map ..
theorem nats_item {l : List Nat} {k : Nat} (h : k < l.length) (hz : l.length < 1000) : itemAt (some (.list (nats l))) k = some (.int (l.getD k 0 : Nat)) := by
  refine idx_nat ?_ (by lia)
  unfold nats
  rw [List.getElem?_map, List.getD_eq_getElem?_getD, List.getElem?_eq_getElem h]; rfl
theorem needS_len (names : List Int) (nd : List Nat) (p : Int × Int) : (needS names nd p).length = nd.length := List.length_set ..
theorem needL_len (names : List Int) (ps : List (Int × Int)) : (needL names ps).length = names.length := by
  unfold needL
  have : ∀ (ps : List (Int × Int)) (nd : List Nat), (ps.foldl (needS names) nd).length = nd.length := by
    intro ps
    induction ps with
    | nil => intro nd; rfl
    | cons p r ih => intro nd; rw [List.foldl_cons, ih, needS_len]
  rw [this]; simp

/-- what stands while the words grow -/
structure LI (H G : AH) (nd wd la gr : Addr) (need : List Nat) (layer grown : List Nat) (tr : List (Nat × List Int × Addr)) : Prop where
  le : HLe H G
  hnd : H nd = none
  hwd : H wd = none
  hgr : H gr = none
  need : G nd = some (.list (nats need))
  words : ∃ ep, G wd = some (.dict (tr.map fun t => ((t.1 : Int), AV.ref t.2.2)) ep)
  layer : G la = some (.list (nats layer))
  grown : G gr = some (.list (nats grown))
  wl : ∀ t ∈ tr, G t.2.2 = some (.list (t.2.1.map .int)) ∧ t.2.2 ≠ gr
  keys : (tr.map (·.1)).Nodup
  lg : gr ≠ la
  gn : gr ≠ nd

noncomputable def wsOf (tr : List (Nat × List Int × Addr)) : WS := tr.map fun t => (t.1, t.2.1)

section
variable {H G : AH} {nd wd la gr : Addr} {need layer grown : List Nat} {tr : List (Nat × List Int × Addr)}

theorem ne_none {a b : Addr} {o : AO} (h1 : G a = some o) (h2 : G b = none) : a ≠ b := fun e => by subst e; rw [h1] at h2; cases h2

theorem LI.fresh (I : LI H G nd wd la gr need layer grown tr) {r : Addr} {o : AO} (h : G r = none) : LI H (upd G r o) nd wd la gr need layer grown tr := by
  obtain ⟨ep, hw⟩ := I.words
  refine ⟨I.le.step (I.le.none h), I.hnd, I.hwd, I.hgr, upd_off (ne_none I.need h) I.need, ⟨ep, upd_off (ne_none hw h) hw⟩, upd_off (ne_none I.layer h) I.layer, upd_off (ne_none I.grown h) I.grown, fun t ht => ⟨upd_off (ne_none (I.wl t ht).1 h) (I.wl t ht).1, (I.wl t ht).2⟩, I.keys, I.lg, I.gn⟩

theorem tr_look (hk : (tr.map (·.1)).Nodup) {m : Nat} (hm : m ∈ tr.map (·.1)) : ∃ w r, (m, w, r) ∈ tr ∧ lookW (wsOf tr) m = w ∧ (tr.map fun t => ((t.1 : Int), AV.ref t.2.2)).lookup (m : Int) = some (.ref r) := by
  induction tr with
  | nil => simp at hm
  | cons t rest ih =>
    obtain ⟨a, w, r⟩ := t
    simp only [List.map_cons, List.nodup_cons] at hk
    by_cases q : m = a
    · subst q
      refine ⟨w, r, by simp, by simp [lookW, wsOf], by simp⟩
    · have hm' : m ∈ rest.map (·.1) := by simp only [List.map_cons, List.mem_cons] at hm; exact hm.resolve_left q
      obtain ⟨w', r', h1, h2, h3⟩ := ih hk.2 hm'
      refine ⟨w', r', by simp [h1], ?_, ?_⟩
      · rw [← h2]; simp only [lookW, wsOf, List.map_cons, List.find?_cons, decide_eq_false (fun e => q (Eq.symm e) : ¬ a = m)]
      · rw [← h3]
        simp only [List.map_cons, List.lookup_cons]
        rw [beq_eq_false_iff_ne.mpr (fun e : (m : Int) = (a : Int) => q (by lia))]
theorem tr_none {m : Nat} (hm : m ∉ tr.map (·.1)) : (tr.map fun t => ((t.1 : Int), AV.ref t.2.2)).lookup (m : Int) = none := by
  refine lookup_none ?_
  intro h
  simp only [List.map_map, List.mem_map, Function.comp] at h
  obtain ⟨t, ht, e⟩ := h
  exact hm (List.mem_map.mpr ⟨t, ht, by lia⟩)
theorem wsOf_keys : (wsOf tr).map (·.1) = tr.map (·.1) := by unfold wsOf; rw [List.map_map]; rfl

/-- a new word -/
theorem LI.add (I : LI H G nd wd la gr need layer grown tr) {m : Nat} {w : List Int} {r : Addr} {ep : Nat} (hm : m ∉ tr.map (·.1)) (hr : G r = some (.list (w.map .int))) (hrg : r ≠ gr) :
    LI H (upd (upd G gr (.list (nats (grown ++ [m])))) wd (.dict (dset (tr.map fun t => ((t.1 : Int), AV.ref t.2.2)) (m : Int) (.ref r)) ep)) nd wd la gr need layer (grown ++ [m]) (tr ++ [(m, w, r)]) := by
  obtain ⟨ep0, hw⟩ := I.words
  have hg := I.grown
  have hm' : (m : Int) ∉ (tr.map fun t => ((t.1 : Int), AV.ref t.2.2)).map (·.1) := fun h => by
    simp only [List.map_map, List.mem_map, Function.comp] at h
    obtain ⟨t, ht, e⟩ := h
    exact hm (List.mem_map.mpr ⟨t, ht, by lia⟩)
  rw [dset_new hm']
  have kp : ∀ {a : Addr} {o : AO}, G a = some o → a ≠ gr → a ≠ wd → upd (upd G gr (.list (nats (grown ++ [m])))) wd (.dict (tr.map (fun t => ((t.1 : Int), AV.ref t.2.2)) ++ [((m : Int), AV.ref r)]) ep) a = some o := fun e n1 n2 => by rw [upd_ne _ _ n2, upd_ne _ _ n1]; exact e
  have nw : ∀ {a : Addr} {vs : List AV}, G a = some (.list vs) → a ≠ wd := fun e => ne_of e hw nofun
  refine ⟨fun a o e => ?_, I.hnd, I.hwd, I.hgr, kp I.need I.gn.symm (nw I.need), ⟨ep, by rw [upd_self, List.map_append]; rfl⟩, kp I.layer I.lg.symm (nw I.layer), ?_, fun t ht => ?_, ?_, I.lg, I.gn⟩
  · exact kp (I.le _ _ e) (fun q => by subst q; rw [I.hgr] at e; cases e) (fun q => by subst q; rw [I.hwd] at e; cases e)
  · rw [upd_ne _ _ (nw hg), upd_self]
  · rcases List.mem_append.mp ht with q | q
    · obtain ⟨z1, z2⟩ := I.wl t q
      exact ⟨kp z1 z2 (nw z1), z2⟩
    · simp at q; subst q; exact ⟨kp hr hrg (nw hr), hrg⟩
  · rw [List.map_append]
    exact List.nodup_append.mpr ⟨I.keys, by simp, fun a ha b hb => by simp at hb; subst hb; exact fun q => hm (q ▸ ha)⟩

/-- a better word -/
theorem LI.put (I : LI H G nd wd la gr need layer grown tr) {m : Nat} {w : List Int} {r : Addr} {ep : Nat} (hm : m ∈ tr.map (·.1)) (hr : G r = some (.list (w.map .int))) (hrg : r ≠ gr) :
    LI H (upd G wd (.dict (dset (tr.map fun t => ((t.1 : Int), AV.ref t.2.2)) (m : Int) (.ref r)) ep)) nd wd la gr need layer grown (tr.map fun t => if t.1 = m then (t.1, w, r) else t) := by
  obtain ⟨ep0, hw⟩ := I.words
  have hd : dset (tr.map fun t => ((t.1 : Int), AV.ref t.2.2)) (m : Int) (.ref r) = (tr.map fun t => if t.1 = m then (t.1, w, r) else t).map fun t => ((t.1 : Int), AV.ref t.2.2) := by
    unfold dset
    rw [if_pos]
    · rw [List.map_map, List.map_map]
      refine List.map_congr_left fun t _ => ?_
      simp only [Function.comp]
      by_cases q : t.1 = m
      · rw [if_pos (by lia), if_pos q]
      · rw [if_neg (by lia), if_neg q]
    · obtain ⟨t, ht, e⟩ := List.mem_map.mp hm
      rw [List.any_eq_true]
      exact ⟨_, List.mem_map_of_mem ht, by simp [e]⟩
  rw [hd]
  have nw : ∀ {a : Addr} {vs : List AV}, G a = some (.list vs) → a ≠ wd := fun e => ne_of e hw nofun
  refine ⟨fun a o e => ?_, I.hnd, I.hwd, I.hgr, upd_off (nw I.need) I.need, ⟨ep, upd_self ..⟩, upd_off (nw I.layer) I.layer, upd_off (nw I.grown) I.grown, fun t ht => ?_, ?_, I.lg, I.gn⟩
  · exact upd_off (fun q => by subst q; rw [I.hwd] at e; cases e) (I.le _ _ e)
  · obtain ⟨t0, h0, rfl⟩ := List.mem_map.mp ht
    split
    · exact ⟨upd_off (nw hr) hr, hrg⟩
    · exact ⟨upd_off (nw (I.wl t0 h0).1) (I.wl t0 h0).1, (I.wl t0 h0).2⟩
  · rw [List.map_map]
    have : ((fun t : Nat × List Int × Addr => t.1) ∘ fun t => if t.1 = m then (t.1, w, r) else t) = fun t => t.1 := by funext t; simp only [Function.comp]; split <;> rfl
    rw [this]; exact I.keys
end
end Mine
end

-- part D4
section
open PySem PySem.W PySem.Calls PyProof.Rows
set_option Elab.async false
set_option genSizeOf false
set_option genInjectivity false
set_option linter.unusedVariables false
set_option autoImplicit false
set_option maxRecDepth 100000
namespace Mine

structure LF (tr : List (Nat × List Int × Addr)) (layer grown : List Nat) (B : Nat) : Prop where
  lt : ∀ t ∈ tr, t.1 < 64 ∧ t.2.1.length ≤ t.1
  lk : ∀ m ∈ layer, m ∈ tr.map (·.1)
  gk : ∀ m ∈ grown, m ∈ tr.map (·.1)
  gl : grown.length + B = tr.length

theorem or_gt {a k : Nat} (h : (a ||| 2 ^ k) ≠ a) : a + 1 ≤ a ||| 2 ^ k := by
  have : a ≤ a ||| 2 ^ k := Nat.left_le_or
  lia
theorem or_lt64 {a k : Nat} (ha : a < 64) (hk : k < 6) : (a ||| 2 ^ k) < 64 := by
  have : 2 ^ k < 2 ^ 6 := Nat.pow_lt_pow_right (by decide) hk
  exact Nat.or_lt_two_pow (n := 6) ha this
theorem tr_len {tr : List (Nat × List Int × Addr)} (hk : (tr.map (·.1)).Nodup) (h : ∀ t ∈ tr, t.1 < 64) : tr.length ≤ 64 := by
  have := nodup_len (m := List.range 64) hk fun x hx => by
    obtain ⟨t, ht, rfl⟩ := List.mem_map.mp hx
    simpa using h t ht
  simpa using this

theorem least_ok {c : Cx} {n : Nat} {H : AH} {nm st : Addr} {names : List Int} {ps : List (Int × Int)} (hn : H nm = some (.list (names.map .int))) (h6 : names.length = 6) (hs : StepsAt H st ps) (hps : ∀ p ∈ ps, p.1 ∈ names ∧ p.2 ∈ names) :
    TC c (n + 1) (.ref 211) [.ref nm, .ref st] H fun v H' => ∃ r, v = .ref r ∧ H' r = some (.list ((leastL names ps).map .int)) ∧ HLe H H' := by
  let Q0 : AV → AH → Prop := fun v H' => ∃ r, v = .ref r ∧ H' r = some (.list ((leastL names ps).map .int)) ∧ HLe H H'
  show TC _ _ _ _ _ Q0
  refine TC_def [Str.ofString "names", Str.ofString "steps"] [Str.ofString "need", Str.ofString "ahead", Str.ofString "behind", Str.ofString "words", Str.ofString "layer", Str.ofString "grown", Str.ofString "had", Str.ofString "k", Str.ofString "now", Str.ofString "word"] rfl rfl rfl (by kernel_rfl) rfl rfl ?_ (by decide) (by decide) (by decide) rfl rfl rfl rfl ?_
  · intro vs hvs
    rcases vs with _ | ⟨v1, _ | ⟨v2, _ | _⟩⟩ <;> first | rfl | (simp at hvs)
  intro L
  refine JSS_cons (JS_set 2 (JE_BinOp (JE_List (JL_cons (JE_int (JL_nil ⟨by decide, fun t0 ht0 => JE_len (JE_N 0 ⟨nm, _, rfl, .inl (gets_of (H_keep ht0 hn)), by simp; lia, J_timesZ (gets_of (upd_self ..)) (by lia) (by simp; lia) fun nd hnd => ?_⟩)⟩))))))
  have e0 : List.replicate ((names.map AV.int).length : Int).toNat (AV.int 0) = nats (List.replicate names.length 0) := by simp [nats]
  rw [e0]
  have ht00 := gets_H ht0
  have hnd0 := gets_under hnd
  have hndH : H nd = none := gets_H hnd0.2
  obtain ⟨rs, hs1, hs2⟩ := hs
  have le1 : HLe H (upd H t0 (.list [.int 0])) := HLe.upd ht00
  let hI1 : PS → Prop := fun P => ∃ w3 w4, P = ⟨[.ref nm, .ref st, .ref nd, w3, w4, .other, .other, .other, .other, .other, .other, .other], upd (upd H t0 (.list [.int 0])) nd (.list (nats (needL names ps)))⟩
  refine JSS_seq (hI1) ?_ ?_
  · have hst : ∀ nl, upd (upd H t0 (.list [.int 0])) nd (.list (nats nl)) st = some (.list (rs.map .ref)) := fun nl => upd_off (ne_none (le1 _ _ hs1) (gets_H hnd)) (le1 _ _ hs1)
    have hnm : ∀ nl, upd (upd H t0 (.list [.int 0])) nd (.list (nats nl)) nm = some (.list (names.map .int)) := fun nl => upd_off (ne_none (le1 _ _ hn) (gets_H hnd)) (le1 _ _ hn)
    let hI5 : Nat → PS → Prop := fun j P => ∃ w3 w4, P = ⟨[.ref nm, .ref st, .ref nd, w3, w4, .other, .other, .other, .other, .other, .other, .other], upd (upd H t0 (.list [.int 0])) nd (.list (nats ((ps.take j).foldl (needS names) (List.replicate names.length 0))))⟩
    refine JS_ForList (JE_N 1 ⟨st, rs.map .ref, hI5, rfl,
      ⟨_, MLe.refl _, HLe.refl _, .other, .other, rfl⟩, ?_, ?_, ?_⟩)
    · rintro j _ ⟨w3, w4, rfl⟩; exact gets_of (hst _)
    · rintro j v _ hv ⟨w3, w4, rfl⟩ u hu
      obtain ⟨r, p, rfl, hr, hp, hrp⟩ := StepsAt.get hs2 hv
      have hln : ((ps.take j).foldl (needS names) (List.replicate names.length 0)).length = 6 := by rw [← h6]; exact needL_len names (ps.take j)
      have hgr : upd (upd H t0 (.list [.int 0])) nd (.list (nats ((ps.take j).foldl (needS names) (List.replicate names.length 0)))) r = some (.list [.int p.1, .int p.2]) := upd_off (ne_none (le1 _ _ hrp) (gets_H hnd)) (le1 _ _ hrp)
      have hpm := hps p (List.mem_of_getElem? hp)
      have hi2 : names.idxOf p.2 < 6 := by rw [← h6]; exact List.idxOf_lt_length_iff.mpr hpm.2
      have hi1 : names.idxOf p.1 < 6 := by rw [← h6]; exact List.idxOf_lt_length_iff.mpr hpm.1
      refine J_asgTwo (.inl (gets_of hgr)) (fun x y ex ey => J_asg 3 (J_asg 4 ?_)) rfl u hu
      rw [ex, ey]
      refine JSS_cons (JS_augItem (JE_N 2 (JE_meth PySem.F.plainAttrs_list PySem.F.slot_list_index PySem.F.type_list_index (JE_N 0 ⟨nm, _, rfl, gets_of (hnm _), rfl, JL_cons (JE_N 4 (JL_nil (J_index (gets_of (hnm _)) (by lia) hpm.2 fun vo vi eo ei => ?_)))⟩))))
      obtain rfl := abs_ref eo
      refine J_item ei (by rw [gets_of (upd_self ..)]; exact nats_item (by lia) (by lia)) ?_
      refine JE_BinOp (JE_int (JE_meth PySem.F.plainAttrs_list PySem.F.slot_list_index PySem.F.type_list_index (JE_N 0 ⟨nm, _, rfl, gets_of (hnm _), rfl, JL_cons (JE_N 3 (JL_nil (J_index (gets_of (hnm _)) (by lia) hpm.1 (J_shl1 (J_ior fun vn en => ?_) (by lia)))))⟩)))
      rw [bitOr_nat] at en
      refine J_setListZ (upd_self ..) ei (by lia) (by rw [nats_len]; lia) (by lia) ?_
      rw [en]
      refine JSS_nil ⟨.int p.1, .int p.2, ?_⟩
      show PS.mk _ (upd (upd _ nd _) nd _) = _
      rw [upd_upd, foldl_take_succ _ _ hp]
      unfold needS nats
      rw [List.map_set]; rfl
    · rintro _ ⟨w3, w4, rfl⟩
      refine JSS_nil ⟨rfl, w3, w4, ?_⟩
      have : rs.length = ps.length := by simpa using congrArg List.length hs2
      rw [List.take_of_length_le (by simp; lia)]; rfl
  · rintro _ ⟨w3, w4, rfl⟩
    generalize hneed : needL names ps = need
    have hnl : need.length = 6 := by rw [← hneed, needL_len]; exact h6
    have hG0 : HLe H (upd (upd H t0 (.list [.int 0])) nd (.list (nats need))) := le1.trans (HLe.upd (gets_H hnd))
    refine JSS_cons (JS_set 5 (JE_dict1 fun wd hwd => JE_int (JE_List (JL_nil ⟨by decide, fun e0 he0 => ⟨0, rfl, H_keep he0 (upd_self ..), fun ep' => ?_⟩⟩))))
    refine JSS_cons (JS_set 6 (JE_List (JL_cons (JE_int (JL_nil ⟨by decide, fun la hla => ?_⟩)))))
    refine JSS_cons (JS_set 7 (JE_List (JL_cons (JE_int (JL_nil ⟨by decide, fun gr hgr => ?_⟩)))))
    have z1 := gets_under he0
    have z2 := gets_under hla
    have z3 := gets_under z2.2
    have z4 := gets_under z3.2
    have z5 := gets_under hgr
    have z6 := gets_under z5.2
    have z7 := gets_under z6.2
    have z8 := gets_under z7.2
    have I0 : LI H (upd (upd (upd (upd (upd (upd (upd H t0 (.list [.int 0])) nd (.list (nats need))) wd (.dict [] 0)) e0 (.list [])) wd (.dict [(0, .ref e0)] ep')) la (.list [.int 0])) gr (.list [.int 0])) nd wd la gr need [0] [0] [(0, [], e0)] := by
      refine ⟨?_, hndH, hG0.none (gets_H hwd), hG0.none (gets_H z8.2), ?_, ⟨ep', ?_⟩, ?_, upd_self .., ?_, by simp, z5.1, ?_⟩
      · exact (((hG0.step (hG0.none (gets_H hwd))).step (hG0.none (gets_H z1.2))).step (hG0.none (gets_H hwd))).step (hG0.none (gets_H z4.2)) |>.step (hG0.none (gets_H z8.2))
      · rw [upd_ne _ _ (gets_under (gets_under z8.2).2 |>.1 |> fun q => (gets_under z8.2).1.symm), upd_ne _ _ (gets_under z4.2).1.symm, upd_ne _ _ (gets_under hwd).1.symm, upd_ne _ _ (gets_under z1.2).1.symm, upd_ne _ _ (gets_under hwd).1.symm, upd_self]
      · rw [upd_ne _ _ z6.1.symm, upd_ne _ _ z2.1.symm, upd_self]; rfl
      · rw [upd_ne _ _ z5.1.symm, upd_self]; rfl
      · intro t ht
        simp at ht; subst ht
        refine ⟨?_, z7.1.symm⟩
        show upd _ gr _ e0 = _
        rw [upd_ne _ _ z7.1.symm, upd_ne _ _ z3.1.symm, upd_ne _ _ z1.1, upd_self]; rfl
      · exact (gets_under z8.2).1
    let hI4 : AF → PS → Prop := fun f P1 => f = .next ∧ ∃ (la gr : Addr) (layer : List Nat) (tr : List (Nat × List Int × Addr)) (w8 w9 w10 w11 : AV), P1.m = [.ref nm, .ref st, .ref nd, w3, w4, .ref wd, .ref la, .ref gr, w8, w9, w10, w11] ∧
          LI H P1.H nd wd la gr need layer [] tr ∧ layer ≠ [] ∧ (∀ m ∈ layer, m ∈ tr.map (·.1)) ∧ layer.length < 1000 ∧ lookW (wsOf tr) (layer.headD 0) = leastL names ps
    refine JSS_cons (J.mono (Q := hI4) ?_ ?_)
    · let hI2 : Nat → PS → Prop := fun q P => ∃ (la gr : Addr) (layer grown : List Nat) (tr : List (Nat × List Int × Addr)) (B : Nat) (w8 w9 w10 w11 : AV), P.m = [.ref nm, .ref st, .ref nd, w3, w4, .ref wd, .ref la, .ref gr, w8, w9, w10, w11] ∧
            LI H P.H nd wd la gr need layer grown tr ∧ LF tr layer grown B ∧ layer ≠ [] ∧ layer.length < 1000 ∧ 2 * (64 - tr.length) + (if grown = [] then 0 else 1) ≤ q ∧ lrun names need (q + 1) (wsOf tr) layer grown = leastL names ps
      refine JS_While (hI2) ?_ 199
        ⟨la, gr, [0], [0], [(0, [], e0)], 0, .other, .other, .other, .other, rfl, I0, ⟨?_, ?_, ?_, rfl⟩, by simp, by simp, by simp, by unfold leastL; rw [hneed]; rfl⟩
      · rintro q ⟨m, G⟩ ⟨la, gr, layer, grown, tr, B, w8, w9, w10, w11, hm, I1, F1, hne, hll, hq, hrun⟩
        obtain rfl : m = _ := hm
        dsimp only at I1
        have htl := tr_len I1.keys fun t ht => (F1.lt t ht).1
        have hgl : grown.length ≤ 64 := by have := F1.gl; lia
        refine JB_value (JE_N 7 (J_truthList (gets_of I1.grown) (by rw [nats_len]; lia) ⟨fun hg => ?_, fun hg => ?_⟩))
        · have hgn : grown ≠ [] := fun z => by subst z; simp [nats] at hg
          rw [if_neg hgn] at hq
          refine JSS_cons (JS_set 6 (JE_N 7 ?_))
          refine JSS_cons (JS_set 7 (JE_List (JL_nil ⟨by decide, fun g2 hg2 => ?_⟩)))
          have I2 : LI H (upd G g2 (.list [])) nd wd gr g2 need grown [] tr := by
            have J1 := I1.fresh (o := .list []) (gets_H hg2)
            exact ⟨J1.le, J1.hnd, J1.hwd, I1.le.none (gets_H hg2), J1.need, J1.words, J1.grown, upd_self .., fun t ht => ⟨(J1.wl t ht).1, ne_none (I1.wl t ht).1 (gets_H hg2)⟩, J1.keys, (ne_none I1.grown (gets_H hg2)).symm, (ne_none I1.need (gets_H hg2)).symm⟩
          let hI6 : Nat → PS → Prop := fun j P => ∃ (grown' : List Nat) (tr' : List (Nat × List Int × Addr)) (w8 w9 w10 w11 : AV), P.m = [.ref nm, .ref st, .ref nd, w3, w4, .ref wd, .ref gr, .ref g2, w8, w9, w10, w11] ∧
                LI H P.H nd wd gr g2 need grown grown' tr' ∧ LF tr' grown grown' tr.length ∧ (wsOf tr', grown') = (grown.take j).foldl (lhad names need) (wsOf tr, [])
          refine JSS_cons (JS_ForList (JE_N 6 ⟨gr, nats grown, hI6, rfl, ⟨_, MLe.refl _, HLe.refl _, [], tr, w8, w9, w10, w11, rfl, I2, ⟨F1.lt, F1.gk, nofun, by simp⟩, rfl⟩, ?_, ?_, ?_⟩))
          · rintro j P ⟨grown', tr', w8, w9, w10, w11, _, I3, _⟩; exact gets_of I3.layer
          · rintro j v ⟨m, G⟩ hv ⟨grown', tr', w8, w9, w10, w11, hm, I3, F3, hf3⟩ u hu
            obtain rfl : m = _ := hm
            dsimp only at I3
            unfold nats at hv
            rw [List.getElem?_map] at hv
            obtain ⟨had, hhad, rfl⟩ := Option.map_eq_some_iff.mp hv
            refine J_asg 8 ?_
            rw [hu]
            let hI3 : Nat → PS → Prop := fun k P => ∃ (grown' : List Nat) (tr' : List (Nat × List Int × Addr)) (w9 w10 w11 : AV), P.m = [.ref nm, .ref st, .ref nd, w3, w4, .ref wd, .ref gr, .ref g2, .int (had : Nat), w9, w10, w11] ∧
                  LI H P.H nd wd gr g2 need grown grown' tr' ∧ LF tr' grown grown' tr.length ∧ (wsOf tr', grown') = (List.range k).foldl (lstep names need had) ((grown.take j).foldl (lhad names need) (wsOf tr, []))
            refine JSS_cons (JS_ForRange (hI3) names.length (by lia)
              (JE_len (JE_N 0 ⟨nm, _, rfl, .inl (gets_of (I3.le _ _ hn)), by simp; lia, by simp, grown', tr', w9, w10, w11, rfl, I3, F3, hf3⟩)) ?_ ?_)
            · rintro k ⟨m, G⟩ hk ⟨grown', tr', w9, w10, w11, hm, I4, F4, hf4⟩ u hu
              obtain rfl : m = _ := hm
              dsimp only at I4
              have hhk : had ∈ tr'.map (·.1) := F4.lk had (List.mem_of_getElem? hhad)
              obtain ⟨w, r, hr1, hr2, hr3⟩ := tr_look I4.keys hhk
              obtain ⟨ep4, hw4⟩ := I4.words
              have hlt4 : had < 64 ∧ w.length ≤ had := F4.lt _ hr1
              have htl4 := tr_len I4.keys fun t ht => (F4.lt t ht).1
              have hst : (List.range (k + 1)).foldl (lstep names need had) ((grown.take j).foldl (lhad names need) (wsOf tr, [])) = lstep names need had (wsOf tr', grown') k := by
                rw [List.range_succ, List.foldl_append, ← hf4]; rfl
              have hkk : had ∈ (wsOf tr').map (·.1) := by rw [wsOf_keys]; exact hhk
              refine J_asg 9 ?_
              rw [hu]
              refine JSS_cons (JS_set 10 (JE_BinOp (JE_N 8 (JE_BinOp (JE_int (JE_N 9 (J_shl1 (b := k) (J_or ?_) (by lia))))))))
              rw [bitOr_nat]
              refine JSS_cons (JS_If (JB_And (JB_Compare (JE_N 10 (JE_N 8 (J_ne ⟨_, rfl, fun hc1 => ?_, fun hc1 => ?_⟩))))))
              · have hc1' : (had ||| 2 ^ k) ≠ had := fun z => by rw [z] at hc1; simp at hc1
                refine JB_Compare (JE_BinOp (JE_item (JE_N 2 (JE_N 9 ⟨nd, _, _, _, rfl, rfl, gets_of I4.need, nats_item (l := need) (k := k) (by lia) (by lia), JE_N 8 (J_and (JE_item (JE_N 2 (JE_N 9 ⟨nd, _, _, _, rfl, rfl, gets_of I4.need, nats_item (l := need) (k := k) (by lia) (by lia), J_eq ⟨_, rfl, fun hc2 => ?_, fun hc2 => ?_⟩⟩))))⟩))))
                · rw [bitAnd_nat] at hc2
                  have hc2' : need.getD k 0 &&& had = need.getD k 0 := by have := beq_iff_eq.mp hc2; lia
                  refine JSS_cons (JS_set 11 (JE_BinOp (JE_item (JE_N 5 (JE_N 8 ⟨wd, _, _, .ref r, rfl, rfl, gets_of hw4, hr3, JE_List (JL_cons (JE_item (JE_N 0 (JE_N 9 ⟨nm, _, _, _, rfl, rfl, gets_of (I4.le _ _ hn), item_map hk (by lia), JL_nil ⟨by simp, fun t1 ht1 => ?_⟩⟩))))⟩)))))
                  refine J_concat (gets_of (H_keep ht1 (I4.wl _ hr1).1)) (gets_of (upd_self ..)) (by simp; lia) fun wr hwr => ?_
                  have I5 := (I4.fresh (o := .list [.int (names.getD k 0)]) (gets_H ht1)).fresh (o := .list (w.map .int ++ [.int (names.getD k 0)])) (gets_H hwr)
                  have hwg : wr ≠ g2 := (ne_none (I4.fresh (o := .list [.int (names.getD k 0)]) (gets_H ht1)).grown (gets_H hwr)).symm
                  obtain ⟨ep5, hw5⟩ := I5.words
                  have eW : w.map AV.int ++ [AV.int (names.getD k 0)] = (w ++ [names.getD k 0]).map .int := by simp
                  rw [eW] at I5 hw5 ⊢
                  have hwr5 : upd (upd G t1 (.list [.int (names.getD k 0)])) wr (.list ((w ++ [names.getD k 0]).map .int)) wr = some (.list ((w ++ [names.getD k 0]).map .int)) := upd_self ..
                  have hl5 : (w ++ [names.getD k 0]).length ≤ had ||| 2 ^ k := by have := or_gt hc1'; simp; lia
                  have hlt5 : (had ||| 2 ^ k) < 64 := or_lt64 hlt4.1 (by lia)
                  by_cases hin : (had ||| 2 ^ k) ∈ tr'.map (·.1)
                  · obtain ⟨wo, ro, ho1, ho2, ho3⟩ := tr_look I4.keys hin
                    refine JSS_cons (JS_If (JB_Compare (JE_N 10 (JE_N 5 (J_notInDict (gets_of hw5) ⟨_, rfl, fun hz => ?_, fun hz => ?_⟩)))))
                    · rw [ho3] at hz; cases hz
                    · have hro := (I5.wl _ ho1).1
                      refine JSS_cons (JS_If (JB_Compare (JE_N 11 (JE_item (JE_N 5 (JE_N 10 ⟨wd, _, _, .ref ro, rfl, rfl, gets_of hw5, ho3, J_ltList (gets_of hwr5) (gets_of hro) ⟨_, rfl, fun hx => ?_, fun hx => ?_⟩⟩))))))
                      · refine JSS_cons (JS_setItem (JE_N 11 (JE_N 5 (JE_N 10 (J_setDict hw5 (by simp; lia) fun ep6 => ?_)))))
                        have I6 := I5.put (ep := ep6) hin hwr5 hwg
                        refine JSS_nil (JSS_nil (JSS_nil (JSS_nil ⟨grown', _, _, _, _, rfl, I6, ⟨fun t ht => ?_, fun m hm => ?_, fun m hm => ?_, by simpa using F4.gl⟩, ?_⟩)))
                        · obtain ⟨t0, h0, rfl⟩ := List.mem_map.mp ht
                          by_cases z : t0.1 = had ||| 2 ^ k
                          · rw [if_pos z, z]; exact ⟨hlt5, hl5⟩
                          · rw [if_neg z]; exact F4.lt t0 h0
                        · rw [show (tr'.map fun t => if t.1 = had ||| 2 ^ k then (t.1, w ++ [names.getD k 0], wr) else t).map (·.1) = tr'.map (·.1) by rw [List.map_map]; refine List.map_congr_left fun t _ => ?_; simp only [Function.comp]; split <;> rfl]
                          exact F4.lk m hm
                        · rw [show (tr'.map fun t => if t.1 = had ||| 2 ^ k then (t.1, w ++ [names.getD k 0], wr) else t).map (·.1) = tr'.map (·.1) by rw [List.map_map]; refine List.map_congr_left fun t _ => ?_; simp only [Function.comp]; split <;> rfl]
                          exact F4.gk m hm
                        · rw [hst]
                          unfold lstep
                          rw [if_pos ⟨hc1', hc2'⟩, if_pos (by rw [wsOf_keys]; exact hin), hr2, ho2, if_pos hx]
                          congr 1
                          unfold putW wsOf
                          rw [List.map_map, List.map_map]
                          refine List.map_congr_left fun t _ => ?_
                          simp only [Function.comp]; split <;> rfl
                      · refine JSS_nil (JSS_nil (JSS_nil (JSS_nil ⟨grown', tr', _, _, _, rfl, I5, F4, ?_⟩)))
                        rw [hst]
                        unfold lstep
                        rw [if_pos ⟨hc1', hc2'⟩, if_pos (by rw [wsOf_keys]; exact hin), hr2, ho2, if_neg (by rw [hx]; nofun)]
                  · refine JSS_cons (JS_If (JB_Compare (JE_N 10 (JE_N 5 (J_notInDict (gets_of hw5) ⟨_, rfl, fun hz => ?_, fun hz => ?_⟩)))))
                    · refine JSS_cons (JS_Expr (JE_meth PySem.F.plainAttrs_list PySem.F.slot_list_append PySem.F.type_list_append (JE_N 7 ⟨g2, _, rfl, gets_of I5.grown, rfl, JL_cons (JE_N 10 (JL_nil (J_append I5.grown (by rw [nats_len]; have := F4.gl; lia) ⟨nofun, ?_⟩)))⟩)))
                      have eG : nats grown' ++ [AV.int ((had ||| 2 ^ k : Nat) : Int)] = nats (grown' ++ [had ||| 2 ^ k]) := by simp [nats]
                      rw [eG]
                      refine JSS_cons (JS_setItem (JE_N 11 (JE_N 5 (JE_N 10 (J_setDict (es := tr'.map fun t => ((t.1 : Int), AV.ref t.2.2)) (ep := ep5) (upd_off (ne_of hw5 I5.grown nofun) hw5) (by simp; lia) fun ep6 => ?_)))))
                      have I6 := I5.add (ep := ep6) hin hwr5 hwg
                      refine JSS_nil (JSS_nil (JSS_nil ⟨grown' ++ [had ||| 2 ^ k], _, _, _, _, rfl, I6, ⟨fun t ht => ?_, fun m hm => ?_, fun m hm => ?_, by have := F4.gl; simp; lia⟩, ?_⟩))
                      · rcases List.mem_append.mp ht with z | z
                        · exact F4.lt t z
                        · simp at z; subst z; exact ⟨hlt5, hl5⟩
                      · rw [List.map_append]; exact List.mem_append_left _ (F4.lk m hm)
                      · rw [List.map_append]
                        rcases List.mem_append.mp hm with z | z
                        · exact List.mem_append_left _ (F4.gk m z)
                        · simp at z; subst z; simp
                      · rw [hst]
                        unfold lstep
                        rw [if_pos ⟨hc1', hc2'⟩, if_neg (by rw [wsOf_keys]; exact hin), hr2]
                        simp [wsOf]
                    · rw [tr_none hin] at hz; cases hz
                · rw [bitAnd_nat] at hc2
                  have hc2' : ¬ need.getD k 0 &&& had = need.getD k 0 := fun z => by rw [z] at hc2; simp at hc2
                  refine JSS_nil (JSS_nil ⟨grown', tr', _, _, _, rfl, I4, F4, ?_⟩)
                  rw [hst]; unfold lstep; rw [if_neg fun z => hc2' z.2]
              · have hc1' : (had ||| 2 ^ k) = had := by
                  have := hc1; simp at this; lia
                refine ⟨nofun, fun _ => JSS_nil (JSS_nil ⟨grown', tr', _, _, _, rfl, I4, F4, ?_⟩)⟩
                rw [hst]; unfold lstep; rw [if_neg fun z => z.1 hc1']
            · rintro ⟨m, G⟩ ⟨grown', tr', w9, w10, w11, hm, I4, F4, hf4⟩
              obtain rfl : m = _ := hm
              refine JSS_nil (JSS_nil ⟨grown', tr', _, _, _, _, rfl, I4, F4, ?_⟩)
              rw [hf4, foldl_take_succ _ _ hhad]; rfl
          · rintro ⟨m, G⟩ ⟨grown', tr', w8, w9, w10, w11, hm, I3, F3, hf3⟩
            obtain rfl : m = _ := hm
            rw [nats_len, List.take_length] at hf3
            have e1 : (llayer names need (wsOf tr) grown).1 = wsOf tr' := congrArg Prod.fst hf3.symm
            have e2 : (llayer names need (wsOf tr) grown).2 = grown' := congrArg Prod.snd hf3.symm
            have htl3 := tr_len I3.keys fun t ht => (F3.lt t ht).1
            have hgl3 := F3.gl
            refine JSS_nil (JSS_nil ⟨q - 1, by lia, gr, g2, grown, grown', tr', tr.length, w8, w9, w10, w11, rfl, I3, F3, hgn, by lia, ?_, ?_⟩)
            · by_cases z : grown' = []
              · subst z; simp at hgl3; rw [if_pos rfl]; lia
              · rw [if_neg z]
                have : 0 < grown'.length := List.length_pos_iff.mpr z
                lia
            · rw [show q - 1 + 1 = q by lia, ← hrun]
              conv => rhs; unfold lrun
              rw [e1, e2]
              cases grown with
              | nil => exact absurd rfl hgn
              | cons a r => rfl
        · have hgn : grown = [] := by cases grown with
            | nil => rfl
            | cons a r => simp [nats] at hg
          subst hgn
          refine JSS_nil ⟨rfl, la, gr, layer, tr, w8, w9, w10, w11, rfl, I1, hne, F1.lk, hll, ?_⟩
          rw [← hrun]; rfl
      · intro t ht; simp at ht; subst ht; exact ⟨(by decide : 0 < 64), Nat.le_refl 0⟩
      · intro m hm; simp at hm; subst hm; simp
      · intro m hm; simp at hm; subst hm; simp
    · rintro _ ⟨m, G⟩ ⟨rfl, la, gr, layer, tr, w8, w9, w10, w11, hm, I1, hne, hlk, hll, hlook⟩
      obtain rfl : m = _ := hm
      dsimp only at I1
      obtain ⟨ep1, hw1⟩ := I1.words
      cases layer with
      | nil => exact absurd rfl hne
      | cons m0 rest =>
        obtain ⟨w, r, hr1, hr2, hr3⟩ := tr_look I1.keys (hlk m0 (by simp))
        refine JSS_cons (JS_Return (JE_item (JE_N 5 (JE_item (JE_N 6 (JE_int ⟨la, 0, _, .int (m0 : Nat), rfl, rfl, gets_of I1.layer, rfl, wd, _, _, .ref r, rfl, rfl, gets_of hw1, hr3, r, rfl, ?_, I1.le⟩))))))
        rw [← hlook]
        show G r = some (.list ((lookW (wsOf tr) m0).map .int))
        rw [hr2]; exact (I1.wl _ hr1).1
end Mine
end

-- part D5
section
open PySem PySem.W PySem.Calls PyProof.Rows
set_option Elab.async false
set_option genSizeOf false
set_option genInjectivity false
set_option linter.unusedVariables false
set_option autoImplicit false
set_option maxRecDepth 100000
namespace Mine

noncomputable def RowsH (H : AH) (a : Addr) (rows : List (List Int)) : Prop := ∃ rs qs : List Addr, H a = some (.list (rs.map .ref)) ∧ rs.map H = qs.map (fun q => some (.list [.bool true, .ref q])) ∧ qs.map H = rows.map fun l => some (.list (l.map .int))
theorem map_le {H H' : AH} (l : HLe H H') {rs : List Addr} {α : Type} {xs : List α} {f : α → AO} (h : rs.map H = xs.map fun x => some (f x)) : rs.map H' = xs.map fun x => some (f x) := by
  rw [← h]
  refine List.map_congr_left fun r hr => ?_
  have : H r ∈ xs.map fun x => some (f x) := h ▸ List.mem_map_of_mem hr
  obtain ⟨x, _, e⟩ := List.mem_map.mp this
  rw [← e, l _ _ e.symm]
theorem map_gets {c : Cx} {H : AH} {rs : List Addr} {α : Type} {xs : List α} {f : α → AO} (h : rs.map H = xs.map fun x => some (f x)) : rs.map (gets c H) = xs.map fun x => some (f x) := by
  rw [← h]
  refine List.map_congr_left fun r hr => ?_
  have : H r ∈ xs.map fun x => some (f x) := h ▸ List.mem_map_of_mem hr
  obtain ⟨x, _, e⟩ := List.mem_map.mp this
  rw [← e]; exact gets_of e.symm
theorem RowsH.le {H H' : AH} {a : Addr} {rows : List (List Int)} (h : RowsH H a rows) (l : HLe H H') : RowsH H' a rows := by
  obtain ⟨rs, qs, h1, h2, h3⟩ := h
  exact ⟨rs, qs, l _ _ h1, map_le l h2, map_le l h3⟩
theorem RowsH.at {c : Cx} {H : AH} {a : Addr} {rows : List (List Int)} (h : RowsH H a rows) : RowsAt c H a rows := by
  obtain ⟨rs, qs, h1, h2, h3⟩ := h
  exact ⟨rs, qs, gets_of h1, map_gets h2, map_gets h3⟩

noncomputable def leftL (names order : List Int) (i : Nat) : List Int := names.filter fun n => !decide (n ∈ order.take i)
noncomputable def blockL (ps : List (Int × Int)) (left : List Int) (n : Int) : List (Int × Int) := ps.filter fun s => decide (s.2 = n) && decide (s.1 ∈ left)
noncomputable def freeL (ps : List (Int × Int)) (left : List Int) : List Int := left.filter fun n => (blockL ps left n).isEmpty

theorem filter_take_succ {α : Type} (p : α → Bool) {l : List α} {k : Nat} {x : α} (h : l[k]? = some x) : (l.take (k + 1)).filter p = (l.take k).filter p ++ if p x then [x] else [] := by
  rw [List.take_add_one, h, List.filter_append]
  congr 1
  simp [List.filter_cons]

/-- what stands while the rows are told -/
structure WI (H G : AH) (st od aS aO aI aL rw : Addr) (wi wl : Option AV) (rs qs : List Addr) (rows : List (List Int)) : Prop where
  le : HLe H G
  hI : H aI = none
  hL : H aL = none
  hrw : H rw = none
  cS : G aS = some (.cell (some (.ref st)))
  cO : G aO = some (.cell (some (.ref od)))
  cI : G aI = some (.cell wi)
  cL : G aL = some (.cell wl)
  nSI : aS ≠ aI
  nSL : aS ≠ aL
  nOI : aO ≠ aI
  nOL : aO ≠ aL
  nIL : aI ≠ aL
  hro : G rw = some (.list (rs.map .ref))
  r1 : rs.map G = qs.map (fun q => some (.list [.bool true, .ref q]))
  r2 : qs.map G = rows.map fun l => some (.list (l.map .int))
  nr : ∀ r ∈ rs, r ≠ rw
  nq : ∀ q ∈ qs, q ≠ rw

section
variable {H G : AH} {st od aS aO aI aL rw : Addr} {wi wl : Option AV} {rs qs : List Addr} {rows : List (List Int)}
theorem WI.of (I : WI H G st od aS aO aI aL rw wi wl rs qs rows) {G' : AH} (l : HLe G G') : WI H G' st od aS aO aI aL rw wi wl rs qs rows :=
  ⟨I.le.trans l, I.hI, I.hL, I.hrw, l _ _ I.cS, l _ _ I.cO, l _ _ I.cI, l _ _ I.cL, I.nSI, I.nSL, I.nOI, I.nOL, I.nIL, l _ _ I.hro, map_le l I.r1, map_le l I.r2, I.nr, I.nq⟩
theorem map_off {α : Type} {xs : List α} {f : α → AO} {a : Addr} {o : AO} (h : rs.map G = xs.map fun x => some (f x)) (n : ∀ r ∈ rs, r ≠ a) : rs.map (upd G a o) = xs.map fun x => some (f x) := by
  rw [← h]
  exact List.map_congr_left fun r hr => upd_ne _ _ (n r hr)
theorem map_ne {α : Type} {xs : List α} {f : α → AO} (h : rs.map G = xs.map fun x => some (f x)) {a : Addr} {o : AO} (e : G a = some o) (n : ∀ x, f x ≠ o) : ∀ r ∈ rs, r ≠ a := fun r hr q => by
  subst q
  have : G r ∈ xs.map fun x => some (f x) := h ▸ List.mem_map_of_mem hr
  obtain ⟨x, _, z⟩ := List.mem_map.mp this
  rw [e] at z
  exact n x (Option.some.inj z)
theorem WI.setI (I : WI H G st od aS aO aI aL rw wi wl rs qs rows) (v : AV) : WI H (upd G aI (.cell (some v))) st od aS aO aI aL rw (some v) wl rs qs rows :=
  ⟨I.le.step I.hI, I.hI, I.hL, I.hrw, upd_off I.nSI I.cS, upd_off I.nOI I.cO, upd_self .., upd_off I.nIL.symm I.cL, I.nSI, I.nSL, I.nOI, I.nOL, I.nIL, upd_at I.cI I.hro nofun, map_off I.r1 (map_ne I.r1 I.cI fun _ => nofun), map_off I.r2 (map_ne I.r2 I.cI fun _ => nofun), I.nr, I.nq⟩
theorem WI.setL (I : WI H G st od aS aO aI aL rw wi wl rs qs rows) (v : AV) : WI H (upd G aL (.cell (some v))) st od aS aO aI aL rw wi (some v) rs qs rows :=
  ⟨I.le.step I.hL, I.hI, I.hL, I.hrw, upd_off I.nSL I.cS, upd_off I.nOL I.cO, upd_off I.nIL I.cI, upd_self .., I.nSI, I.nSL, I.nOI, I.nOL, I.nIL, upd_at I.cL I.hro nofun, map_off I.r1 (map_ne I.r1 I.cL fun _ => nofun), map_off I.r2 (map_ne I.r2 I.cL fun _ => nofun), I.nr, I.nq⟩
theorem WI.push (I : WI H G st od aS aO aI aL rw wi wl rs qs rows) {r q : Addr} {l : List Int} (hr : G r = some (.list [.bool true, .ref q])) (hq : G q = some (.list (l.map .int))) (nr : r ≠ rw) (nq : q ≠ rw) :
    WI H (upd G rw (.list (rs.map .ref ++ [.ref r]))) st od aS aO aI aL rw wi wl (rs ++ [r]) (qs ++ [q]) (rows ++ [l]) := by
  refine ⟨I.le.step I.hrw, I.hI, I.hL, I.hrw, upd_at I.hro I.cS nofun, upd_at I.hro I.cO nofun, upd_at I.hro I.cI nofun, upd_at I.hro I.cL nofun, I.nSI, I.nSL, I.nOI, I.nOL, I.nIL, ?_, ?_, ?_, ?_, ?_⟩
  · rw [upd_self, List.map_append]; rfl
  · rw [List.map_append, List.map_append, map_off I.r1 I.nr]
    congr 1
    simp only [List.map_cons, List.map_nil]
    rw [upd_ne _ _ nr, hr]
  · rw [List.map_append, List.map_append, map_off I.r2 I.nq]
    congr 1
    simp only [List.map_cons, List.map_nil]
    rw [upd_ne _ _ nq, hq]
  · intro x hx
    rcases List.mem_append.mp hx with z | z
    · exact I.nr x z
    · simp at z; subst z; exact nr
  · intro x hx
    rcases List.mem_append.mp hx with z | z
    · exact I.nq x z
    · simp at z; subst z; exact nq
end

theorem waiting_ok {c : Cx} {n : Nat} {H : AH} {nm st od : Addr} {names order : List Int} {ps : List (Int × Int)} (hn : H nm = some (.list (names.map .int))) (h6 : names.length = 6) (hs : StepsAt H st ps) (ho : H od = some (.list (order.map .int))) (ho6 : order.length ≤ 6) (hp8 : ps.length ≤ 8) :
    TC c (n + 1) (.ref 216) [.ref nm, .ref st, .ref od] H fun v H' => ∃ r rows, v = .ref r ∧ RowsH H' r rows ∧ HLe H H' ∧ rows.length = order.length ∧ ∀ (i : Nat) row, rows[i]? = some row → row.Perm (freeL ps (leftL names order i)) ∧ row.Pairwise (· ≤ ·) := by
  let Q0 : AV → AH → Prop := fun v H' => ∃ r rows, v = .ref r ∧ RowsH H' r rows ∧ HLe H H' ∧ rows.length = order.length ∧ ∀ (i : Nat) row, rows[i]? = some row → row.Perm (freeL ps (leftL names order i)) ∧ row.Pairwise (· ≤ ·)
  show TC _ _ _ _ _ Q0
  refine TC_cells [Str.ofString "names", Str.ofString "steps", Str.ofString "order"] [Str.ofString "names", Str.ofString "rows"] [] [some (.ref st), some (.ref od), none, none] [.ref nm, .other] rfl rfl rfl (by kernel_rfl) rfl rfl rfl ?_ ?_ (by decide) (by decide) rfl rfl rfl ?_ ?_ ?_
  · intro vs hvs
    rcases vs with _ | ⟨v1, _ | ⟨v2, _ | ⟨v3, _ | _⟩⟩⟩ <;> first | rfl | (simp at hvs)
  · intro L x hx
    simp only [List.mem_cons, List.not_mem_nil, or_false] at hx
    rcases hx with rfl | rfl | rfl
    · exact .inl rfl
    · exact .inr ⟨rfl, rfl⟩
    · exact .inr ⟨rfl, rfl⟩
  · intro L vs hvs i x v h1 h2 h3
    rcases vs with _ | ⟨v1, _ | ⟨v2, _ | ⟨v3, _ | _⟩⟩⟩ <;> simp at hvs
    match i with
    | 0 => simp at h1 h2; subst h1 h2; rw [← hvs.1]; rfl
    | 1 => simp at h2; exact absurd h2.symm h3
    | i + 2 => simp at h1
  · intro L k v hk
    match k with
    | 0 => exact ⟨Str.ofString "steps", rfl, fun vs hvs => by
        rcases vs with _ | ⟨v1, _ | ⟨v2, _ | ⟨v3, _ | _⟩⟩⟩ <;> simp at hvs
        simp at hk; subst hk; rw [← hvs.2.1]; rfl⟩
    | 1 => exact ⟨Str.ofString "order", rfl, fun vs hvs => by
        rcases vs with _ | ⟨v1, _ | ⟨v2, _ | ⟨v3, _ | _⟩⟩⟩ <;> simp at hvs
        simp at hk; subst hk; rw [← hvs.2.2]; rfl⟩
    | 2 => exact ⟨Str.ofString "i", rfl, fun vs hvs => by
        rcases vs with _ | ⟨v1, _ | ⟨v2, _ | ⟨v3, _ | _⟩⟩⟩ <;> simp at hvs
        simp at hk; subst hk; rfl⟩
    | 3 => exact ⟨Str.ofString "left", rfl, fun vs hvs => by
        rcases vs with _ | ⟨v1, _ | ⟨v2, _ | ⟨v3, _ | _⟩⟩⟩ <;> simp at hvs
        simp at hk; subst hk; rfl⟩
    | k + 4 => simp at hk
  · intro L hL
    have fr : ∀ k, H (L + k) = none := fun k => gets_H (hL _ (Nat.le_add_right _ _))
    obtain ⟨rs0, hs1, hs2⟩ := hs
    have hrl : rs0.length = ps.length := by simpa using congrArg List.length hs2
    generalize hG0 : cellsH H (L + 1) [some (.ref st), some (.ref od), none, none] = G0
    have eG : G0 = upd (upd (upd (upd H (L + 1) (.cell (some (.ref st)))) (L + 1 + 1) (.cell (some (.ref od)))) (L + 1 + 1 + 1) (.cell none)) (L + 1 + 1 + 1 + 1) (.cell none) := hG0.symm
    have n12 : L + 1 ≠ L + 1 + 1 := Nat.ne_of_lt (Nat.lt_succ_self _)
    have n13 : L + 1 ≠ L + 1 + 1 + 1 := Nat.ne_of_lt (Nat.lt_succ_of_lt (Nat.lt_succ_self _))
    have n14 : L + 1 ≠ L + 1 + 1 + 1 + 1 := Nat.ne_of_lt (Nat.lt_succ_of_lt (Nat.lt_succ_of_lt (Nat.lt_succ_self _)))
    have n23 : L + 1 + 1 ≠ L + 1 + 1 + 1 := Nat.ne_of_lt (Nat.lt_succ_self _)
    have n24 : L + 1 + 1 ≠ L + 1 + 1 + 1 + 1 := Nat.ne_of_lt (Nat.lt_succ_of_lt (Nat.lt_succ_self _))
    have n34 : L + 1 + 1 + 1 ≠ L + 1 + 1 + 1 + 1 := Nat.ne_of_lt (Nat.lt_succ_self _)
    have le0 : HLe H G0 := by
      rw [eG]
      exact ((((HLe.refl H).step (fr 1)).step (fr 2)).step (fr 3)).step (fr 4)
    refine JSS_cons (JS_set 1 (JE_List (JL_nil ⟨by decide, fun rw hrw => ?_⟩)))
    have hrw0 := gets_H hrw
    have W0 : WI H (upd G0 rw (.list [])) st od (L + 1) (L + 1 + 1) (L + 1 + 1 + 1) (L + 1 + 1 + 1 + 1) rw none none [] [] [] := by
      have k : ∀ {a : Addr} {o : AO}, G0 a = some o → upd G0 rw (.list []) a = some o := fun e => upd_off (ne_none e hrw0) e
      refine ⟨le0.step (le0.none hrw0), fr 3, fr 4, le0.none hrw0, k ?_, k ?_, k ?_, k ?_, n13, n14, n23, n24, n34, upd_self .., rfl, rfl, nofun, nofun⟩ <;> rw [eG]
      · rw [upd_ne _ _ n14, upd_ne _ _ n13, upd_ne _ _ n12, upd_self]
      · rw [upd_ne _ _ n24, upd_ne _ _ n23, upd_self]
      · rw [upd_ne _ _ n34, upd_self]
      · rw [upd_self]
    let hI1 : Nat → PS → Prop := fun i P => ∃ wi wl rs qs rows, P.m = [.ref nm, .ref rw] ∧ WI H P.H st od (L + 1) (L + 1 + 1) (L + 1 + 1 + 1) (L + 1 + 1 + 1 + 1) rw wi wl rs qs rows ∧ rs.length = i ∧ rows.length = i ∧
          ∀ (j : Nat) row, rows[j]? = some row → row.Perm (freeL ps (leftL names order j)) ∧ row.Pairwise (· ≤ ·)
    refine JSS_cons (JS_ForRange (hI1) order.length (by lia)
      (JE_len (JE_C (a := L + 1 + 1) rfl rfl W0.cO ⟨od, order.map .int, rfl, .inl (gets_of (W0.le _ _ ho)), by simp; lia, by simp, none, none, [], [], [], rfl, W0, rfl, rfl, by simp⟩)) ?_ ?_)
    · rintro i ⟨m, G⟩ hi ⟨wi, wl, rs, qs, rows, hm, W1, hrs, hrows, hprop⟩ u hu
      obtain rfl : m = _ := hm
      dsimp only at W1
      refine J_asgC (a := L + 1 + 1 + 1) rfl rfl W1.cI ?_
      rw [hu]
      have W2 := W1.setI (.int (i : Nat))
      generalize hG2 : upd G (L + 1 + 1 + 1) (.cell (some (.int (i : Nat)))) = G2 at W2 ⊢
      refine JSS_cons (JS_setC (a := L + 1 + 1 + 1 + 1) rfl rfl (JE_comp (cl := [(Str.ofString "order", L + 1 + 1), (Str.ofString "i", L + 1 + 1 + 1)]) [Str.ofString "n"] rfl (by decide) (by intro x hx; simp at hx; subst hx; exact ⟨rfl, rfl⟩) rfl (by decide) (by decide) (JE_N 0 ?_)))
      refine ⟨names.map .int, fun G => gets c G nm = some (.list (names.map .int)), _, fun D k G acc => G = G2 ∧ acc = ((names.take k).filter fun n => !decide (n ∈ order.take i)).map .int, G2, mk_list (gets_of (W2.le _ _ hn)), HLe.refl _, ?_, ?_, ?_, ?_⟩
      · intro D hD; exact ⟨rfl, rfl⟩
      · rintro D k G acc hD hk ⟨rfl, rfl⟩
        refine ⟨gets_keep hD (gets_of (W2.le _ _ hn)), ?_⟩
        have := List.length_filter_le (fun n => !decide (n ∈ order.take i)) (names.take k)
        simp at this ⊢; lia
      · rintro D Cl k v G acc hD hv ⟨rfl, rfl⟩ u hu
        obtain ⟨x, hx, rfl⟩ := map_int_get hv
        have W3 := W2.of (HLe.upd (o := .list (((names.take k).filter fun n => !decide (n ∈ order.take i)).map .int)) (gets_H hD))
        refine J_asg 0 ?_
        rw [hu]
        refine CB_one (JB_Compare (JE_N 0 (JE_upto (JE_C (a := L + 1 + 1) rfl rfl W3.cO (JE_C (a := L + 1 + 1 + 1) rfl rfl W3.cI ⟨od, order.map .int, i, rfl, rfl, gets_of (W3.le _ _ ho), by simp; lia, fun t ht => ?_⟩)))))
        rw [← List.map_take]
        refine J_notInList (gets_of (upd_self ..)) ⟨_, rfl, fun hb => ⟨G, HLe.upd (gets_H ht), rfl, ?_⟩, fun hb => JE_N 0 ⟨G, HLe.upd (gets_H ht), rfl, ?_⟩⟩
        · rw [filter_take_succ _ hx, hb]; simp
        · rw [filter_take_succ _ hx, hb]; simp
      · rintro D G acc hD ⟨rfl, rfl⟩
        rw [List.take_of_length_le (l := names) (by simp)]
        show ∃ w, _ = some (AO.cell w) ∧ JSS _ _ _ _ ⟨_, upd (upd G D (.list ((leftL names order i).map .int))) _ _⟩ _
        have W3 := W2.of (HLe.upd (o := .list ((leftL names order i).map .int)) (gets_H hD))
        refine ⟨wl, W3.cL, ?_⟩
        have W4 := W3.setL (.ref D)
        have hD4 : upd (upd G D (.list ((leftL names order i).map .int))) (L + 1 + 1 + 1 + 1) (.cell (some (.ref D))) D = some (.list ((leftL names order i).map .int)) := upd_at W3.cL (upd_self ..) nofun
        generalize hleft : leftL names order i = left at W4 hD4 ⊢
        have hll : left.length ≤ 6 := by rw [← hleft, ← h6]; exact List.length_filter_le _ _
        generalize hG4 : upd (upd G D (.list (left.map .int))) (L + 1 + 1 + 1 + 1) (.cell (some (.ref D))) = G4 at W4 hD4 ⊢
        have hst4 : G4 st = some (.list (rs0.map .ref)) := W4.le _ _ hs1
        have hrs4 := map_le W4.le (f := fun p : Int × Int => AO.list [.int p.1, .int p.2]) hs2
        refine JSS_cons (JS_Expr (JE_meth PySem.F.plainAttrs_list PySem.F.slot_list_append PySem.F.type_list_append (JE_N 1 ⟨rw, _, rfl, gets_of W4.hro, rfl, JL_cons (JE_List (JL_cons (JE_bool (JL_cons (JE_sorted ?_)))))⟩)))
        refine JE_compC (x := Str.ofString "n") (cl := [(Str.ofString "steps", L + 1), (Str.ofString "left", L + 1 + 1 + 1 + 1)]) rfl rfl (fun a => rfl) (fun h => rfl) (by decide) (JE_C (a := L + 1 + 1 + 1 + 1) rfl rfl W4.cL ?_)
        refine ⟨left.map .int, fun G => gets c G D = some (.list (left.map .int)), _, fun D2 Cl k G acc => (gets c G4 (Cl + 1) = none ∧ ∃ w, G = upd G4 (Cl + 1) (.cell w)) ∧ acc = ((left.take k).filter fun n => (blockL ps left n).isEmpty).map .int, G4, mk_list (gets_of hD4), HLe.refl _, ?_, ?_, ?_, ?_⟩
        · intro D2 Cl hD2 hCl hne; exact ⟨⟨hCl, none, rfl⟩, rfl⟩
        · rintro D2 Cl k _ acc hD2 hCl hne hk ⟨⟨_, w, rfl⟩, rfl⟩
          refine ⟨gets_of (upd_off (ne_none hD4 (gets_H hD2)) (upd_off (ne_none hD4 (gets_H hCl)) hD4)), ?_⟩
          have := List.length_filter_le (fun n => (blockL ps left n).isEmpty) (left.take k)
          simp at this ⊢; lia
        · rintro D2 Cl k v _ acc hD2 hCl hne hv ⟨⟨_, w, rfl⟩, rfl⟩ u hu
          obtain ⟨x, hx, rfl⟩ := map_int_get hv
          generalize hacc : ((left.take k).filter fun n => (blockL ps left n).isEmpty).map AV.int = acc
          have lC : HLe G4 (upd (upd G4 (Cl + 1) (.cell (some (.int x)))) D2 (.list acc)) := ((HLe.refl G4).step (gets_H hCl)).step (gets_H hD2)
          refine J_asgC (a := Cl + 1) rfl rfl (v := w) (upd_off hne (upd_self ..)) ?_
          rw [hu]
          show CB _ _ _ _ ⟨_, upd (upd (upd G4 (Cl + 1) _) D2 _) (Cl + 1) _⟩ _
          rw [upd_comm _ _ _ hne.symm, upd_upd]
          have W5 := W4.of lC
          generalize hG5 : upd (upd G4 (Cl + 1) (.cell (some (.int x)))) D2 (.list acc) = G5 at W5 lC ⊢
          have hc5 : G5 (Cl + 1) = some (.cell (some (.int x))) := by rw [← hG5]; exact upd_off hne (upd_self ..)
          refine CB_one (JB_Compare (JE_comp (cl := [(Str.ofString "n", Cl + 1), (Str.ofString "left", L + 1 + 1 + 1 + 1)]) [Str.ofString "s"] rfl (by decide) (by intro x hx; simp at hx; subst hx; exact ⟨rfl, rfl⟩) rfl (by decide) (by decide) (JE_C (a := L + 1) rfl rfl W5.cS ?_)))
          refine ⟨rs0.map .ref, fun G => gets c G st = some (.list (rs0.map .ref)), _, fun D3 k G acc3 => G = G5 ∧ acc3.length = ((ps.take k).filter fun s => decide (s.2 = x) && decide (s.1 ∈ left)).length, G5, mk_list (gets_of (lC _ _ hst4)), HLe.refl _, ?_, ?_, ?_, ?_⟩
          · intro D3 hD3; exact ⟨rfl, rfl⟩
          · rintro D3 k3 G3 acc3 hD3 hk3 ⟨rfl, hl3⟩
            refine ⟨gets_keep hD3 (gets_of (lC _ _ hst4)), ?_⟩
            have := List.length_filter_le (fun s : Int × Int => decide (s.2 = x) && decide (s.1 ∈ left)) (ps.take k3)
            simp at this; lia
          · rintro D3 C3 k3 v3 G3 acc3 hD3 hv3 ⟨rfl, hl3⟩ u3 hu3
            obtain ⟨r, p, rfl, hr, hp, hrp⟩ := StepsAt.get (map_le lC (f := fun p : Int × Int => AO.list [.int p.1, .int p.2]) hrs4) hv3
            have lD : HLe G3 (upd G3 D3 (.list acc3)) := HLe.upd (gets_H hD3)
            refine J_asg 0 ?_
            rw [hu3]
            refine CB_one (JB_And (JB_Compare (JE_item (JE_N 0 (JE_int ⟨r, 1, _, .int p.2, rfl, rfl, gets_of (lD _ _ hrp), rfl, JE_C (a := Cl + 1) rfl rfl (lD _ _ hc5) (J_eq ⟨_, rfl, fun hb1 => ?_, fun hb1 => ?_⟩)⟩)))))
            · have hb1' : p.2 = x := by simpa using hb1
              refine JB_Compare (JE_item (JE_N 0 (JE_int ⟨r, 0, _, .int p.1, rfl, rfl, gets_of (lD _ _ hrp), rfl, JE_C (a := L + 1 + 1 + 1 + 1) rfl rfl (lD _ _ W5.cL) (J_inList (gets_of (lD _ _ (lC _ _ hD4))) ⟨_, rfl, fun hb2 => ⟨G3, HLe.refl _, rfl, ?_⟩, fun hb2 => JE_N 0 ⟨G3, HLe.refl _, rfl, ?_⟩⟩)⟩)))
              · rw [filter_take_succ _ hp, hb2, hl3]; simp
              · rw [filter_take_succ _ hp, hb2, hb1', decide_eq_true rfl]; simp [hl3]
            · have hb1' : ¬ p.2 = x := by simpa using hb1
              refine ⟨fun _ => ⟨G3, HLe.refl _, rfl, ?_⟩, nofun⟩
              rw [filter_take_succ _ hp, decide_eq_false hb1', hl3]; simp
          · rintro D3 G3 acc3 hD3 ⟨rfl, hl3⟩
            rw [List.take_of_length_le (l := ps) (by simp; lia)] at hl3
            refine JE_List (JL_nil ⟨by decide, fun e hE => J_eqNil (gets_of (H_keep hE (upd_self ..))) (gets_of (upd_self ..)) ⟨_, rfl, ?_⟩⟩)
            have he : acc3.isEmpty = (blockL ps left x).isEmpty := by
              unfold blockL
              rw [Bool.eq_iff_iff, List.isEmpty_iff_length_eq_zero, List.isEmpty_iff_length_eq_zero, hl3]
            have lE : HLe G3 (upd (upd G3 D3 (.list acc3)) e (.list [])) := (HLe.upd (gets_H hD3)).trans (HLe.upd (gets_H hE))
            have key : HLe (upd (upd G4 (Cl + 1) (.cell (some (.int x)))) D2 (.list acc)) (upd (upd G3 D3 (.list acc3)) e (.list [])) := by rw [hG5]; exact lE
            refine ⟨fun hb => ⟨_, key, ⟨hCl, some (.int x), rfl⟩, ?_⟩, fun hb => JE_C (a := Cl + 1) rfl rfl (lE _ _ hc5) ⟨_, key, ⟨hCl, some (.int x), rfl⟩, ?_⟩⟩
            · rw [filter_take_succ _ hx, ← he, hb, ← hacc]; simp
            · rw [filter_take_succ _ hx, ← he, hb, ← hacc]; simp
        · rintro D2 Cl _ acc hD2 ⟨⟨hCl, w, rfl⟩, rfl⟩
          rw [List.take_of_length_le (l := left) (by simp)]
          have lF : HLe G4 (upd (upd G4 (Cl + 1) (.cell w)) D2 (.list ((freeL ps left).map .int))) := ((HLe.refl G4).step (gets_H hCl)).step (gets_H hD2)
          refine ⟨D2, freeL ps left, rfl, gets_of (upd_self ..), Nat.lt_of_le_of_lt (List.length_filter_le _ _) (by lia), fun q ns' hperm hpw hq => JL_nil ⟨by simp, fun r hr => JL_nil ?_⟩⟩
          have lG := (lF.trans (HLe.upd (o := .list (ns'.map .int)) (gets_H hq))).trans (HLe.upd (o := .list [.bool true, .ref q]) (gets_H hr))
          have W6 := W4.of lG
          refine J_append W6.hro (by simp; lia) ⟨nofun, ?_⟩
          have W7 := W6.push (r := r) (q := q) (l := ns') (upd_self ..) (upd_off (gets_under hr).1.symm (upd_self ..)) (ne_none (lF.trans (HLe.upd (o := .list (ns'.map .int)) (gets_H hq)) |> fun l => l _ _ W4.hro) (gets_H hr)).symm (ne_none (lF _ _ W4.hro) (gets_H hq)).symm
          refine JSS_nil ⟨_, _, _, _, _, rfl, W7, by simp [hrs], by simp [hrows], fun j row hj => ?_⟩
          by_cases z : j < rows.length
          · rw [List.getElem?_append_left z] at hj; exact hprop j row hj
          · rw [List.getElem?_append_right (by lia)] at hj
            have : j = i := by have := (List.getElem?_eq_some_iff.mp hj).1; simp at this; lia
            subst this
            rw [hrows, Nat.sub_self] at hj
            simp at hj; subst hj
            exact ⟨hleft ▸ hperm, hpw⟩
    · rintro ⟨m, G⟩ ⟨wi, wl, rs, qs, rows, hm, W1, hrs, hrows, hprop⟩
      obtain rfl : m = _ := hm
      exact JSS_nil (JSS_cons (JS_Return (JE_N 1 ⟨rw, rows, rfl, ⟨rs, qs, W1.hro, W1.r1, W1.r2⟩, W1.le, hrows, hprop⟩)))
end Mine
end

-- part D6
section
open PySem PySem.W PySem.Calls PyProof.Rows
set_option Elab.async false
set_option genSizeOf false
set_option genInjectivity false
set_option linter.unusedVariables false
set_option autoImplicit false
set_option maxRecDepth 100000
namespace Mine

structure RingOK (ps : List (Int × Int)) (ring : List Int) : Prop where
  two : 2 ≤ ring.length
  few : ring.length ≤ 100
  ends : ring.getD 0 0 = ring.getD (ring.length - 1) 0
  steps : ∀ i, i + 1 < ring.length → (ring.getD i 0, ring.getD (i + 1) 0) ∈ ps
  once : ∀ i, i + 1 < ring.length → ring.getD i 0 ∉ ring.take i

theorem idx_lastI {xs : List Int} (h : 0 < xs.length) (hz : xs.length < 1000) : itemAt (some (.list (xs.map AV.int))) (-1) = some (.int (xs.getD (xs.length - 1) 0)) := by
  refine idx_last ?_ (by simp; lia)
  rw [List.getLast?_eq_getElem?, List.length_map, map_get (by lia)]

theorem rings_ok {c : Cx} {n : Nat} {H : AH} {st rg : Addr} {ring : List Int} {ps : List (Int × Int)} (hs : StepsAt H st ps) (hr : H rg = some (.list (ring.map .int))) (R : RingOK ps ring) :
    TC c (n + 1) (.ref 221) [.ref st, .ref rg] H fun v H' => v = .bool true ∧ HLe H H' := by
  let Q0 : AV → AH → Prop := fun v H' => v = .bool true ∧ HLe H H'
  show TC _ _ _ _ _ Q0
  have R2 := R.two
  have R3 := R.few
  refine TC_cells [Str.ofString "steps", Str.ofString "ring"] [Str.ofString "around"] [] [some (.ref st), some (.ref rg)] [.other] rfl rfl rfl (by kernel_rfl) rfl rfl rfl ?_ ?_ (by decide) (by decide) rfl rfl rfl ?_ ?_ ?_
  · intro vs hvs
    rcases vs with _ | ⟨v1, _ | ⟨v2, _ | _⟩⟩ <;> first | rfl | (simp at hvs)
  · intro L x hx
    simp only [List.mem_cons, List.not_mem_nil, or_false] at hx
    rcases hx with rfl | rfl
    · exact .inr ⟨rfl, rfl⟩
    · exact .inr ⟨rfl, rfl⟩
  · intro L vs hvs i x v h1 h2 h3
    match i with
    | 0 => simp at h2; exact absurd h2.symm h3
    | i + 1 => simp at h1
  · intro L k v hk
    match k with
    | 0 => exact ⟨Str.ofString "steps", rfl, fun vs hvs => by
        rcases vs with _ | ⟨v1, _ | ⟨v2, _ | _⟩⟩ <;> simp at hvs
        simp at hk; subst hk; rw [← hvs.1]; rfl⟩
    | 1 => exact ⟨Str.ofString "ring", rfl, fun vs hvs => by
        rcases vs with _ | ⟨v1, _ | ⟨v2, _ | _⟩⟩ <;> simp at hvs
        simp at hk; subst hk; rw [← hvs.2]; rfl⟩
    | k + 2 => simp at hk
  · intro L hL
    have fr : ∀ k, H (L + k) = none := fun k => gets_H (hL _ (Nat.le_add_right _ _))
    obtain ⟨rs0, hs1, hs2⟩ := hs
    have n12 : L + 1 ≠ L + 1 + 1 := Nat.ne_of_lt (Nat.lt_succ_self _)
    generalize hG0 : cellsH H (L + 1) [some (.ref st), some (.ref rg)] = G0
    have eG : G0 = upd (upd H (L + 1) (.cell (some (.ref st)))) (L + 1 + 1) (.cell (some (.ref rg))) := hG0.symm
    have le0 : HLe H G0 := by rw [eG]; exact ((HLe.refl H).step (fr 1)).step (fr 2)
    have cS : G0 (L + 1) = some (.cell (some (.ref st))) := by rw [eG, upd_ne _ _ n12, upd_self]
    have cR : G0 (L + 1 + 1) = some (.cell (some (.ref rg))) := by rw [eG, upd_self]
    have hr0 := le0 _ _ hr
    let hI1 : AF → PS → Prop := fun f P1 => f = .next ∧ ∃ (D : Addr) (rs : List Addr), P1.m = [.ref D] ∧ HLe G0 P1.H ∧ P1.H D = some (.list (rs.map .ref)) ∧ rs.length = ring.length - 1 ∧ rs.map P1.H = (List.range (ring.length - 1)).map fun i => some (.list [.int (ring.getD i 0), .int (ring.getD (i + 1) 0)])
    refine JSS_cons (J.mono (Q := hI1) ?_ ?_)
    · refine JS_setComp 0 (cl := [(Str.ofString "ring", L + 1 + 1)]) [Str.ofString "i"] rfl rfl (by decide) (by intro x hx; simp at hx; subst hx; exact ⟨rfl, rfl⟩) rfl (by decide) (by decide) (JE_range (JE_BinOp (JE_len (JE_C (a := L + 1 + 1) rfl rfl cR ⟨rg, _, rfl, .inl (gets_of hr0), by simp; lia, JE_int (J_sub ⟨((ring.length - 1 : Nat) : Int), ?_, fun r hrr => ?_⟩)⟩))))
      · congr 1; simp; lia
      refine ⟨upTo (ring.length - 1), fun _ => True, _, fun D k G acc => ∃ rs : List Addr, acc = rs.map .ref ∧ rs.length = k ∧ rs.map G = (List.range k).map (fun i => some (.list [.int (ring.getD i 0), .int (ring.getD (i + 1) 0)])) ∧ HLe G0 G ∧ (∀ x ∈ rs, x ≠ D) ∧ G0 D = none, _, mk_range (by lia) (upd_self ..), HLe.refl _, ?_, ?_, ?_, ?_⟩
      · intro D hD; exact ⟨[], rfl, rfl, rfl, HLe.upd (gets_H hrr), nofun, gets_H (gets_under hD).2⟩
      · rintro D k G acc hD hk ⟨rs, rfl, hl, _⟩
        rw [upTo_len] at hk
        exact ⟨trivial, by simp; lia⟩
      · rintro D Cl k v G acc hD hv ⟨rs, rfl, hl, h1, h2, h3, h4⟩ u hu
        obtain ⟨hk, rfl⟩ := upTo_get hv
        have lD : ∀ {a : Addr} {o : AO}, G0 a = some o → upd G D (.list (rs.map .ref)) a = some o := fun e => upd_off (ne_none e h4) (h2 _ _ e)
        refine J_asg 0 ?_
        rw [hu]
        refine CB_nil ⟨nofun, fun _ => ?_⟩
        refine JE_List (JL_cons (JE_item (JE_C (a := L + 1 + 1) rfl rfl (lD cR) (JE_N 0 ⟨rg, k, _, _, rfl, rfl, gets_of (lD hr0), item_map (by lia) (by lia), JL_cons (JE_item (JE_C (a := L + 1 + 1) rfl rfl (lD cR) (JE_BinOp (JE_N 0 (v := .int (k : Nat)) (JE_int (J_add ⟨rg, ((k + 1 : Nat) : Int), _, _, rfl, congrArg AV.int (by lia), gets_of (lD hr0), item_map (i := k + 1) (by lia) (by lia), JL_nil ⟨by simp, fun r2 hr2 => ?_⟩⟩))))))⟩))))
        have hrD : r2 ≠ D := (gets_under hr2).1
        have hr20 : G r2 = none := gets_H (gets_under hr2).2
        refine ⟨upd G r2 (.list [.int (ring.getD k 0), .int (ring.getD (k + 1) 0)]), ?_, rs ++ [r2], by simp, by simp [hl], ?_, h2.step (h2.none hr20), ?_, h4⟩
        · rw [upd_comm _ _ _ hrD]; exact HLe.refl _
        · rw [List.map_append, List.range_succ, List.map_append]
          congr 1
          · rw [← h1]
            refine List.map_congr_left fun x hx => upd_ne _ _ fun q => ?_
            subst q
            have : G x ∈ (List.range k).map fun i => some (AO.list [.int (ring.getD i 0), .int (ring.getD (i + 1) 0)]) := h1 ▸ List.mem_map_of_mem hx
            obtain ⟨_, _, e⟩ := List.mem_map.mp this
            rw [hr20] at e; cases e
          · simp only [List.map_cons, List.map_nil]; rw [upd_self]
        · intro x hx
          rcases List.mem_append.mp hx with z | z
          · exact h3 x z
          · simp at z; subst z; exact hrD
      · rintro D G acc hD ⟨rs, rfl, hl, h1, h2, h3, h4⟩
        rw [upTo_len] at hl h1
        refine ⟨rfl, D, rs, rfl, h2.step h4, upd_self .., hl, ?_⟩
        exact map_off (f := fun i => AO.list [.int (ring.getD i 0), .int (ring.getD (i + 1) 0)]) h1 h3
    · rintro _ ⟨m, G⟩ ⟨rfl, D, rs, hm, le1, hD, hl, hrs⟩
      obtain rfl : m = _ := hm
      dsimp only at le1 hD hrs
      have hr1 := le1 _ _ hr0
      have cS1 := le1 _ _ cS
      have cR1 := le1 _ _ cR
      have hst1 := le1 _ _ (le0 _ _ hs1)
      have hs3 := map_le (le0.trans le1) (f := fun p : Int × Int => AO.list [.int p.1, .int p.2]) hs2
      have hne : (rs.map AV.ref).isEmpty = false := by
        cases rs with
        | nil => simp at hl; lia
        | cons a r => rfl
      refine JSS_cons (JS_If (JB_Or (JB_Compare (JE_N 0 (JE_List (JL_nil ⟨by decide, fun e1 he1 => J_eqNil (gets_of (H_keep he1 hD)) (gets_of (upd_self ..)) ⟨_, rfl, fun hb => ?_, fun hb => ?_⟩⟩))))))
      · rw [hne] at hb; cases hb
      have l1 : HLe G (upd G e1 (.list [])) := HLe.upd (gets_H he1)
      refine JB_Compare (JE_item (JE_C (a := L + 1 + 1) rfl rfl (l1 _ _ cR1) (JE_int ⟨rg, 0, _, .int (ring.getD 0 0), rfl, rfl, gets_of (l1 _ _ hr1), item_map (i := 0) (by lia) (by lia), JE_item (JE_C (a := L + 1 + 1) rfl rfl (l1 _ _ cR1) (JE_USub (JE_int ⟨1, rfl, rg, -1, _, _, rfl, rfl, gets_of (l1 _ _ hr1), idx_lastI (by lia) (by lia), J_ne ⟨_, rfl, fun hb2 => ?_, fun hb2 => ?_⟩⟩)))⟩)))
      · rw [R.ends] at hb2; simp at hb2
      refine JSS_nil ?_
      generalize hG2 : upd G e1 (.list []) = G2 at l1 ⊢
      have hD2 := l1 _ _ hD
      have cS2 := l1 _ _ cS1
      have cR2 := l1 _ _ cR1
      have hr2 := l1 _ _ hr1
      have hst2 := l1 _ _ hst1
      have hs4 := map_le l1 (f := fun p : Int × Int => AO.list [.int p.1, .int p.2]) hs3
      have hrs2 := map_le l1 (f := fun i => AO.list [.int (ring.getD i 0), .int (ring.getD (i + 1) 0)]) hrs
      refine JSS_cons (JS_If (JB_Compare (JE_comp (cl := [(Str.ofString "steps", L + 1)]) [Str.ofString "p"] rfl (by decide) (by intro x hx; simp at hx; subst hx; exact ⟨rfl, rfl⟩) rfl (by decide) (by decide) (JE_N 0 ?_))))
      refine ⟨rs.map .ref, fun G => gets c G D = some (.list (rs.map .ref)), _, fun D2 k G acc => G = G2 ∧ acc = [], G2, mk_list (gets_of hD2), HLe.refl _, fun _ _ => ⟨rfl, rfl⟩, ?_, ?_, ?_⟩
      · rintro D2 k _ acc hD2' hk ⟨rfl, rfl⟩
        exact ⟨gets_keep hD2' (gets_of hD2), by simp⟩
      · rintro D2 Cl k v G2 acc hD2' hv ⟨rfl, rfl⟩ u hu
        rw [List.getElem?_map] at hv
        obtain ⟨r, hrk, rfl⟩ := Option.map_eq_some_iff.mp hv
        have hk : k < ring.length - 1 := by have := (List.getElem?_eq_some_iff.mp hrk).1; lia
        have hGr : G2 r = some (.list [.int (ring.getD k 0), .int (ring.getD (k + 1) 0)]) := by
          have := congrArg (·[k]?) hrs2
          simp only [List.getElem?_map, hrk, Option.map_some, List.getElem?_range hk] at this
          exact Option.some.inj this
        have lD : ∀ {a : Addr} {o : AO}, G2 a = some o → upd G2 D2 (.list []) a = some o := fun e => upd_off (ne_none e (gets_H hD2')) e
        refine J_asg 0 ?_
        rw [hu]
        refine CB_one (JB_Compare (JE_N 0 (JE_C (a := L + 1) rfl rfl (lD cS2) (J_notInLL (xs := [ring.getD k 0, ring.getD (k + 1) 0]) (ps := ps.map fun p => [p.1, p.2]) (gets_of (lD hGr)) (gets_of (lD hst2)) ?_ ⟨_, rfl, fun hb => ⟨G2, HLe.refl _, rfl, rfl⟩, fun hb => ?_⟩))))
        · rw [List.map_map]
          exact map_gets (map_le (HLe.upd (gets_H hD2')) (f := fun p : Int × Int => AO.list [.int p.1, .int p.2]) hs4)
        · have : [ring.getD k 0, ring.getD (k + 1) 0] ∈ ps.map fun p => [p.1, p.2] := List.mem_map.mpr ⟨_, R.steps k (by lia), rfl⟩
          rw [decide_eq_true this] at hb; cases hb
      · rintro D3 G2 acc hD3 ⟨rfl, rfl⟩
        refine JE_List (JL_nil ⟨by decide, fun e2 he2 => J_neNil (gets_of (H_keep he2 (upd_self ..))) (gets_of (upd_self ..)) ⟨_, rfl, (fun hb => by cases hb), fun _ => JSS_nil ?_⟩⟩)
        have l2 : HLe G2 (upd (upd G2 D3 (.list [])) e2 (.list [])) := (HLe.upd (gets_H hD3)).trans (HLe.upd (gets_H he2))
        generalize hG3 : upd (upd G2 D3 (.list [])) e2 (.list []) = G3 at l2 ⊢
        have hD4 := l2 _ _ hD2
        have cR3 := l2 _ _ cR2
        have hr3 := l2 _ _ hr2
        refine JSS_cons (JS_Return (JE_Compare (JE_comp (cl := [(Str.ofString "ring", L + 1 + 1)]) [Str.ofString "i"] rfl (by decide) (by intro x hx; simp at hx; subst hx; exact ⟨rfl, rfl⟩) rfl (by decide) (by decide) (JE_range (JE_len (JE_N 0 ⟨D, _, rfl, .inl (gets_of hD4), by simp; lia, ((ring.length - 1 : Nat) : Int), ?_, fun r hrr => ?_⟩)))))) 
        · congr 1; simp; lia
        have l3 : HLe G3 (upd G3 r (.rng 0 ((ring.length - 1 : Nat) : Int) 1)) := HLe.upd (gets_H hrr)
        refine ⟨upTo (ring.length - 1), fun _ => True, _, fun D k G acc => G = upd G3 r (.rng 0 ((ring.length - 1 : Nat) : Int) 1) ∧ acc = [], _, mk_range (by lia) (upd_self ..), HLe.refl _, ?_, ?_, ?_, ?_⟩
        · intro D5 hD5; exact ⟨rfl, rfl⟩
        · rintro D5 k G acc hD5 hk ⟨_, rfl⟩; exact ⟨trivial, by simp⟩
        · rintro D5 Cl k v _ acc hD5 hv ⟨rfl, rfl⟩ u hu
          obtain ⟨hk, rfl⟩ := upTo_get hv
          have lD : ∀ {a : Addr} {o : AO}, G3 a = some o → upd (upd G3 r (.rng 0 ((ring.length - 1 : Nat) : Int) 1)) D5 (.list []) a = some o := fun e => upd_off (ne_none (l3 _ _ e) (gets_H hD5)) (l3 _ _ e)
          refine J_asg 0 ?_
          rw [hu]
          refine CB_one (JB_Compare (JE_item (JE_C (a := L + 1 + 1) rfl rfl (lD cR3) (JE_N 0 ⟨rg, k, _, _, rfl, rfl, gets_of (lD hr3), item_map (by lia) (by lia), JE_upto (JE_C (a := L + 1 + 1) rfl rfl (lD cR3) (JE_N 0 ⟨rg, _, k, rfl, rfl, gets_of (lD hr3), by simp; lia, fun t ht => ?_⟩))⟩))))
          rw [← List.map_take]
          refine J_inList (gets_of (upd_self ..)) ⟨_, rfl, fun hb => ⟨_, HLe.upd (gets_H ht), rfl, rfl⟩, fun hb => ?_⟩
          rw [decide_eq_false (R.once k (by lia))] at hb; cases hb
        · rintro D5 _ acc hD5 ⟨rfl, rfl⟩
          refine JE_List (JL_nil ⟨by decide, fun e3 he3 => J_eqNil (gets_of (H_keep he3 (upd_self ..))) (gets_of (upd_self ..)) ⟨rfl, ?_⟩⟩)
          exact (((((le0.trans le1).trans l1).trans l2).trans l3).trans (HLe.upd (gets_H hD5))).trans (HLe.upd (gets_H he3))
end Mine
end

-- part D7
section
open PySem PySem.W PySem.Calls PyProof.Rows
set_option Elab.async false
set_option genSizeOf false
set_option genInjectivity false
set_option linter.unusedVariables false
set_option autoImplicit false
set_option maxRecDepth 100000
namespace Mine

noncomputable def succOf (nds : List Nd) (k : Int) : List Int := ((nds.find? fun nd => decide (nd.k = k)).map (·.succ)).getD []
theorem succOf_get {nds : List Nd} (hk : (nds.map (·.k)).Nodup) {i : Nat} {nd : Nd} (hi : nds[i]? = some nd) : succOf nds nd.k = nd.succ := by
  unfold succOf
  have : nds.find? (fun x => decide (x.k = nd.k)) = some nd := by
    rw [List.find?_eq_some_iff_getElem]
    obtain ⟨h, rfl⟩ := List.getElem?_eq_some_iff.mp hi
    refine ⟨by simp, i, h, rfl, fun j hj => ?_⟩
    have : nds[j].k ≠ nds[i].k := fun z => by
      have := (List.getElem_inj (h₀ := by simp; lia) (h₁ := by simpa using h) hk (i := j) (j := i)).mp (by rw [List.getElem_map, List.getElem_map]; exact z)
      lia
    simp [this]
  rw [this]; rfl

/-! the places of the stack's nodes -/
noncomputable def enumL : Nat → List Int → List (Int × AV)
  | _, [] => []
  | j, k :: r => (k, .int (j : Nat)) :: enumL (j + 1) r
theorem enumL_keys : ∀ (j : Nat) (l : List Int), (enumL j l).map (·.1) = l
  | _, [] => rfl
  | j, k :: r => by show k :: (enumL (j + 1) r).map (·.1) = k :: r; rw [enumL_keys]
theorem enumL_len (j : Nat) (l : List Int) : (enumL j l).length = l.length := by
  have := congrArg List.length (enumL_keys j l); simpa using this
theorem enumL_snoc : ∀ (j : Nat) (l : List Int) (k : Int), enumL j (l ++ [k]) = enumL j l ++ [(k, .int (j + l.length : Nat))]
  | j, [], k => rfl
  | j, x :: r, k => by
    show (x, _) :: enumL (j + 1) (r ++ [k]) = (x, _) :: (enumL (j + 1) r ++ _)
    rw [enumL_snoc]; simp; lia
theorem enumL_look : ∀ (j : Nat) (l : List Int) (k : Int), k ∈ l → (enumL j l).lookup k = some (.int (j + l.idxOf k : Nat))
  | j, [], k, h => by cases h
  | j, x :: r, k, h => by
    show List.lookup k ((x, AV.int (j : Nat)) :: enumL (j + 1) r) = _
    rw [List.lookup_cons]
    by_cases q : k = x
    · subst q; simp
    · rw [beq_eq_false_iff_ne.mpr q]
      have h' : k ∈ r := by simpa [q] using h
      rw [enumL_look (j + 1) r k h', List.idxOf_cons]
      have : (x == k) = false := by simpa using fun e => q (Eq.symm e)
      rw [this]; simp; lia
theorem enumL_none {j : Nat} {l : List Int} {k : Int} (h : k ∉ l) : (enumL j l).lookup k = none := lookup_none (by rw [enumL_keys]; exact h)
theorem enumL_del {l : List Int} {k : Int} (h : k ∉ l) : ddel (enumL 0 (l ++ [k])) k = enumL 0 l := by
  unfold ddel
  rw [enumL_snoc, List.filter_append]
  have : (enumL 0 l).filter (fun kv => decide (kv.1 ≠ k)) = enumL 0 l := by
    rw [List.filter_eq_self]
    intro p hp
    have : p.1 ∈ l := by rw [← enumL_keys 0 l]; exact List.mem_map_of_mem hp
    exact decide_eq_true fun e => h (e ▸ this)
  rw [this]; simp

/-- a frame of the search: node, place, wrapper, iterator -/
noncomputable abbrev Sf := Int × Nat × Addr × Addr

/-- what is known of the heap -/
structure FH (H G : AH) (nds : List Nd) (aS aI aE aD : Addr) (fr : List Sf) (seen : List Int) : Prop where
  le : HLe H G
  hS : H aS = none
  hI : H aI = none
  hE : H aE = none
  hD : H aD = none
  st : G aS = some (.list (fr.map fun e => AV.int e.1))
  it : G aI = some (.list (fr.map fun e => AV.ref e.2.2.1))
  se : G aE = some (.set seen)
  di : ∃ ep, G aD = some (.dict (enumL 0 (fr.map (·.1))) ep)
  nSI : aS ≠ aI
  fs : ∀ e ∈ fr, G e.2.2.1 = some (.next e.2.2.2) ∧ H e.2.2.2 = none ∧ ∃ l, G e.2.2.2 = some (.liter l e.2.1) ∧ H l = some (.list ((succOf nds e.1).map .int))
  nd : (fr.map (·.2.2.2)).Nodup

section
variable {H G : AH} {nds : List Nd} {aS aI aE aD : Addr} {fr : List Sf} {seen : List Int}

theorem FH.of (I : FH H G nds aS aI aE aD fr seen) {G' : AH} (l : HLe G G') : FH H G' nds aS aI aE aD fr seen := by
  obtain ⟨ep, hd⟩ := I.di
  exact ⟨I.le.trans l, I.hS, I.hI, I.hE, I.hD, l _ _ I.st, l _ _ I.it, l _ _ I.se, ⟨ep, l _ _ hd⟩, I.nSI, fun e he => let ⟨z1, z2, q, z3, z4⟩ := I.fs e he; ⟨l _ _ z1, z2, q, l _ _ z3, z4⟩, I.nd⟩

/-- a node laid on the stack -/
theorem FH.push (I : FH H G nds aS aI aE aD fr seen) {k : Int} {w i l : Addr} {ep : Nat} (hw : G w = some (.next i)) (hi : G i = some (.liter l 0)) (hHi : H i = none) (hl : H l = some (.list ((succOf nds k).map .int))) (hnew : ∀ e ∈ fr, e.2.2.2 ≠ i) :
    FH H (upd (upd (upd (upd G aE (.set (k :: seen))) aI (.list (fr.map (fun e => AV.ref e.2.2.1) ++ [.ref w]))) aD (.dict (enumL 0 (fr.map (·.1) ++ [k])) ep)) aS (.list (fr.map (fun e => AV.int e.1) ++ [.int k]))) nds aS aI aE aD (fr ++ [(k, 0, w, i)]) (k :: seen) := by
  obtain ⟨ep0, hd⟩ := I.di
  have kp : ∀ {a : Addr} {o : AO}, G a = some o → a ≠ aE → a ≠ aI → a ≠ aD → a ≠ aS → upd (upd (upd (upd G aE (.set (k :: seen))) aI (.list (fr.map (fun e => AV.ref e.2.2.1) ++ [.ref w]))) aD (.dict (enumL 0 (fr.map (·.1) ++ [k])) ep)) aS (.list (fr.map (fun e => AV.int e.1) ++ [.int k])) a = some o := fun e n1 n2 n3 n4 => by
    rw [upd_ne _ _ n4, upd_ne _ _ n3, upd_ne _ _ n2, upd_ne _ _ n1]; exact e
  have nES : aE ≠ aS := ne_of I.se I.st nofun
  have nEI : aE ≠ aI := ne_of I.se I.it nofun
  have nED : aE ≠ aD := ne_of I.se hd nofun
  have nDS : aD ≠ aS := ne_of hd I.st nofun
  have nDI : aD ≠ aI := ne_of hd I.it nofun
  have nxt : ∀ {a j : Addr}, G a = some (.next j) → a ≠ aE ∧ a ≠ aI ∧ a ≠ aD ∧ a ≠ aS := fun e => ⟨ne_of e I.se nofun, ne_of e I.it nofun, ne_of e hd nofun, ne_of e I.st nofun⟩
  have lit : ∀ {a j : Addr} {n : Nat}, G a = some (.liter j n) → a ≠ aE ∧ a ≠ aI ∧ a ≠ aD ∧ a ≠ aS := fun e => ⟨ne_of e I.se nofun, ne_of e I.it nofun, ne_of e hd nofun, ne_of e I.st nofun⟩
  refine ⟨fun a o e => ?_, I.hS, I.hI, I.hE, I.hD, ?_, ?_, ?_, ⟨ep, ?_⟩, I.nSI, fun e he => ?_, ?_⟩
  · exact kp (I.le _ _ e) (ne_none e I.hE) (ne_none e I.hI) (ne_none e I.hD) (ne_none e I.hS)
  · rw [upd_self, List.map_append]; rfl
  · rw [upd_ne _ _ I.nSI.symm, upd_ne _ _ nDI.symm, upd_self, List.map_append]; rfl
  · rw [upd_ne _ _ nES, upd_ne _ _ nED, upd_ne _ _ nEI, upd_self]
  · rw [upd_ne _ _ nDS, upd_self, List.map_append]; rfl
  · rcases List.mem_append.mp he with q | q
    · obtain ⟨z1, z2, q, z3, z4⟩ := I.fs e q
      obtain ⟨n1, n2, n3, n4⟩ := nxt z1
      obtain ⟨m1, m2, m3, m4⟩ := lit z3
      exact ⟨kp z1 n1 n2 n3 n4, z2, q, kp z3 m1 m2 m3 m4, z4⟩
    · simp at q; subst q
      obtain ⟨n1, n2, n3, n4⟩ := nxt hw
      obtain ⟨m1, m2, m3, m4⟩ := lit hi
      exact ⟨kp hw n1 n2 n3 n4, hHi, l, kp hi m1 m2 m3 m4, hl⟩
  · rw [List.map_append]
    refine List.nodup_append.mpr ⟨I.nd, by simp, fun a ha b hb => ?_⟩
    simp at hb; subst hb
    obtain ⟨e, he, rfl⟩ := List.mem_map.mp ha
    exact hnew e he

/-- the top's next successor -/
theorem FH.next {k : Int} {p : Nat} {w i l : Addr} (I : FH H G nds aS aI aE aD (fr ++ [(k, p, w, i)]) seen) : FH H (upd G i (.liter l (p + 1))) nds aS aI aE aD (fr ++ [(k, p + 1, w, i)]) seen ∨ ¬ G i = some (.liter l p) := by
  by_cases hi : G i = some (.liter l p)
  · refine .inl ?_
    obtain ⟨ep0, hd⟩ := I.di
    obtain ⟨z1, z2, l', z3, z4⟩ := I.fs (k, p, w, i) (by simp)
    rw [hi] at z3
    have : l = l' := by cases z3; rfl
    subst this
    have nd := I.nd
    rw [List.map_append, List.nodup_append] at nd
    refine ⟨fun a o e => upd_off (ne_none e z2) (I.le _ _ e), I.hS, I.hI, I.hE, I.hD, ?_, ?_, upd_at hi I.se nofun, ⟨ep0, ?_⟩, I.nSI, fun e he => ?_, ?_⟩
    · rw [upd_at hi I.st nofun]; simp
    · rw [upd_at hi I.it nofun]; simp
    · rw [upd_at hi hd nofun]; simp
    · rcases List.mem_append.mp he with q | q
      · obtain ⟨y1, y2, q', y3, y4⟩ := I.fs e (by simp [q])
        exact ⟨upd_at hi y1 nofun, y2, q', upd_off (fun z => nd.2.2 _ (List.mem_map_of_mem q) _ (by simp) z) y3, y4⟩
      · simp at q; subst q
        exact ⟨upd_at hi z1 nofun, z2, l, upd_self .., z4⟩
    · simpa using I.nd
  · exact .inr hi

/-- the top goes -/
theorem FH.pop {k : Int} {p : Nat} {w i : Addr} (I : FH H G nds aS aI aE aD (fr ++ [(k, p, w, i)]) seen) (hk : k ∉ fr.map (·.1)) {ep : Nat} :
    FH H (upd (upd (upd (del G i) aS (.list (fr.map fun e => AV.int e.1))) aD (.dict (ddel (enumL 0 ((fr ++ [(k, p, w, i)]).map (·.1))) k) ep)) aI (.list (fr.map fun e => AV.ref e.2.2.1))) nds aS aI aE aD fr seen := by
  obtain ⟨ep0, hd⟩ := I.di
  obtain ⟨z1, z2, l', z3, z4⟩ := I.fs (k, p, w, i) (by simp)
  have nd := I.nd
  rw [List.map_append, List.nodup_append] at nd
  rw [List.map_append, show List.map (fun x : Sf => x.1) [(k, p, w, i)] = [k] from rfl, enumL_del hk]
  have kp : ∀ {a : Addr} {o : AO}, G a = some o → a ≠ i → a ≠ aI → a ≠ aD → a ≠ aS → upd (upd (upd (del G i) aS (.list (fr.map fun e => AV.int e.1))) aD (.dict (enumL 0 (fr.map (·.1))) ep)) aI (.list (fr.map fun e => AV.ref e.2.2.1)) a = some o := fun e n0 n2 n3 n4 => by
    rw [upd_ne _ _ n2, upd_ne _ _ n3, upd_ne _ _ n4, del_ne _ n0]; exact e
  have nDI : aD ≠ aI := ne_of hd I.it nofun
  have nDS : aD ≠ aS := ne_of hd I.st nofun
  refine ⟨fun a o e => kp (I.le _ _ e) (ne_none e z2) (ne_none e I.hI) (ne_none e I.hD) (ne_none e I.hS), I.hS, I.hI, I.hE, I.hD, ?_, upd_self .., kp I.se (ne_of I.se z3 nofun) (ne_of I.se I.it nofun) (ne_of I.se hd nofun) (ne_of I.se I.st nofun), ⟨ep, ?_⟩, I.nSI, fun e he => ?_, nd.1⟩
  · rw [upd_ne _ _ I.nSI, upd_ne _ _ nDS.symm, upd_self]
  · rw [upd_ne _ _ nDI, upd_self]
  · obtain ⟨y1, y2, q', y3, y4⟩ := I.fs e (by simp [he])
    exact ⟨kp y1 (ne_of y1 z3 nofun) (ne_of y1 I.it nofun) (ne_of y1 hd nofun) (ne_of y1 I.st nofun), y2, q', kp y3 (fun z => nd.2.2 _ (List.mem_map_of_mem he) _ (by simp) z) (ne_of y3 I.it nofun) (ne_of y3 hd nofun) (ne_of y3 I.st nofun), y4⟩
end
end Mine
end

-- part D8
section
open PySem PySem.W PySem.Calls PyProof.Rows
set_option Elab.async false
set_option genSizeOf false
set_option genInjectivity false
set_option linter.unusedVariables false
set_option autoImplicit false
set_option maxRecDepth 100000
namespace Mine

structure RingS (sc : Int → List Int) (ring : List Int) : Prop where
  two : 2 ≤ ring.length
  few : ring.length ≤ 100
  ends : ring.getD 0 0 = ring.getD (ring.length - 1) 0
  steps : ∀ i, i + 1 < ring.length → ring.getD (i + 1) 0 ∈ sc (ring.getD i 0)
  once : ∀ i, i + 1 < ring.length → ring.getD i 0 ∉ ring.take i

/-- what the search has found out -/
structure FG (sc : Int → List Int) (keys : List Int) (fr : List Sf) (seen fin : List Int) (cur : Option Int) : Prop where
  seenI : ∀ k, k ∈ seen ↔ k ∈ fr.map (·.1) ∨ k ∈ fin
  len : seen.length = fr.length + fin.length
  nodup : (fr.map (·.1) ++ fin).Nodup
  keyI : ∀ k ∈ fr.map (·.1) ++ fin, k ∈ keys
  chain : ∀ (j : Nat) e e', fr[j]? = some e → fr[j + 1]? = some e' → e'.1 ∈ sc e.1
  pos : ∀ e ∈ fr, e.2.1 ≤ (sc e.1).length
  done : ∀ (j : Nat) e (i : Nat) q, fr[j]? = some e → (sc e.1)[i]? = some q → i < e.2.1 → q ∈ fin ∨ (fr[j + 1]?).map (·.1) = some q ∨ (j + 1 = fr.length ∧ cur = some q)
  fins : ∀ (i : Nat) k, fin[i]? = some k → ∀ q ∈ sc k, q ∈ fin.take i
  cure : ∀ q, cur = some q → q ∈ keys ∧ ∀ e, fr.getLast? = some e → q ∈ sc e.1

theorem sum_perm {l m : List Nat} (h : l.Perm m) : l.sum = m.sum := by
  induction h with
  | nil => rfl
  | cons x _ ih => simp [ih]
  | swap x y l => simp; lia
  | trans _ _ h1 h2 => exact h1.trans h2
theorem sum_sub {f : Int → Nat} : ∀ {l m : List Int}, l.Nodup → (∀ x ∈ l, x ∈ m) → (l.map f).sum ≤ (m.map f).sum
  | [], m, _, _ => by simp
  | x :: l, m, hn, hs => by
    rw [List.nodup_cons] at hn
    have h1 : x ∈ m := hs x (by simp)
    have p := sum_perm ((List.perm_cons_erase h1).map f)
    have := sum_sub (f := f) (l := l) (m := m.erase x) hn.2 fun y hy => (List.mem_erase_of_ne (fun e : y = x => hn.1 (e ▸ hy))).mpr (hs y (by simp [hy]))
    simp at p ⊢; lia

noncomputable def used (sc : Int → List Int) (fr : List Sf) (fin : List Int) : Nat := (fr.map (·.2.1)).sum + (fin.map fun k => (sc k).length).sum
noncomputable def total (sc : Int → List Int) (keys : List Int) : Nat := (keys.map fun k => (sc k).length).sum

section
variable {sc : Int → List Int} {keys : List Int} {fr : List Sf} {seen fin : List Int} {cur : Option Int}

theorem pos_sum : ∀ {fr : List Sf}, (∀ e ∈ fr, e.2.1 ≤ (sc e.1).length) → (fr.map (·.2.1)).sum ≤ ((fr.map (·.1)).map fun k => (sc k).length).sum
  | [], _ => by simp
  | e :: r, h => by
    have := pos_sum (fr := r) fun e' he => h e' (by simp [he])
    have := h e (by simp)
    simp at *; lia
theorem FG.bound {k : Int} {p : Nat} {w i : Addr} (I : FG sc keys (fr ++ [(k, p, w, i)]) seen fin cur) (hp : p < (sc k).length) : used sc (fr ++ [(k, p, w, i)]) fin + 1 ≤ total sc keys := by
  have h1 := sum_sub (f := fun k => (sc k).length) I.nodup I.keyI
  have h2 := pos_sum (sc := sc) (fr := fr) fun e he => I.pos e (by simp [he])
  unfold used total
  simp at h1 h2 ⊢; lia
theorem FG.few (I : FG sc keys fr seen fin cur) (hk : keys.length ≤ 80) : seen.length ≤ 80 ∧ fr.length ≤ 80 := by
  have := nodup_len I.nodup I.keyI
  have := I.len
  simp at *; lia

theorem FG.skip (I : FG sc keys fr seen fin cur) {q : Int} (hc : cur = some q) (hs : q ∈ seen) (hn : q ∉ fr.map (·.1)) : FG sc keys fr seen fin none := by
  have hf : q ∈ fin := ((I.seenI q).mp hs).resolve_left hn
  refine ⟨I.seenI, I.len, I.nodup, I.keyI, I.chain, I.pos, fun j e i q' h1 h2 h3 => ?_, I.fins, nofun⟩
  rcases I.done j e i q' h1 h2 h3 with z | z | ⟨_, z⟩
  · exact .inl z
  · exact .inr (.inl z)
  · rw [hc] at z; cases z; exact .inl hf
theorem FG.push (I : FG sc keys fr seen fin cur) {q : Int} (hc : cur = some q) (hs : q ∉ seen) (w i : Addr) : FG sc keys (fr ++ [(q, 0, w, i)]) (q :: seen) fin none := by
  have hn : q ∉ fr.map (·.1) ∧ q ∉ fin := by have := (not_congr (I.seenI q)).mp hs; simpa using this
  obtain ⟨hk, hl⟩ := I.cure q hc
  refine ⟨fun k => ?_, by simp [I.len]; lia, ?_, fun k hk' => ?_, fun j e e' h1 h2 => ?_, fun e he => ?_, fun j e i' q' h1 h2 h3 => ?_, I.fins, nofun⟩
  · simp only [List.mem_cons, List.map_append, List.map_cons, List.map_nil, List.mem_append, List.not_mem_nil, or_false, I.seenI k]
    constructor
    · rintro (h | h | h)
      · exact .inl (.inr h)
      · exact .inl (.inl h)
      · exact .inr h
    · rintro ((h | h) | h)
      · exact .inr (.inl h)
      · exact .inl h
      · exact .inr (.inr h)
  · have p : ((fr ++ [((q, 0, w, i) : Sf)]).map (·.1) ++ fin).Perm (q :: (fr.map (·.1) ++ fin)) := by
      simp only [List.map_append, List.map_cons, List.map_nil, List.append_assoc, List.singleton_append]
      exact List.perm_middle
    rw [p.nodup_iff, List.nodup_cons]
    refine ⟨fun h => ?_, I.nodup⟩
    rcases List.mem_append.mp h with z | z
    · exact hn.1 z
    · exact hn.2 z
  · simp only [List.map_append, List.map_cons, List.map_nil, List.mem_append, List.mem_cons, List.not_mem_nil, or_false] at hk'
    rcases hk' with (z | z) | z
    · exact I.keyI k (List.mem_append_left _ z)
    · subst z; exact hk
    · exact I.keyI k (List.mem_append_right _ z)
  · have hj : j < fr.length := by have := (List.getElem?_eq_some_iff.mp h2).1; simp at this; lia
    rw [List.getElem?_append_left hj] at h1
    by_cases z : j + 1 < fr.length
    · rw [List.getElem?_append_left z] at h2; exact I.chain j e e' h1 h2
    · have z' : j + 1 = fr.length := by lia
      rw [List.getElem?_append_right (by lia), z', Nat.sub_self] at h2
      simp at h2; subst h2
      refine hl e ?_
      rw [List.getLast?_eq_getElem?, ← z', Nat.add_sub_cancel]; exact h1
  · rcases List.mem_append.mp he with z | z
    · exact I.pos e z
    · simp at z; subst z; exact Nat.zero_le _
  · by_cases z : j < fr.length
    · rw [List.getElem?_append_left z] at h1
      rcases I.done j e i' q' h1 h2 h3 with y | y | ⟨y1, y2⟩
      · exact .inl y
      · refine .inr (.inl ?_)
        by_cases x : j + 1 < fr.length
        · rw [List.getElem?_append_left x]; exact y
        · rw [List.getElem?_eq_none (by lia)] at y; cases y
      · refine .inr (.inl ?_)
        rw [List.getElem?_append_right (by lia), y1, Nat.sub_self]
        rw [hc] at y2; exact y2
    · have : j = fr.length := by have := (List.getElem?_eq_some_iff.mp h1).1; simp at this; lia
      subst this
      rw [List.getElem?_append_right (Nat.le_refl _), Nat.sub_self] at h1
      simp at h1; subst h1
      exact absurd h3 (Nat.not_lt_zero _)

/-- a search begins -/
theorem FG.start (I : FG sc keys [] seen fin none) {q : Int} (hq : q ∈ keys) : FG sc keys [] seen fin (some q) :=
  ⟨I.seenI, I.len, I.nodup, I.keyI, I.chain, I.pos, fun j e i q' h1 _ _ => by simp at h1, I.fins, fun q' h => by cases h; exact ⟨hq, fun e h => by simp at h⟩⟩
theorem FG.next {k : Int} {p : Nat} {w i : Addr} (I : FG sc keys (fr ++ [(k, p, w, i)]) seen fin none) {q : Int} (hq : (sc k)[p]? = some q) (hk : q ∈ keys) : FG sc keys (fr ++ [(k, p + 1, w, i)]) seen fin (some q) := by
  have hp : p < (sc k).length := (List.getElem?_eq_some_iff.mp hq).1
  refine ⟨fun x => by simpa using I.seenI x, by simpa using I.len, by simpa using I.nodup, fun x hx => I.keyI x (by simpa using hx), fun j e e' h1 h2 => ?_, fun e he => ?_, fun j e i' q' h1 h2 h3 => ?_, I.fins, fun q' h => ?_⟩
  · have hj : j < fr.length := by have := (List.getElem?_eq_some_iff.mp h2).1; simp at this; lia
    rw [List.getElem?_append_left hj] at h1
    by_cases z : j + 1 < fr.length
    · rw [List.getElem?_append_left z] at h2
      exact I.chain j e e' (by rw [List.getElem?_append_left hj]; exact h1) (by rw [List.getElem?_append_left z]; exact h2)
    · have z' : j + 1 = fr.length := by lia
      rw [List.getElem?_append_right (by lia), z', Nat.sub_self] at h2
      simp at h2; subst h2
      exact I.chain j e (k, p, w, i) (by rw [List.getElem?_append_left hj]; exact h1) (by rw [List.getElem?_append_right (by lia), z', Nat.sub_self]; rfl)
  · rcases List.mem_append.mp he with z | z
    · exact I.pos e (by simp [z])
    · simp at z; subst z; exact hp
  · by_cases z : j < fr.length
    · rw [List.getElem?_append_left z] at h1
      rcases I.done j e i' q' (by rw [List.getElem?_append_left z]; exact h1) h2 h3 with y | y | ⟨_, y⟩
      · exact .inl y
      · refine .inr (.inl ?_)
        by_cases x : j + 1 < fr.length
        · rw [List.getElem?_append_left x] at y ⊢; exact y
        · rw [List.getElem?_append_right (by lia)] at y ⊢
          rw [show j + 1 - fr.length = 0 by lia] at y ⊢
          exact y
      · cases y
    · have : j = fr.length := by have := (List.getElem?_eq_some_iff.mp h1).1; simp at this; lia
      subst this
      rw [List.getElem?_append_right (Nat.le_refl _), Nat.sub_self] at h1
      simp at h1; subst h1
      by_cases x : i' < p
      · rcases I.done fr.length (k, p, w, i) i' q' (by rw [List.getElem?_append_right (Nat.le_refl _), Nat.sub_self]; rfl) h2 x with y | y | ⟨_, y⟩
        · exact .inl y
        · rw [List.getElem?_eq_none (by simp)] at y; cases y
        · cases y
      · have : i' = p := by simp at h3; lia
        subst this
        simp only at h2
        rw [hq] at h2; cases h2
        exact .inr (.inr ⟨by simp, rfl⟩)
  · cases h
    refine ⟨hk, fun e he => ?_⟩
    rw [List.getLast?_concat] at he; cases he
    exact List.mem_of_getElem? hq
theorem FG.pop {k : Int} {p : Nat} {w i : Addr} (I : FG sc keys (fr ++ [(k, p, w, i)]) seen fin none) (hp : (sc k)[p]? = none) : FG sc keys fr seen (fin ++ [k]) none := by
  have hlen : (sc k).length ≤ p := List.getElem?_eq_none_iff.mp hp
  have hperm : (fr.map (·.1) ++ (fin ++ [k])).Perm ((fr ++ [(k, p, w, i)]).map (·.1) ++ fin) := by
    simp only [List.map_append, List.map_cons, List.map_nil, List.append_assoc]
    exact List.Perm.append_left _ (List.perm_append_comm)
  refine ⟨fun x => ?_, by have := I.len; simp at this ⊢; lia, (hperm.nodup_iff).mpr I.nodup, fun x hx => I.keyI x (hperm.mem_iff.mp hx), fun j e e' h1 h2 => ?_, fun e he => I.pos e (by simp [he]), fun j e i' q' h1 h2 h3 => ?_, fun j x hx q hq => ?_, nofun⟩
  · rw [I.seenI x]
    simp only [List.map_append, List.map_cons, List.map_nil, List.mem_append, List.mem_cons, List.not_mem_nil, or_false]
    constructor
    · rintro ((h | h) | h)
      · exact .inl h
      · exact .inr (.inr h)
      · exact .inr (.inl h)
    · rintro (h | h | h)
      · exact .inl (.inl h)
      · exact .inr h
      · exact .inl (.inr h)
  · have a1 := (List.getElem?_eq_some_iff.mp h1).1
    have a2 := (List.getElem?_eq_some_iff.mp h2).1
    exact I.chain j e e' (by rw [List.getElem?_append_left a1]; exact h1) (by rw [List.getElem?_append_left a2]; exact h2)
  · have a1 := (List.getElem?_eq_some_iff.mp h1).1
    rcases I.done j e i' q' (by rw [List.getElem?_append_left a1]; exact h1) h2 h3 with y | y | ⟨_, y⟩
    · exact .inl (List.mem_append_left _ y)
    · by_cases x : j + 1 < fr.length
      · rw [List.getElem?_append_left x] at y; exact .inr (.inl y)
      · rw [List.getElem?_append_right (by lia), show j + 1 - fr.length = 0 by lia] at y
        simp at y; subst y
        exact .inl (by simp)
    · cases y
  · by_cases z : j < fin.length
    · rw [List.getElem?_append_left z] at hx
      rw [List.take_append_of_le_length (by lia)]
      exact I.fins j x hx q hq
    · have : j = fin.length := by have := (List.getElem?_eq_some_iff.mp hx).1; simp at this; lia
      subst this
      rw [List.getElem?_append_right (Nat.le_refl _), Nat.sub_self] at hx
      simp at hx; subst hx
      rw [List.take_append_of_le_length (Nat.le_refl _), List.take_length]
      obtain ⟨i', hi'⟩ := List.getElem?_of_mem hq
      have hlt := (List.getElem?_eq_some_iff.mp hi').1
      rcases I.done fr.length (k, p, w, i) i' q (by rw [List.getElem?_append_right (Nat.le_refl _), Nat.sub_self]; rfl) hi' (by show i' < p; lia) with y | y | ⟨_, y⟩
      · exact y
      · rw [List.getElem?_eq_none (by simp)] at y; cases y
      · cases y

theorem getD_app_lt {l m : List Int} {i : Nat} (h : i < l.length) : (l ++ m).getD i 0 = l.getD i 0 := by
  rw [List.getD_eq_getElem?_getD, List.getD_eq_getElem?_getD, List.getElem?_append_left h]

/-- the ring found -/
theorem FG.ring (I : FG sc keys fr seen fin cur) {q : Int} (hc : cur = some q) (hs : q ∈ fr.map (·.1)) (hk : keys.length ≤ 80) : RingS sc ((fr.map (·.1)).drop ((fr.map (·.1)).idxOf q) ++ [q]) := by
  generalize hns : fr.map (·.1) = ns at hs
  have hj : ns.idxOf q < ns.length := List.idxOf_lt_length_iff.mpr hs
  have hq : ns[ns.idxOf q] = q := List.getElem_idxOf hj
  have hnd : ns.Nodup := by have := I.nodup; rw [hns, List.nodup_append] at this; exact this.1
  have hlen : ns.length ≤ 80 := by have := (I.few hk).2; rw [← hns]; simpa using this
  generalize hJ : ns.idxOf q = J at hj hq
  have hdl : (ns.drop J).length = ns.length - J := List.length_drop ..
  have hgd : ∀ i, i < ns.length - J → (ns.drop J).getD i 0 = ns.getD (J + i) 0 := fun i hi => by
    rw [List.getD_eq_getElem?_getD, List.getD_eq_getElem?_getD, List.getElem?_drop]
  have hch : ∀ i, i + 1 < ns.length → ns.getD (i + 1) 0 ∈ sc (ns.getD i 0) := fun i hi => by
    have hl : ns.length = fr.length := by rw [← hns]; simp
    have e1 : fr[i]? = some (fr[i]'(by lia)) := List.getElem?_eq_getElem _
    have e2 : fr[i + 1]? = some (fr[i + 1]'(by lia)) := List.getElem?_eq_getElem _
    have := I.chain i _ _ e1 e2
    have g : ∀ j (h : j < fr.length), ns.getD j 0 = (fr[j]'h).1 := fun j h => by
      rw [← hns, List.getD_eq_getElem?_getD, List.getElem?_map, List.getElem?_eq_getElem h]; rfl
    rw [g i (by lia), g (i + 1) (by lia)]; exact this
  refine ⟨by simp; lia, by simp; lia, ?_, fun i hi => ?_, fun i hi => ?_⟩
  · rw [getD_app_lt (by lia), hgd 0 (by lia), Nat.add_zero]
    rw [List.getD_eq_getElem?_getD, List.getElem?_eq_getElem hj]
    simp only [List.length_append, List.length_cons, List.length_nil, hdl]
    rw [List.getD_eq_getElem?_getD, List.getElem?_append_right (by lia), hdl, show ns.length - J + (0 + 1) - 1 - (ns.length - J) = 0 by lia]
    simpa using hq
  · simp only [List.length_append, hdl, List.length_cons, List.length_nil] at hi
    rw [getD_app_lt (i := i) (by lia), hgd i (by lia)]
    by_cases z : i + 1 < ns.length - J
    · rw [getD_app_lt (by lia), hgd (i + 1) z]
      exact hch (J + i) (by lia)
    · have hi1 : i + 1 = ns.length - J := by lia
      have eq1 : (ns.drop J ++ [q]).getD (i + 1) 0 = q := by
        rw [List.getD_eq_getElem?_getD, List.getElem?_append_right (by lia), hdl, hi1, Nat.sub_self]; rfl
      rw [eq1]
      have hl : ns.length = fr.length := by rw [← hns]; simp
      have hlast : fr.getLast? = some (fr[J + i]'(by lia)) := by
        rw [List.getLast?_eq_getElem?, List.getElem?_eq_getElem (by lia)]
        congr 2; lia
      have := (I.cure q hc).2 _ hlast
      rw [← hns, List.getD_eq_getElem?_getD, List.getElem?_map, List.getElem?_eq_getElem (by lia)]; exact this
  · simp only [List.length_append, hdl, List.length_cons, List.length_nil] at hi
    rw [getD_app_lt (i := i) (by lia), hgd i (by lia), List.take_append_of_le_length (by lia)]
    intro hm
    obtain ⟨j, hj1, hj2⟩ := List.mem_take_iff_getElem.mp hm
    rw [List.getElem_drop] at hj2
    rw [List.getD_eq_getElem?_getD, List.getElem?_eq_getElem (by lia)] at hj2
    have := (List.getElem_inj hnd).mp hj2
    lia
end
end Mine
end

-- part D9
section
open PySem PySem.W PySem.Calls PyProof.Rows
set_option Elab.async false
set_option linter.unusedVariables false
set_option autoImplicit false
set_option maxRecDepth 100000
namespace Mine

theorem JS_ExprAny {ib : Bool} {c : CxB ib} {n : Nat} {F : Fm} {P : PS} {e : Expr} {pos : Pos} {Q : AF → PS → Prop} (h : JE c n F e P fun v P1 => Q .next P1)
    (hi : interactive F.env = false := by rfl) (hs : swapsWith e none pos.line F.env = pure false := by rfl) : JS c n F (.Expr e pos) P Q :=
  ⟨fun A s hr hp => wpAny_Expr_any (h.on hr hp fun v s1 P1 r1 f1 k1 => ⟨P1, r1, f1, k1⟩) hi hs⟩
theorem JE_item' {value slice : Expr} {pos : Pos} {c : Cx} {n : Nat} {F : Fm} {P : PS} {Q : AV → PS → Prop}
    (h : JE c n F value P fun o P1 => JE c n F slice P1 fun i P2 => ∃ a k x v, o = .ref a ∧ i = .int k ∧ gets c P2.H a = some x ∧ itemAt (some x) k = some v ∧ Q v P2) : JE c n F (.Subscript value slice pos) P Q := JE_item h

theorem refs_last {fr : List Sf} {e : Sf} (hz : fr.length < 1000) : itemAt (some (.list ((fr ++ [e]).map fun e => AV.ref e.2.2.1))) (-1) = some (.ref e.2.2.1) := by
  refine idx_last ?_ (by simp; lia)
  rw [List.map_append, List.map_cons, List.map_nil, List.getLast?_concat]

theorem find_ok {c : Cx} {n : Nat} {H : AH} {s : Addr} {X : SA} {nds : List Nd} {rd : Option (List Int)} {p f : Int} (S : Sorter H s X nds rd p f) (hz : nds.length ≤ 80) (hsu : ∀ nd ∈ nds, ∀ q ∈ nd.succ, q ∈ nds.map (·.k)) (hs8 : ∀ nd ∈ nds, nd.succ.length ≤ 80) :
    TC c (n + 1) (.ref 127) [.ref s] H fun v H' => HLe H H' ∧ ((v = .none ∧ ∃ fin : List Int, (∀ k ∈ nds.map (·.k), k ∈ fin) ∧ ∀ (i : Nat) k, fin[i]? = some k → ∀ q ∈ succOf nds k, q ∈ fin.take i) ∨
      ∃ r ring, v = .ref r ∧ H' r = some (.list (ring.map .int)) ∧ RingS (succOf nds) ring ∧ H r = none) := by
  let Q0 : AV → AH → Prop := fun v H' => HLe H H' ∧ ((v = .none ∧ ∃ fin : List Int, (∀ k ∈ nds.map (·.k), k ∈ fin) ∧ ∀ (i : Nat) k, fin[i]? = some k → ∀ q ∈ succOf nds k, q ∈ fin.take i) ∨ ∃ r ring, v = .ref r ∧ H' r = some (.list (ring.map .int)) ∧ RingS (succOf nds) ring ∧ H r = none)
  show TC _ _ _ _ _ Q0
  obtain ⟨ep0, hd0⟩ := S.dict
  have hkeys : ∀ k ∈ nds.map (·.k), ∀ q ∈ succOf nds k, q ∈ nds.map (·.k) := fun k hk q hq => by
    obtain ⟨i, nd, hi, rfl⟩ := key_at hk
    rw [succOf_get S.keys hi] at hq
    exact hsu nd (List.mem_of_getElem? hi) q hq
  have hkl : (nds.map (·.k)).length ≤ 80 := by simpa using hz
  refine TC_def [Str.ofString "self"] [Str.ofString "n2i", Str.ofString "stack", Str.ofString "itstack", Str.ofString "seen", Str.ofString "node2stacki", Str.ofString "node"] rfl rfl rfl (by kernel_rfl) rfl rfl ?_ (by decide) (by decide) (by decide) rfl rfl rfl rfl ?_
  · intro vs hvs
    rcases vs with _ | ⟨v1, _ | _⟩ <;> first | rfl | (simp at hvs)
  intro L
  refine JSS_cons (JS_set 1 (JE_attr (JE_N 0 (J_getOwn S.inst S.attrs (sl_1 ..) nofun (fa1 _) ?_))))
  refine JSS_cons (JS_set 2 (JE_List (JL_nil ⟨by decide, fun aS hS => ?_⟩)))
  refine JSS_cons (JS_set 3 (JE_List (JL_nil ⟨by decide, fun aI hI => ?_⟩)))
  refine JSS_cons (JS_set 4 (JE_set0 fun aE hE => ?_))
  refine JSS_cons (JS_set 5 (JE_dict0 fun aD hD => ?_))
  have y1 := gets_under hI
  have y2 := gets_under hE
  have y3 := gets_under y2.2
  have y4 := gets_under hD
  have y5 := gets_under y4.2
  have y6 := gets_under y5.2
  have I0 : FH H (upd (upd (upd (upd H aS (.list [])) aI (.list [])) aE (.set [])) aD (.dict [] 0)) nds aS aI aE aD [] [] := by
    refine ⟨?_, gets_H hS, gets_H y1.2, gets_H y3.2, gets_H y6.2, ?_, ?_, ?_, ⟨0, upd_self ..⟩, y1.1.symm, nofun, by simp⟩
    · exact ((((HLe.refl H).step (gets_H hS)).step (gets_H y1.2)).step (gets_H y3.2)).step (gets_H y6.2)
    · rw [upd_ne _ _ y6.1.symm, upd_ne _ _ y3.1.symm, upd_ne _ _ y1.1.symm, upd_self]; rfl
    · rw [upd_ne _ _ y5.1.symm, upd_ne _ _ y2.1.symm, upd_self]; rfl
    · rw [upd_ne _ _ y4.1.symm, upd_self]
  have F0 : FG (succOf nds) (nds.map (·.k)) [] [] [] none := ⟨by simp, rfl, by simp, by simp, by simp, nofun, by simp, by simp, nofun⟩
  let hI6 : Nat → PS → Prop := fun j P => ∃ (seen fin : List Int) (v6 : AV), P.m = [.ref s, .ref X.n, .ref aS, .ref aI, .ref aE, .ref aD, v6] ∧ FH H P.H nds aS aI aE aD [] seen ∧ FG (succOf nds) (nds.map (·.k)) [] seen fin none ∧ (∀ (i : Nat) k v, i < j → (entsOf nds X.t)[i]? = some (k, v) → k ∈ fin)
  refine JSS_cons (JS_ForDict (JE_N 1 ⟨X.n, entsOf nds X.t, ep0, hI6, rfl,
    ⟨_, MLe.refl _, HLe.refl _, [], [], .other, rfl, I0, F0, fun i k v h => absurd h (Nat.not_lt_zero _)⟩, ?_, ?_, ?_⟩))
  · rintro j P ⟨seen, fin, v6, _, I1, _⟩; exact I1.le _ _ hd0
  · rintro j node v ⟨m, G⟩ hv ⟨seen, fin, v6, hm, I1, F1, hpre⟩ u hu
    obtain rfl : m = _ := hm
    dsimp only at I1
    have hnode : node ∈ nds.map (·.k) := by
      rw [← entsOf_keys S.len]; exact List.mem_map_of_mem (f := (·.1)) (List.mem_of_getElem? hv)
    have hpre' : ∀ {fin' : List Int}, (∀ x ∈ fin, x ∈ fin') → node ∈ fin' → ∀ (i : Nat) k v, i < j + 1 → (entsOf nds X.t)[i]? = some (k, v) → k ∈ fin' := fun h1 h2 i k v hi hk => by
      by_cases z : i < j
      · exact h1 _ (hpre i k v z hk)
      · have : i = j := by lia
        subst this
        rw [hv] at hk; cases hk; exact h2
    refine J_asg 6 ?_
    rw [hu]
    refine JSS_cons (JS_If (JB_Compare (JE_N 6 (JE_N 4 (J_inSet (gets_of I1.se) ⟨_, rfl, fun hb => ?_, fun hb => ?_⟩)))))
    · have hb' : node ∈ seen := by simpa using hb
      refine JSS_cons (JS_Continue ⟨seen, fin, _, rfl, I1, F1, hpre' (fun _ h => h) ?_⟩)
      have := (F1.seenI node).mp hb'
      simpa using this
    · have hb' : node ∉ seen := by simpa using hb
      refine JSS_nil ?_
      let hI3 : AF → PS → Prop := fun fl P1 => match fl with
            | .next => ∃ (seen fin' : List Int) (v6 : AV), P1.m = [.ref s, .ref X.n, .ref aS, .ref aI, .ref aE, .ref aD, v6] ∧ FH H P1.H nds aS aI aE aD [] seen ∧ FG (succOf nds) (nds.map (·.k)) [] seen fin' none ∧ (∀ x ∈ fin, x ∈ fin') ∧ node ∈ fin'
            | .ret v => HLe H P1.H ∧ ∃ r ring, v = .ref r ∧ P1.H r = some (.list (ring.map .int)) ∧ RingS (succOf nds) ring ∧ H r = none
            | _ => False
      refine JSS_cons (J.mono (Q := hI3) ?_ ?_)
      · let hI1 : Nat → PS → Prop := fun k P => ∃ (fr : List Sf) (seen fin' : List Int) (q : Int), P.m = [.ref s, .ref X.n, .ref aS, .ref aI, .ref aE, .ref aD, .int q] ∧ FH H P.H nds aS aI aE aD fr seen ∧ FG (succOf nds) (nds.map (·.k)) fr seen fin' (some q) ∧
              (∀ x ∈ fin, x ∈ fin') ∧ (node ∈ seen ∨ q = node) ∧ total (succOf nds) (nds.map (·.k)) - used (succOf nds) fr fin' ≤ k
        refine JS_While (hI1) ?_ (total (succOf nds) (nds.map (·.k)) - used (succOf nds) [] fin) ⟨[], seen, fin, node, rfl, I1, F1.start hnode, fun _ h => h, .inr rfl, Nat.le_refl _⟩
        rintro k ⟨m, G⟩ ⟨fr, seen, fin', q, hm, I2, F2, hsub, hnq, hk⟩
        obtain rfl : m = _ := hm
        dsimp only at I2
        have few2 := F2.few hkl
        refine JB_value (JE_bool (J_truthb ⟨fun _ => ?_, nofun⟩))
        have hqk := (F2.cure q rfl).1
        let hI4 : AF → PS → Prop := fun fl P1 => match fl with
              | .next => ∃ (fr : List Sf) (seen : List Int) (v6 : AV), P1.m = [.ref s, .ref X.n, .ref aS, .ref aI, .ref aE, .ref aD, v6] ∧ FH H P1.H nds aS aI aE aD fr seen ∧ FG (succOf nds) (nds.map (·.k)) fr seen fin' none ∧ node ∈ seen ∧ total (succOf nds) (nds.map (·.k)) - used (succOf nds) fr fin' ≤ k
              | .ret v => HLe H P1.H ∧ ∃ r ring, v = .ref r ∧ P1.H r = some (.list (ring.map .int)) ∧ RingS (succOf nds) ring ∧ H r = none
              | _ => False
        refine JSS_cons (J.mono (Q := hI4) ?_ ?_)
        · obtain ⟨ep2, hd2⟩ := I2.di
          refine JS_If (JB_Compare (JE_N 6 (JE_N 4 (J_inSet (gets_of I2.se) ⟨_, rfl, fun hb2 => ?_, fun hb2 => ?_⟩))))
          · have hq2 : q ∈ seen := by simpa using hb2
            by_cases hst : q ∈ fr.map (·.1)
            · refine JSS_cons (JS_If (JB_Compare (JE_N 6 (JE_N 5 (J_inDict (gets_of hd2) ⟨_, rfl, fun hb3 => ?_, fun hb3 => ?_⟩)))))
              · refine JSS_cons (JS_Return (JE_BinOp (JE_from (JE_N 2 (JE_item (JE_N 5 (JE_N 6 ⟨aD, q, _, _, rfl, rfl, gets_of hd2, enumL_look 0 _ q hst, aS, _, (fr.map (·.1)).idxOf q, rfl, by rw [Nat.zero_add], gets_of I2.st, by simp; lia, fun r1 hr1 => JE_List (JL_cons (JE_N 6 (JL_nil ⟨by simp, fun r2 hr2 => J_concat (gets_of (H_keep hr2 (upd_self ..))) (gets_of (upd_self ..)) (by simp; lia) fun r3 hr3 => ?_⟩)))⟩)))))))
                have eR : (fr.map fun e => AV.int e.1).drop ((fr.map (·.1)).idxOf q) ++ [AV.int q] = ((fr.map (·.1)).drop ((fr.map (·.1)).idxOf q) ++ [q]).map .int := by
                  rw [List.map_append, List.map_drop, List.map_map]; rfl
                rw [eR]
                exact ⟨((I2.le.trans (HLe.upd (gets_H hr1))).trans (HLe.upd (gets_H hr2))).trans (HLe.upd (gets_H hr3)), r3, _, rfl, upd_self .., F2.ring rfl hst hkl, (((I2.le.trans (HLe.upd (gets_H hr1))).trans (HLe.upd (gets_H hr2)))).none (gets_H hr3)⟩
              · rw [enumL_look 0 _ q hst] at hb3; cases hb3
            · refine JSS_cons (JS_If (JB_Compare (JE_N 6 (JE_N 5 (J_inDict (gets_of hd2) ⟨_, rfl, fun hb3 => ?_, fun hb3 => ?_⟩)))))
              · rw [enumL_none hst] at hb3; cases hb3
              · exact JSS_nil (JSS_nil ⟨fr, seen, _, rfl, I2, F2.skip rfl hq2 hst, hnq.elim id (fun z => z ▸ hq2), hk⟩)
          · have hq2 : q ∉ seen := by simpa using hb2
            have hst : q ∉ fr.map (·.1) := fun z => hq2 ((F2.seenI q).mpr (.inl z))
            obtain ⟨i, nd, hi, hkq⟩ := key_at hqk
            obtain ⟨a, ha, _⟩ := entsOf_get S.len hi
            obtain ⟨n1, n2, n3⟩ := S.nodes i nd a hi ha
            have hsq : succOf nds q = nd.succ := by rw [← hkq]; exact succOf_get S.keys hi
            have hlk : (entsOf nds X.t).lookup q = some (.ref a.1) := by rw [← hkq]; exact S.look hi ha
            have nEe : ∀ {b : Addr} {o : AO}, H b = some o → b ≠ aE := fun e => ne_none e I2.hE
            refine JSS_cons (JS_Expr (JE_meth PySem.F.plainAttrs_set PySem.F.slot_set_add PySem.F.type_set_add (JE_N 4 ⟨aE, _, rfl, gets_of I2.se, rfl, JL_cons (JE_N 6 (JL_nil (J_setAdd I2.se (by lia) hq2 ⟨nofun, ?_⟩)))⟩)))
            have k1 : ∀ {b : Addr} {o : AO}, H b = some o → upd G aE (.set (q :: seen)) b = some o := fun e => upd_off (nEe e) (I2.le _ _ e)
            refine JSS_cons (JS_Expr (JE_meth PySem.F.plainAttrs_list PySem.F.slot_list_append PySem.F.type_list_append (JE_N 3 ⟨aI, _, rfl, gets_of (upd_at I2.se I2.it nofun), rfl, JL_cons (JE_attr (JE_iter (JE_attr (JE_item (JE_N 1 (JE_N 6 ⟨X.n, q, _, .ref a.1, rfl, rfl, gets_of (k1 hd0), hlk,
              J_getSucc (x := .int nd.k) (y := .int nd.np) (r := .ref a.2.2) (k1 n1) (k1 n2) nofun ⟨a.2.2, nd.succ.map .int, rfl, gets_of (k1 n3), fun it hit => J_getNext (upd_self ..) fun w hw => JL_nil (J_append (H_keep hw (H_keep hit (upd_at I2.se I2.it nofun))) (by simp; lia) ⟨nofun, ?_⟩)⟩⟩))))))⟩)))
            have g1 := gets_under hit
            have g2 := gets_under hw
            have g3 := gets_under g2.2
            have lw : HLe G (upd (upd G it (.liter a.2.2 0)) w (.next it)) := ((HLe.refl G).step (gets_H g1.2)).step (gets_H g3.2)
            have eG : upd (upd (upd G aE (.set (q :: seen))) it (.liter a.2.2 0)) w (.next it) = upd (upd (upd G it (.liter a.2.2 0)) w (.next it)) aE (.set (q :: seen)) := by
              rw [upd_comm G _ _ (Ne.symm g1.1), upd_comm _ _ _ (Ne.symm g3.1)]
            show JSS _ _ _ _ ⟨_, upd (upd (upd (upd G aE (.set (q :: seen))) it (.liter a.2.2 0)) w (.next it)) aI (.list (fr.map (fun e => AV.ref e.2.2.1) ++ [.ref w]))⟩ _
            rw [eG]
            have I5 := I2.of lw
            obtain ⟨ep5, hd5⟩ := I5.di
            generalize hG5 : upd (upd G it (.liter a.2.2 0)) w (.next it) = G5 at I5 hd5 ⊢
            have st5 : upd (upd G5 aE (.set (q :: seen))) aI (.list (fr.map (fun e => AV.ref e.2.2.1) ++ [.ref w])) aS = some (.list (fr.map fun e => AV.int e.1)) := upd_off I5.nSI (upd_at I5.se I5.st nofun)
            have d5 : upd (upd G5 aE (.set (q :: seen))) aI (.list (fr.map (fun e => AV.ref e.2.2.1) ++ [.ref w])) aD = some (.dict (enumL 0 (fr.map (·.1))) ep5) := upd_off (ne_of hd5 I5.it nofun) (upd_at I5.se hd5 nofun)
            refine JSS_cons (JS_setItem (JE_len (JE_N 2 ⟨aS, _, rfl, .inl (gets_of st5), by simp; lia, JE_N 5 (JE_N 6 (J_setDict d5 (by rw [enumL_len]; simp; lia) fun ep6 => ?_))⟩)))
            rw [dset_new (by rw [enumL_keys]; exact hst)]
            have eE : enumL 0 (fr.map (·.1)) ++ [(q, AV.int ((fr.map fun e => AV.int e.1).length : Int))] = enumL 0 (fr.map (·.1) ++ [q]) := by rw [enumL_snoc]; simp
            rw [eE]
            have st6 : upd (upd (upd G5 aE (.set (q :: seen))) aI (.list (fr.map (fun e => AV.ref e.2.2.1) ++ [.ref w]))) aD (.dict (enumL 0 (fr.map (·.1) ++ [q])) ep6) aS = some (.list (fr.map fun e => AV.int e.1)) := upd_off (ne_of I5.st hd5 nofun) st5
            refine JSS_cons (JS_Expr (JE_meth PySem.F.plainAttrs_list PySem.F.slot_list_append PySem.F.type_list_append (JE_N 2 ⟨aS, _, rfl, gets_of st6, rfl, JL_cons (JE_N 6 (JL_nil (J_append st6 (by simp; lia) ⟨nofun, ?_⟩)))⟩)))
            have I6 := I5.push (k := q) (w := w) (i := it) (l := a.2.2) (ep := ep6) (by rw [← hG5]; exact upd_self ..) (by rw [← hG5]; exact upd_off (Ne.symm g2.1) (upd_self ..)) (I2.le.none (gets_H g1.2)) (by rw [hsq]; exact n3) (fun e he => let ⟨_, _, _, z3, _⟩ := I2.fs e he; ne_none z3 (gets_H g1.2))
            refine JSS_nil ⟨fr ++ [(q, 0, w, it)], q :: seen, _, rfl, I6, F2.push rfl hq2 w it, ?_, ?_⟩
            · rcases hnq with z | z
              · exact List.mem_cons_of_mem _ z
              · rw [z]; simp
            · have : used (succOf nds) (fr ++ [(q, 0, w, it)]) fin' = used (succOf nds) fr fin' := by simp [used]
              rw [this]; exact hk
        · rintro fl ⟨m, G⟩ h
          match fl, h with
          | .ret v, h => exact h
          | .next, ⟨fr, seen, v6, hm, I3, F3, hns, hk3⟩ =>
            obtain rfl : m = _ := hm
            let hI2 : Nat → PS → Prop := fun m P => ∃ (fr : List Sf) (fin' : List Int) (v6 : AV), P.m = [.ref s, .ref X.n, .ref aS, .ref aI, .ref aE, .ref aD, v6] ∧ FH H P.H nds aS aI aE aD fr seen ∧ FG (succOf nds) (nds.map (·.k)) fr seen fin' none ∧
                  (∀ x ∈ fin, x ∈ fin') ∧ total (succOf nds) (nds.map (·.k)) - used (succOf nds) fr fin' ≤ k ∧ m = fr.length
            refine JSS_cons (JS_While (hI2) ?_ fr.length ⟨fr, fin', v6, rfl, I3, F3, hsub, hk3, rfl⟩)
            clear I3 F3 hsub hk3
            rintro m ⟨mm, G⟩ ⟨fr, fin', v6, hm, I3, F3, hsub, hk3, rfl⟩
            obtain rfl : mm = _ := hm
            dsimp only at I3
            have few3 := F3.few hkl
            refine JB_value (JE_N 2 (J_truthList (gets_of I3.st) (by simp; lia) ⟨fun hb => ?_, fun hb => ?_⟩))
            · obtain ⟨fr', e, rfl⟩ : ∃ fr' e, fr = fr' ++ [e] := by
                rcases List.eq_nil_or_concat fr with z | ⟨fr', e, z⟩
                · subst z; simp at hb
                · exact ⟨fr', e, by simpa using z⟩
              obtain ⟨k0, p0, w0, i0⟩ := e
              obtain ⟨z1, z2, l0, z3, z4⟩ := I3.fs (k0, p0, w0, i0) (by simp)
              have hk0 : k0 ∈ nds.map (·.k) := F3.keyI k0 (by simp)
              have hnd := F3.nodup
              have hk0n : k0 ∉ fr'.map (·.1) := fun z => by
                rw [List.map_append, List.nodup_append, List.nodup_append] at hnd
                exact hnd.1.2.2 _ z _ (by simp) rfl
              let hI5 : PS → Prop := fun P1 => P1 = ⟨[.ref s, .ref X.n, .ref aS, .ref aI, .ref aE, .ref aD, v6], del G i0⟩ ∧ (succOf nds k0)[p0]? = none
              refine JSS_cons (JS_Try (QE := hI5) (JX_cons (JX_set 6 (JX_next (JE_item (JE_N 3 (JE_USub (JE_int ⟨1, rfl, aI, -1, _, _, rfl, rfl, gets_of I3.it, refs_last (by simp at few3; lia), w0, i0, l0, p0, _, rfl, z1, z3, gets_of (I3.le _ _ z4), fun x hx => ?_, fun hx => ?_⟩))))))) (ev_stop rfl) mt_stop ?_)
              · obtain ⟨q', hq', rfl⟩ := map_int_get hx
                refine J.x (JSS_cons (JS_Break ?_))
                have I4 := (I3.next (l := l0)).resolve_right (fun z => z z3)
                have F4 := F3.next hq' (hkeys k0 hk0 q' (List.mem_of_getElem? hq'))
                have hb4 := F3.bound (List.getElem?_eq_some_iff.mp hq').1
                have hu4 : used (succOf nds) (fr' ++ [(k0, p0 + 1, w0, i0)]) fin' = used (succOf nds) (fr' ++ [(k0, p0, w0, i0)]) fin' + 1 := by simp [used]; lia
                exact JSS_nil ⟨total (succOf nds) (nds.map (·.k)) - used (succOf nds) (fr' ++ [(k0, p0 + 1, w0, i0)]) fin', by lia, _, seen, fin', q', rfl, I4, F4, hsub, .inl hns, Nat.le_refl _⟩
              · exact ⟨rfl, by simpa using hx⟩
              · rintro _ ⟨rfl, hend⟩
                obtain ⟨ep3, hd3⟩ := I3.di
                have st3 : del G i0 aS = some (.list (fr'.map (fun e => AV.int e.1) ++ [.int k0])) := by rw [del_ne _ (ne_of I3.st z3 nofun), I3.st, List.map_append]; rfl
                have it3 : del G i0 aI = some (.list (fr'.map (fun e => AV.ref e.2.2.1) ++ [.ref w0])) := by rw [del_ne _ (ne_of I3.it z3 nofun), I3.it, List.map_append]; rfl
                have di3 : del G i0 aD = some (.dict (enumL 0 ((fr' ++ [(k0, p0, w0, i0)]).map (·.1))) ep3) := by rw [del_ne _ (ne_of hd3 z3 nofun), hd3]
                have nDS : aD ≠ aS := ne_of hd3 I3.st nofun
                have nDI : aD ≠ aI := ne_of hd3 I3.it nofun
                refine JSS_cons (JS_delDict (JE_N 5 (JE_meth PySem.F.plainAttrs_list PySem.F.slot_list_pop PySem.F.type_list_pop (JE_N 2 ⟨aS, _, rfl, gets_of st3, rfl, JL_nil (J_pop (v := .int k0) st3 (by simp at few3 ⊢; lia) ⟨aD, _, ep3, k0, rfl, rfl, upd_off nDS di3, ?_, ?_, fun ep4 => ?_⟩)⟩))))
                · rw [enumL_look 0 _ k0 (by simp)]; rfl
                · rw [enumL_len]; simp at few3 ⊢; lia
                have it4 : upd (upd (del G i0) aS (.list (fr'.map fun e => AV.int e.1))) aD (.dict (ddel (enumL 0 ((fr' ++ [(k0, p0, w0, i0)]).map (·.1))) k0) ep4) aI = some (.list (fr'.map (fun e => AV.ref e.2.2.1) ++ [.ref w0])) := upd_off nDI.symm (upd_off I3.nSI.symm it3)
                refine JSS_cons (JS_ExprAny (JE_meth PySem.F.plainAttrs_list PySem.F.slot_list_pop PySem.F.type_list_pop (JE_N 3 ⟨aI, _, rfl, gets_of it4, rfl, JL_nil (J_pop it4 (by simp at few3 ⊢; lia) ?_)⟩)))
                have I5 := I3.pop (ep := ep4) hk0n
                have F5 := F3.pop hend
                have hlen0 : (succOf nds k0).length = p0 := by
                  have h1 := List.getElem?_eq_none_iff.mp hend
                  have h2 := F3.pos (k0, p0, w0, i0) (by simp)
                  simp only at h2; lia
                have hu5 : used (succOf nds) fr' (fin' ++ [k0]) = used (succOf nds) (fr' ++ [(k0, p0, w0, i0)]) fin' := by simp [used, hlen0]; lia
                exact JSS_nil (JSS_nil ⟨fr'.length, by simp, fr', fin' ++ [k0], _, rfl, I5, F5, fun x hx => List.mem_append_left _ (hsub x hx), by rw [hu5]; exact hk3, rfl⟩)
            · have hfr : fr = [] := by cases fr with
                | nil => rfl
                | cons a r => simp at hb
              subst hfr
              refine JSS_cons (JS_Break ?_)
              exact ⟨seen, fin', v6, rfl, I3, F3, hsub, by have := (F3.seenI node).mp hns; simpa using this⟩
      · rintro fl ⟨m, G⟩ h
        match fl, h with
        | .next, ⟨seen', fin', v6, hm, I3, F3, h1, h2⟩ =>
          obtain rfl : m = _ := hm
          exact JSS_nil ⟨seen', fin', v6, rfl, I3, F3, hpre' h1 h2⟩
        | .ret v, h => exact ⟨h.1, .inr h.2⟩
  · rintro ⟨m, G⟩ ⟨seen, fin, v6, hm, I1, F1, hpre⟩
    obtain rfl : m = _ := hm
    refine JSS_nil (JSS_cons (JS_Return (JE_none ⟨I1.le, .inl ⟨rfl, fin, fun k hk => ?_, F1.fins⟩⟩)))
    obtain ⟨i, nd, hi, rfl⟩ := key_at hk
    obtain ⟨a, ha, he⟩ := entsOf_get S.len hi
    exact hpre i nd.k _ (List.getElem?_eq_some_iff.mp he).1 he
end Mine
end

-- part D10
section
open PySem PySem.W PySem.Calls PyProof.Rows
set_option Elab.async false
set_option linter.unusedVariables false
set_option autoImplicit false
set_option maxRecDepth 100000
namespace Mine

theorem J_truthNone {c : Cx} {n : Nat} {F : Fm} {P : PS} {Q : Bool → PS → Prop} (h : Q false P) : ∀ u, abs u = .none → J c n F id (truthy u) P Q :=
  fun u e => ⟨fun A s hr hp => by obtain rfl := abs_none e; exact wpAny_pure ⟨P, hp, FF.refl _ _ _, h⟩⟩

noncomputable def zeros (nds : List Nd) : List Int := (nds.filter fun nd => nd.np == 0).map (·.k)

theorem Sorter.prep {H : AH} {s : Addr} {X : SA} {nds : List Nd} {p f : Int} (S : Sorter H s X nds none p f) {r : Addr} {l : List Int} (hr : H r = none) :
    Sorter (upd (upd H r (.list (l.map .int))) X.d (.attrs (sAttrs (.ref X.n) (.ref r) (.int p) (.int f)))) s ⟨X.d, X.n, r, X.t⟩ nds (some l) p f ∧
    Keep H (fp s X none) (upd (upd H r (.list (l.map .int))) X.d (.attrs (sAttrs (.ref X.n) (.ref r) (.int p) (.int f)))) (fp s ⟨X.d, X.n, r, X.t⟩ (some l)) := by
  obtain ⟨ep, hd⟩ := S.dict
  have k : ∀ {a : Addr} {o : AO}, H a = some o → a ≠ X.d → upd (upd H r (.list (l.map .int))) X.d (.attrs (sAttrs (.ref X.n) (.ref r) (.int p) (.int f))) a = some o := fun e n => upd_off n (upd_off (ne_none e hr) e)
  have hrt : r ∉ X.t.map (·.2.2) := fun m => S.known hr (by
    obtain ⟨a, ha, rfl⟩ := List.mem_map.mp m
    obtain ⟨i, hi⟩ := List.getElem?_of_mem ha
    exact (fp_set hi).2.2)
  have hrd : r ≠ X.d := (ne_none S.attrs hr).symm
  refine ⟨⟨k S.inst (ne_of S.inst S.attrs nofun), upd_self .., fun l' e => ?_, ⟨ep, k hd (ne_of hd S.attrs nofun)⟩, S.len, fun i nd a h1 h2 => ?_, S.nd1, S.nd2, S.keys⟩, fun a o e n => ⟨k e fun q => n (by subst q; simp [fp]), fun m => ?_⟩⟩
  · cases e; exact ⟨by rw [upd_ne _ _ hrd, upd_self], hrt⟩
  · obtain ⟨m1, m2, m3⟩ := S.nodes i nd a h1 h2
    refine ⟨k m1 (ne_of m1 S.attrs nofun), k m2 (ne_of m2 S.attrs (fun e => by cases e)), k m3 (ne_of m3 S.attrs nofun)⟩
  · have : a ∈ fp s X none ∨ a = r := by
      simp only [fp, List.mem_cons, List.mem_append, Option.isSome, if_true, List.mem_singleton, List.not_mem_nil, or_false, false_or, Bool.false_eq_true, if_false, List.nil_append] at m ⊢
      rcases m with h | h | h | h | h
      · exact .inl (.inl h)
      · exact .inl (.inr (.inl h))
      · exact .inl (.inr (.inr (.inl h)))
      · exact .inr h
      · exact .inl (.inr (.inr (.inr h)))
    rcases this with z | z
    · exact n z
    · subst z; rw [hr] at e; cases e

theorem ni127 (w : World) : findIn (KW w) (.ref 137) "_find_cycle" = some (some (.ref 127)) := by kernel_rfl
theorem tf127 (w : World) : typeIn (KW w) (.ref 127) = some (.type "function") := by kernel_rfl
theorem kf127 (w : World) : ∃ o fd, (KW w).lookup 127 = some o ∧ o.data = .func fd := ⟨_, _, rfl, rfl⟩

theorem prepare_ok {c : Cx} {n : Nat} {H : AH} {s : Addr} {X : SA} {nds : List Nd} {p f : Int} (S : Sorter H s X nds none p f) (hz : nds.length ≤ 80) (hsu : ∀ nd ∈ nds, ∀ q ∈ nd.succ, q ∈ nds.map (·.k)) (hs8 : ∀ nd ∈ nds, nd.succ.length ≤ 80) :
    TCX c (n + 2) (.ref 92) [.ref s] H (fun v H' => v = .none ∧ (∃ X', Sorter H' s X' nds (some (zeros nds)) p f ∧ Keep H (fp s X none) H' (fp s X' (some (zeros nds)))) ∧
        ∃ fin : List Int, (∀ k ∈ nds.map (·.k), k ∈ fin) ∧ ∀ (i : Nat) k, fin[i]? = some k → ∀ q ∈ succOf nds k, q ∈ fin.take i) (.ref 55)
      fun H' => (∃ X', Sorter H' s X' nds (some (zeros nds)) p f ∧ Keep H (fp s X none) H' (fp s X' (some (zeros nds)))) ∧ ∃ ring, RingS (succOf nds) ring := by
  obtain ⟨ep, hd⟩ := S.dict
  refine TC_defX [Str.ofString "self"] [Str.ofString "cycle"] rfl rfl rfl (by kernel_rfl) rfl rfl ?_ (by decide) (by decide) (by decide) rfl rfl rfl rfl ?_
  · intro vs hvs
    rcases vs with _ | ⟨v1, _ | _⟩ <;> first | rfl | (simp at hvs)
  intro L
  refine JX_cons (J.x (JS_If (JB_Compare (JE_attr (JE_N 0 (J_getOwn S.inst S.attrs (sl_2 ..) nofun (fa2 _) (JE_none (J_isnot ⟨_, rfl, ?_, fun _ => ?_⟩))))))))
  · intro h; simp [isNone, rdv] at h
  refine JSS_nil ?_
  refine JX_cons (J.x (JS_setAttr (JE_comp (cl := []) [Str.ofString "i"] rfl (by decide) (by intro x hx; simp at hx; subst hx; exact ⟨rfl, rfl⟩) rfl (by decide) (by decide)
    (JE_meth PySem.F.plainAttrs_dict PySem.F.slot_dict_values PySem.F.type_dict_values (JE_attr (JE_N 0 (J_getOwn S.inst S.attrs (sl_1 ..) nofun (fa1 _) ⟨X.n, _, rfl, gets_of hd, rfl, JL_nil (J_values hd fun vv hvv => ?_)⟩)))))))
  have hvv0 := gets_H hvv
  have S0 := S.frame (o := .vals X.n) (S.known hvv0)
  have hd0 : upd H vv (.vals X.n) X.n = some (.dict (entsOf nds X.t) ep) := upd_off (ne_none hd hvv0) hd
  have K0 : Keep H (fp s X none) (upd H vv (.vals X.n)) (fp s X none) := Keep.new hvv0
  generalize hG0 : upd H vv (.vals X.n) = G0 at S0 hd0 K0 ⊢
  refine ⟨_, _, _, fun D k G acc => G = G0 ∧ acc = ((nds.take k).filter fun nd => nd.np == 0).map (fun nd => AV.int nd.k), G0, mk_vals (v := vv) (d := X.n) (by rw [← hG0]; exact upd_self ..) hd0, HLe.refl _, fun _ _ => ⟨rfl, rfl⟩, ?_, ?_, ?_⟩
  · rintro D k G acc hD hk ⟨rfl, rfl⟩
    refine ⟨upd_off (ne_none hd0 (gets_H hD)) hd0, ?_⟩
    have := List.length_filter_le (fun nd : Nd => nd.np == 0) (nds.take k)
    simp at this ⊢; lia
  · rintro D Cl k v G acc hD hv ⟨rfl, rfl⟩ u hu
    rw [List.getElem?_map] at hv
    obtain ⟨⟨kk, v'⟩, he, rfl⟩ := Option.map_eq_some_iff.mp hv
    have hlt : k < nds.length := by
      have := (List.getElem?_eq_some_iff.mp he).1
      rw [show (entsOf nds X.t).length = nds.length by have := congrArg List.length (entsOf_keys S.len (nds := nds)); simpa using this] at this; exact this
    have hnd : nds[k]? = some nds[k] := List.getElem?_eq_getElem hlt
    obtain ⟨a, ha, he2⟩ := entsOf_get S.len hnd
    rw [he] at he2
    cases he2
    obtain ⟨n1, n2, n3⟩ := S0.nodes k nds[k] a hnd ha
    have lD : ∀ {b : Addr} {o : AO}, G b = some o → upd G D (.list (((nds.take k).filter fun nd => nd.np == 0).map fun nd => AV.int nd.k)) b = some o := fun e => upd_off (ne_none e (gets_H hD)) e
    refine J_asg 0 ?_
    rw [hu]
    refine CB_one (JB_Compare (JE_attr (JE_N 0 (v := .ref a.1) (J_getNp (x := .int nds[k].k) (r := .int nds[k].np) (y := .ref a.2.2) (lD n1) (lD n2) nofun (JE_int (J_eq ⟨_, rfl, fun hb => ⟨G, HLe.refl _, rfl, ?_⟩, fun hb => ?_⟩))))))
    · rw [filter_take_succ _ hnd, hb]; simp
    · refine JE_attr (JE_N 0 (v := .ref a.1) (J_getNode (r := .int nds[k].k) (x := .int nds[k].np) (y := .ref a.2.2) (lD n1) (lD n2) nofun ⟨G, HLe.refl _, rfl, ?_⟩))
      rw [filter_take_succ _ hnd, hb]; simp
  · rintro D G acc hD ⟨rfl, rfl⟩
    have hlen : (List.map (fun p : Int × AV => p.2) (entsOf nds X.t)).length = nds.length := by have := congrArg List.length (entsOf_keys S.len (nds := nds)); simpa using this
    rw [List.take_of_length_le (l := nds) (by lia)]
    have eZ : (nds.filter fun nd => nd.np == 0).map (fun nd => AV.int nd.k) = (zeros nds).map .int := by unfold zeros; rw [List.map_map]; rfl
    rw [eZ]
    have hD0 := gets_H hD
    have SD := S0.frame (o := .list ((zeros nds).map .int)) (S0.known hD0)
    refine JE_N 0 (J_setOwn (by simp [sAttrs]) SD.inst SD.attrs (tk2 _) ?_)
    rw [ss2]
    obtain ⟨S1, K1⟩ := S0.prep (l := zeros nds) hD0
    have K1' := K0.trans K1
    show JX _ _ _ _ _ ⟨_, upd (upd G D (.list ((zeros nds).map .int))) X.d (.attrs (sAttrs (.ref X.n) (.ref D) (.int p) (.int f)))⟩ _ _ _
    generalize hG1 : upd (upd G D (.list ((zeros nds).map .int))) X.d (.attrs (sAttrs (.ref X.n) (.ref D) (.int p) (.int f))) = G1 at S1 K1' ⊢
    obtain ⟨fo, fd, hf1, hf2⟩ := kf127 c.w
    refine JX_cons (J.x (JS_set 1 (JE_methFn (ni127 _) (tf127 _) hf1 hf2 (JE_N 0 ⟨s, X.d, _, rfl, S1.inst, S1.attrs, sl_none _ _ _ _ _ (by decide) (by decide) (by decide) (by decide), JL_nil (TC.mono (find_ok S1 hz hsu hs8) ?_)⟩))))
    rintro v H2 ⟨hle, ⟨rfl, hfin⟩ | ⟨r, ring, rfl, hr, hring, _⟩⟩
    · have S2 := S1.mono fun a _ o e => hle a o e
      have K2 : Keep H (fp s X none) H2 (fp s ⟨X.d, X.n, D, X.t⟩ (some (zeros nds))) := fun a o e n => let ⟨z1, z2⟩ := K1' a o e n; ⟨hle _ _ z1, z2⟩
      refine JX_cons (J.x (JS_If (JB_value (JE_N 1 (J_truthNone ⟨nofun, fun _ => JSS_nil (J.x (JSS_nil ⟨rfl, ⟨_, S2, K2⟩, hfin⟩))⟩)))))
    · have S2 := S1.mono fun a _ o e => hle a o e
      have K2 : Keep H (fp s X none) H2 (fp s ⟨X.d, X.n, D, X.t⟩ (some (zeros nds))) := fun a o e n => let ⟨z1, z2⟩ := K1' a o e n; ⟨hle _ _ z1, z2⟩
      refine JX_cons (JX_If (JB_value (JE_N 1 (J_truthList (gets_of hr) (by have := hring.few; simp; lia) ⟨fun _ => ?_, fun hb => ?_⟩))))
      · refine JX_cons (JX_cycle (JL_cons (JE_fstr (JL_cons (JE_N 1 (JL_nil ⟨by simp, ⟨_, S2, K2⟩, ring, hring⟩))))))
      · have := hring.two
        cases ring with
        | nil => simp at this
        | cons a r => simp at hb
end Mine
end

-- part E1
section
set_option Elab.async false
set_option genSizeOf false
set_option genInjectivity false
set_option linter.unusedVariables false
set_option autoImplicit false
namespace Mine

/-! ### heaps, plain -/
noncomputable def HP (k : Nat) (xs : List Int) : Prop := ∀ j, 0 < j → j < xs.length → k ≤ (j - 1) / 2 → xs.getD ((j - 1) / 2) 0 ≤ xs.getD j 0
inductive Desc (k : Nat) : Nat → Prop
  | refl : Desc k k
  | left {q : Nat} : Desc k q → Desc k (2 * q + 1)
  | right {q : Nat} : Desc k q → Desc k (2 * q + 2)
theorem Desc.le {k q : Nat} (h : Desc k q) : k ≤ q := by induction h <;> lia
theorem Desc.up {k q : Nat} (h : Desc k q) (n : q ≠ k) : Desc k ((q - 1) / 2) ∧ k < q := by
  cases h with
  | refl => exact absurd rfl n
  | @left q h => exact ⟨by rw [show (2 * q + 1 - 1) / 2 = q by lia]; exact h, by have := h.le; lia⟩
  | @right q h => exact ⟨by rw [show (2 * q + 2 - 1) / 2 = q by lia]; exact h, by have := h.le; lia⟩

theorem gset_self {xs : List Int} {i : Nat} {v : Int} (h : i < xs.length) : (xs.set i v).getD i 0 = v := by
  rw [List.getD_eq_getElem?_getD, List.getElem?_set_self h]; rfl
theorem gset_ne {xs : List Int} {i j : Nat} {v : Int} (h : i ≠ j) : (xs.set i v).getD j 0 = xs.getD j 0 := by
  rw [List.getD_eq_getElem?_getD, List.getElem?_set_ne h, List.getD_eq_getElem?_getD]

/-- all is in order but at the hole q -/
noncomputable def Hole (k q : Nat) (zs : List Int) : Prop := ∀ j, 0 < j → j < zs.length → k ≤ (j - 1) / 2 → j ≠ q → (j - 1) / 2 ≠ q → zs.getD ((j - 1) / 2) 0 ≤ zs.getD j 0
noncomputable def Grand (k q : Nat) (zs : List Int) : Prop := q ≠ k → ∀ j, 0 < j → j < zs.length → (j - 1) / 2 = q → zs.getD ((q - 1) / 2) 0 ≤ zs.getD j 0

theorem sdown_hp (k : Nat) (new : Int) (zs : List Int) (q : Nat) (hq : q < zs.length) (hD : Desc k q) (h1 : Hole k q zs) (h2 : Grand k q zs) (h3 : ∀ j, 0 < j → j < zs.length → (j - 1) / 2 = q → new ≤ zs.getD j 0) : HP k (sdown k new zs q) := by
  have fin : ∀ (zs : List Int) (q : Nat), q < zs.length → Hole k q zs → (∀ j, 0 < j → j < zs.length → (j - 1) / 2 = q → new ≤ zs.getD j 0) → (k ≤ (q - 1) / 2 → 0 < q → zs.getD ((q - 1) / 2) 0 ≤ new) → HP k (zs.set q new) := by
    intro zs q hq h1 h3 h4 j j0 jl jk
    rw [List.length_set] at jl
    by_cases e1 : j = q
    · subst e1
      rw [gset_self jl, gset_ne (by lia)]
      exact h4 jk j0
    · rw [gset_ne (Ne.symm e1)]
      by_cases e2 : (j - 1) / 2 = q
      · rw [e2, gset_self hq]; exact h3 j j0 jl e2
      · rw [gset_ne (Ne.symm e2)]; exact h1 j j0 jl jk e1 e2
  refine sdown_ind (M := fun zs q r => q < zs.length → Desc k q → Hole k q zs → Grand k q zs → (∀ j, 0 < j → j < zs.length → (j - 1) / 2 = q → new ≤ zs.getD j 0) → HP k r) ?_ ?_ zs q hq hD h1 h2 h3
  · intro zs q hlt hnew r ih hq hD h1 h2 h3
    obtain ⟨hu, _⟩ := hD.up (by lia)
    have hul := hu.le
    refine ih (by simp; lia) hu ?_ ?_ ?_
    · intro j j0 jl jk n1 n2
      rw [List.length_set] at jl
      by_cases e1 : j = q
      · subst e1; exact absurd rfl n2
      · rw [gset_ne (Ne.symm e1)]
        by_cases e2 : (j - 1) / 2 = q
        · rw [e2, gset_self hq]
          exact h2 (by lia) j j0 jl e2
        · rw [gset_ne (Ne.symm e2)]; exact h1 j j0 jl jk e1 e2
    · intro nk j j0 jl jp
      rw [List.length_set] at jl
      obtain ⟨hu2, hlt2⟩ := hu.up nk
      have hpar := h1 ((q - 1) / 2) (by lia) (by lia) hu2.le (by lia) (by lia)
      rw [gset_ne (show q ≠ ((q - 1) / 2 - 1) / 2 by lia)]
      by_cases e1 : j = q
      · subst e1; rw [gset_self jl]; exact hpar
      · rw [gset_ne (Ne.symm e1)]
        have := h1 j j0 jl (by lia) e1 (by lia)
        rw [jp] at this; lia
    · intro j j0 jl jp
      rw [List.length_set] at jl
      by_cases e1 : j = q
      · subst e1; rw [gset_self jl]; lia
      · rw [gset_ne (Ne.symm e1)]
        have := h1 j j0 jl (by lia) e1 (by lia)
        rw [jp] at this; lia
  · intro zs q hno hq hD h1 h2 h3
    refine fin zs q hq h1 h3 fun hk q0 => ?_
    by_cases e : q = k
    · lia
    · have := hno (hD.up e).2; lia

theorem kid_or (xs : List Int) (p : Nat) : kid xs p = 2 * p + 1 ∨ kid xs p = 2 * p + 2 := by unfold kid; split <;> simp
theorem kid_yes {ys : List Int} {p : Nat} (h : 2 * p + 2 < ys.length ∧ ¬ ys.getD (2 * p + 1) 0 < ys.getD (2 * p + 2) 0) : kid ys p = 2 * p + 2 := if_pos h
theorem kid_no {ys : List Int} {p : Nat} (h : ¬ (2 * p + 2 < ys.length ∧ ¬ ys.getD (2 * p + 1) 0 < ys.getD (2 * p + 2) 0)) : kid ys p = 2 * p + 1 := if_neg h
theorem sups_hp (k : Nat) (ys : List Int) (p : Nat) (hp : p < ys.length) (hD : Desc k p) (h1 : Hole k p ys) (h2 : Grand k p ys) :
    Desc k (sups ys p).1 ∧ Hole k (sups ys p).1 (sups ys p).2 ∧ ys.length ≤ 2 * (sups ys p).1 + 1 := by
  refine sups_ind (M := fun ys p r => p < ys.length → Desc k p → Hole k p ys → Grand k p ys → Desc k r.1 ∧ Hole k r.1 r.2 ∧ ys.length ≤ 2 * r.1 + 1) ?_ ?_ ys p hp hD h1 h2
  · intro ys p h r ih hp hD h1 h2
    rw [List.length_set] at ih
    have hch := kid_or ys p
    have hcl := (kid_lt ys p h).2
    have hle : ∀ j, 0 < j → j < ys.length → (j - 1) / 2 = p → ys.getD (kid ys p) 0 ≤ ys.getD j 0 := by
      intro j j0 jl jp
      have : j = 2 * p + 1 ∨ j = 2 * p + 2 := by lia
      by_cases hc : 2 * p + 2 < ys.length ∧ ¬ ys.getD (2 * p + 1) 0 < ys.getD (2 * p + 2) 0
      · rw [kid_yes hc]
        rcases this with rfl | rfl
        · have := hc.2; lia
        · exact Int.le_refl _
      · rw [kid_no hc]
        rcases this with rfl | rfl
        · exact Int.le_refl _
        · have : ys.getD (2 * p + 1) 0 < ys.getD (2 * p + 2) 0 := by
            by_cases z : ys.getD (2 * p + 1) 0 < ys.getD (2 * p + 2) 0
            · exact z
            · exact absurd ⟨jl, z⟩ hc
          lia
    generalize kid ys p = ch at *
    have hDc : Desc k ch := by rcases hch with e | e <;> rw [e]; exact .left hD; exact .right hD
    have hpc : (ch - 1) / 2 = p := by lia
    have hkp := hD.le
    refine ih hcl hDc ?_ ?_
    · intro j j0 jl jk n1 n2
      rw [List.length_set] at jl
      by_cases e1 : j = p
      · subst e1
        rw [gset_self hp, gset_ne (by lia)]
        exact h2 (by lia) ch (by lia) hcl hpc
      · rw [gset_ne (Ne.symm e1)]
        by_cases e2 : (j - 1) / 2 = p
        · rw [e2, gset_self hp]; exact hle j j0 jl e2
        · rw [gset_ne (Ne.symm e2)]; exact h1 j j0 jl jk e1 e2
    · intro nk j j0 jl jp
      rw [List.length_set] at jl
      rw [hpc, gset_self hp, gset_ne (by lia)]
      have := h1 j j0 jl (by lia) (by lia) (by lia)
      rw [jp] at this; exact this
  · intro ys p h hp hD h1 h2
    exact ⟨hD, h1, by dsimp only; lia⟩

theorem sup_hp (k : Nat) (xs : List Int) (hk : k < xs.length) (h : HP (k + 1) xs) : HP k (sup xs k) := by
  obtain ⟨hD, hH, hl⟩ := sups_hp k xs k hk .refl (fun j j0 jl jk n1 n2 => h j j0 jl (by lia)) (fun n => absurd rfl n)
  unfold sup
  have hlt := sups_lt xs k hk
  have hlen := sups_len xs k
  refine sdown_hp k _ _ _ (by rw [List.length_set, hlen]; exact hlt) hD ?_ ?_ ?_
  · intro j j0 jl jk n1 n2
    rw [gset_ne (Ne.symm n1), gset_ne (Ne.symm n2)]
    exact hH j j0 (by rw [List.length_set] at jl; exact jl) jk n1 n2
  · intro n j j0 jl jp
    rw [List.length_set, hlen] at jl; lia
  · intro j j0 jl jp
    rw [List.length_set, hlen] at jl; lia

/-! the same things stand in it -/
theorem swap_perm {l : List Int} {p q : Nat} {v : Int} (hp : p < l.length) (hq : q < l.length) (hne : p ≠ q) : ((l.set p (l.getD q 0)).set q v).Perm (l.set p v) := by
  have h := List.set_set_perm (as := l.set p v) (i := p) (j := q) (by simpa using hp) (by simpa using hq)
  have e1 : (l.set p v)[q]'(by simpa using hq) = l.getD q 0 := by
    rw [List.getElem_set_ne hne, List.getD_eq_getElem?_getD, List.getElem?_eq_getElem hq]; rfl
  have e2 : (l.set p v)[p]'(by simpa using hp) = v := List.getElem_set_self ..
  rw [e1, e2, List.set_set] at h
  exact h
theorem sdown_perm (k : Nat) (new : Int) (zs : List Int) (q : Nat) (hq : q < zs.length) : (sdown k new zs q).Perm (zs.set q new) := by
  exact sdown_ind (M := fun zs q r => q < zs.length → r.Perm (zs.set q new)) (fun zs q hlt hnew r ih hq => (ih (by rw [List.length_set]; lia)).trans (swap_perm hq (by lia) (by lia))) (fun _ _ _ _ => List.Perm.refl _) zs q hq
theorem sups_perm (ys : List Int) (p : Nat) (v : Int) (hp : p < ys.length) : ((sups ys p).2.set (sups ys p).1 v).Perm (ys.set p v) := by
  refine sups_ind (M := fun ys p r => p < ys.length → (r.2.set r.1 v).Perm (ys.set p v)) ?_ (fun _ _ _ _ => List.Perm.refl _) ys p hp
  intro ys p h r ih hp
  have hk := kid_lt ys p h
  exact (ih (by rw [List.length_set]; exact hk.2)).trans (swap_perm hp hk.2 (by lia))
theorem set_same {xs : List Int} {k : Nat} (h : k < xs.length) : xs.set k (xs.getD k 0) = xs := by
  rw [List.getD_eq_getElem?_getD, List.getElem?_eq_getElem h]; exact List.set_getElem_self h
theorem sup_perm (xs : List Int) (k : Nat) (hk : k < xs.length) : (sup xs k).Perm xs := by
  unfold sup
  have hlt := sups_lt xs k hk
  have hlen := sups_len xs k
  refine (sdown_perm k _ _ _ (by rw [List.length_set, hlen]; exact hlt)).trans ?_
  rw [List.set_set]
  have := sups_perm xs k (xs.getD k 0) hk
  rwa [set_same hk] at this

theorem hpush_hp {xs : List Int} {x : Int} (h : HP 0 xs) : HP 0 (hpush xs x) := by
  unfold hpush
  have hd : ∀ q, Desc 0 q := by
    intro q
    induction q using Nat.strongRecOn with
    | _ q ih =>
      by_cases z : q = 0
      · subst z; exact .refl
      · rcases Nat.mod_two_eq_zero_or_one q with e | e
        · have := Desc.right (ih ((q - 2) / 2) (by lia)); rwa [show 2 * ((q - 2) / 2) + 2 = q by lia] at this
        · have := Desc.left (ih ((q - 1) / 2) (by lia)); rwa [show 2 * ((q - 1) / 2) + 1 = q by lia] at this
  have g : ∀ j, j < xs.length → (xs ++ [x]).getD j 0 = xs.getD j 0 := fun j hj => by
    rw [List.getD_eq_getElem?_getD, List.getElem?_append_left hj, List.getD_eq_getElem?_getD]
  refine sdown_hp 0 x _ _ (by simp) (hd _) ?_ ?_ ?_
  · intro j j0 jl jk n1 n2
    simp at jl
    rw [g j (by lia), g _ (by lia)]
    exact h j j0 (by lia) jk
  · intro n j j0 jl jp; simp at jl; lia
  · intro j j0 jl jp; simp at jl; lia
theorem hpush_perm (xs : List Int) (x : Int) : (hpush xs x).Perm (xs ++ [x]) := by
  unfold hpush
  have := sdown_perm 0 x (xs ++ [x]) xs.length (by simp)
  rwa [show (xs ++ [x]).set xs.length x = xs ++ [x] by simp] at this

theorem HP.drop {k : Nat} {x y : Int} {xs : List Int} (h : HP 0 (x :: xs)) : HP 1 (y :: xs) := by
  intro j j0 jl jk
  have := h j j0 (by simpa using jl) (by lia)
  have e : ∀ i, 0 < i → (y :: xs).getD i 0 = (x :: xs).getD i 0 := fun i hi => by cases i with
    | zero => lia
    | succ i => rfl
  rw [e _ (by lia), e j j0]; exact this
theorem HP.init {k : Nat} {xs : List Int} {y : Int} (h : HP k (xs ++ [y])) : HP k xs := by
  intro j j0 jl jk
  have := h j j0 (by simp; lia) jk
  have g : ∀ j, j < xs.length → (xs ++ [y]).getD j 0 = xs.getD j 0 := fun j hj => by
    rw [List.getD_eq_getElem?_getD, List.getElem?_append_left hj, List.getD_eq_getElem?_getD]
  rw [g _ (by lia), g j jl] at this; exact this

theorem hpop_hp {x : Int} {xs : List Int} (h : HP 0 (x :: xs)) : HP 0 (hpop (x :: xs)) ∧ (hpop (x :: xs)).Perm xs := by
  rcases List.eq_nil_or_concat xs with z | ⟨ys, y, z⟩
  · subst z; exact ⟨fun j j0 jl => by simp [hpop] at jl, List.Perm.refl _⟩
  · rw [List.concat_eq_append] at z
    subst z
    have e : hpop (x :: (ys ++ [y])) = sup (y :: ys) 0 := by
      unfold hpop
      rw [show x :: (ys ++ [y]) = (x :: ys) ++ [y] by simp, List.dropLast_concat, List.getLast?_concat]; rfl
    rw [e]
    have h' : HP 0 (x :: ys) := HP.init (y := y) (by simpa using h)
    refine ⟨sup_hp 0 _ (by simp) (HP.drop (k := 0) h'), ?_⟩
    exact (sup_perm _ 0 (by simp)).trans (by simpa using (List.perm_append_singleton y ys).symm)
theorem hrepl_hp {x y : Int} {xs : List Int} (h : HP 0 (x :: xs)) : HP 0 (hrepl (x :: xs) y) ∧ (hrepl (x :: xs) y).Perm (y :: xs) :=
  ⟨sup_hp 0 _ (by simp) (HP.drop (k := 0) h), sup_perm _ 0 (by simp)⟩
theorem hpp_hp {y : Int} {xs : List Int} (h : HP 0 xs) : HP 0 (hpp xs y).2 ∧ ((hpp xs y).1 :: (hpp xs y).2).Perm (y :: xs) := by
  cases xs with
  | nil => exact ⟨h, List.Perm.refl _⟩
  | cons x r =>
    unfold hpp
    dsimp only
    split
    · exact ⟨sup_hp 0 _ (by simp) (HP.drop (k := 0) h), ((sup_perm (y :: r) 0 (by simp)).cons x).trans (List.Perm.swap y x r)⟩
    · exact ⟨h, List.Perm.refl _⟩
theorem hpfy_hp (xs : List Int) : HP 0 (hpfy xs) ∧ (hpfy xs).Perm xs := by
  have : ∀ k, k ≤ xs.length / 2 → HP (xs.length / 2 - k) (hpfyK xs k) ∧ (hpfyK xs k).Perm xs := by
    intro k
    induction k with
    | zero =>
      intro _
      refine ⟨fun j j0 jl jk => ?_, List.Perm.refl _⟩
      have : (hpfyK xs 0).length = xs.length := hpfyK_len xs 0
      lia
    | succ k ih =>
      intro hk
      obtain ⟨i1, i2⟩ := ih (by lia)
      have e : hpfyK xs (k + 1) = sup (hpfyK xs k) (xs.length / 2 - 1 - k) := by unfold hpfyK; rw [List.range_succ, List.foldl_append]; rfl
      have hl := hpfyK_len xs k
      rw [e]
      refine ⟨?_, (sup_perm _ _ (by lia)).trans i2⟩
      rw [show xs.length / 2 - (k + 1) = xs.length / 2 - 1 - k by lia]
      refine sup_hp _ _ (by lia) ?_
      rw [show xs.length / 2 - 1 - k + 1 = xs.length / 2 - k by lia]; exact i1
  have h := this (xs.length / 2) (Nat.le_refl _)
  rw [Nat.sub_self] at h
  exact h
theorem HP.min {x : Int} {xs : List Int} (h : HP 0 (x :: xs)) : ∀ y ∈ x :: xs, x ≤ y := by
  have : ∀ j, j < (x :: xs).length → x ≤ (x :: xs).getD j 0 := by
    intro j
    induction j using Nat.strongRecOn with
    | _ j ih =>
      intro hj
      by_cases z : j = 0
      · subst z; exact Int.le_refl _
      · exact Int.le_trans (ih ((j - 1) / 2) (by lia) (by lia)) (h j (by lia) hj (by lia))
  intro y hy
  obtain ⟨j, hj⟩ := List.getElem?_of_mem hy
  have hl := (List.getElem?_eq_some_iff.mp hj).1
  have := this j hl
  rwa [List.getD_eq_getElem?_getD, hj] at this
end Mine
end

-- part E2
section
open PySem PySem.W PySem.Calls PyProof.Rows
set_option Elab.async false
set_option genSizeOf false
set_option genInjectivity false
set_option linter.unusedVariables false
set_option linter.unusedSimpArgs false
set_option autoImplicit false
set_option maxRecDepth 100000
namespace Mine

/-! ### the sorter's numbers, plain -/
noncomputable def outE (ps : List (Int × Int)) (k : Int) : List Int := (ps.filter fun s => decide (s.1 = k)).map (·.2)
structure St (nds : List Nd) (S : List Int) (ps : List (Int × Int)) (g : Int → Int) : Prop where
  keys : (nds.map (·.k)).Nodup
  iff : ∀ k, k ∈ nds.map (·.k) ↔ k ∈ S
  np : ∀ nd ∈ nds, nd.np = g nd.k
  su : ∀ nd ∈ nds, nd.succ = outE ps nd.k
variable {nds : List Nd} {S N : List Int} {ps : List (Int × Int)} {g : Int → Int}

theorem St.congr (h : St nds S ps g) {g' : Int → Int} {S' : List Int} (hS : ∀ k, k ∈ S' ↔ k ∈ S) (hg : ∀ k ∈ S, g' k = g k) : St nds S' ps g' :=
  ⟨h.keys, fun k => (h.iff k).trans (hS k).symm, fun nd m => by rw [h.np nd m, hg nd.k ((h.iff _).mp (List.mem_map_of_mem m))], h.su⟩
theorem St.bump (h : St nds S ps g) (k m : Int) : St (bump nds k m) S ps (fun x => if x = k then g x + m else g x) := by
  refine ⟨by rw [bump_keys]; exact h.keys, by rw [bump_keys]; exact h.iff, fun nd hn => ?_, fun nd hn => ?_⟩ <;>
  · unfold Mine.bump at hn
    obtain ⟨x, hx, rfl⟩ := List.mem_map.mp hn
    by_cases q : x.k = k
    · rw [if_pos q]; simp [q, h.np x hx, h.su x hx]
    · rw [if_neg q]; simp [q, h.np x hx, h.su x hx]
theorem St.npTo (h : St nds S ps g) (k v : Int) : St (npTo nds k v) S ps (fun x => if x = k then v else g x) := by
  refine ⟨by rw [npTo_keys]; exact h.keys, by rw [npTo_keys]; exact h.iff, fun nd hn => ?_, fun nd hn => ?_⟩ <;>
  · unfold Mine.npTo at hn
    obtain ⟨x, hx, rfl⟩ := List.mem_map.mp hn
    by_cases q : x.k = k
    · rw [if_pos q]; simp [q, h.su x hx]
    · rw [if_neg q]; simp [q, h.np x hx, h.su x hx]
theorem link_keys (nds : List Nd) (a b : Int) : (link nds a b).map (·.k) = nds.map (·.k) := by
  unfold link; rw [List.map_map]; congr 1; funext nd; simp only [Function.comp]; split <;> rfl
theorem outE_snoc (ps : List (Int × Int)) (a b k : Int) : outE (ps ++ [(a, b)]) k = if k = a then outE ps k ++ [b] else outE ps k := by
  unfold outE
  rw [List.filter_append, List.map_append]
  by_cases q : k = a
  · subst q; simp
  · simp [q, Ne.symm q]
theorem St.link (h : St nds S ps g) (a b : Int) : St (link nds a b) S (ps ++ [(a, b)]) g := by
  refine ⟨by rw [link_keys]; exact h.keys, by rw [link_keys]; exact h.iff, fun nd hn => ?_, fun nd hn => ?_⟩ <;>
  · unfold Mine.link at hn
    obtain ⟨x, hx, rfl⟩ := List.mem_map.mp hn
    by_cases q : x.k = a
    · rw [if_pos q]; simp [q, h.np x hx, h.su x hx, outE_snoc]
    · rw [if_neg q]; simp [q, h.np x hx, h.su x hx, outE_snoc]
theorem St.addK (h : St nds S ps g) {k : Int} (h0 : k ∉ S → g k = 0 ∧ outE ps k = []) : St (addK nds k) (S ++ [k]) ps g := by
  unfold Mine.addK
  split
  · rename_i hk
    have hk' : k ∈ S := (h.iff k).mp (by simpa using hk)
    exact h.congr (fun x => by simp; intro e; subst e; exact hk') fun _ _ => rfl
  · rename_i hk
    have hk' : k ∉ nds.map (·.k) := by simpa using hk
    obtain ⟨g0, o0⟩ := h0 fun m => hk' ((h.iff k).mpr m)
    refine ⟨?_, fun x => ?_, fun nd hn => ?_, fun nd hn => ?_⟩
    · rw [List.map_append, List.nodup_append]
      exact ⟨h.keys, by simp, fun a ha b hb => by simp at hb; subst hb; exact fun e => hk' (e ▸ ha)⟩
    · rw [List.map_append, List.mem_append, List.mem_append, h.iff]; simp
    · rcases List.mem_append.mp hn with q | q
      · exact h.np nd q
      · simp at q; subst q; simp [g0]
    · rcases List.mem_append.mp hn with q | q
      · exact h.su nd q
      · simp at q; subst q; simp [o0]

noncomputable def deg (ps : List (Int × Int)) (k : Int) : Int := ((ps.filter fun s => decide (s.2 = k)).length : Nat)
theorem deg_snoc (ps : List (Int × Int)) (a b k : Int) : deg (ps ++ [(a, b)]) k = if k = b then deg ps k + 1 else deg ps k := by
  unfold deg
  rw [List.filter_append]
  by_cases q : k = b
  · subst q; simp
  · simp [q, Ne.symm q]
theorem deg_none {k : Int} (h : ∀ p ∈ ps, p.2 ≠ k) : deg ps k = 0 := by
  unfold deg
  rw [List.filter_eq_nil_iff.mpr fun p hp => by simpa using h p hp]; rfl
theorem outE_none {k : Int} (h : ∀ p ∈ ps, p.1 ≠ k) : outE ps k = [] := by
  unfold outE
  rw [List.filter_eq_nil_iff.mpr fun p hp => by simpa using h p hp]; rfl
/-- one step more -/
theorem St.step (h : St nds S ps (deg ps)) (hS : ∀ p ∈ ps, p.1 ∈ S ∧ p.2 ∈ S) (a b : Int) : St (addS nds b [a]) (S ++ [b] ++ [a]) (ps ++ [(a, b)]) (deg (ps ++ [(a, b)])) := by
  have h0 : ∀ {k}, k ∉ S → deg ps k = 0 ∧ outE ps k = [] := fun {k} hk => ⟨deg_none fun p hp e => hk (e ▸ (hS p hp).2), outE_none fun p hp e => hk (e ▸ (hS p hp).1)⟩
  have h1 := (h.addK (k := b) fun m => h0 m).bump b (([a] : List Int).length : Int)
  have h2 : St (Mine.bump (Mine.addK nds b) b (([a] : List Int).length : Int)) (S ++ [b]) ps (deg (ps ++ [(a, b)])) := h1.congr (fun _ => Iff.rfl) fun k _ => by
    rw [deg_snoc]; rfl
  exact (h2.addK (k := a) fun m => by
    obtain ⟨m1, m2⟩ : a ∉ S ∧ a ≠ b := by simpa using m
    rw [deg_snoc, if_neg m2]; exact h0 m1).link a b
theorem St.name (h : St nds S ps (deg ps)) (hS : ∀ p ∈ ps, p.1 ∈ S ∧ p.2 ∈ S) (k : Int) : St (addS nds k []) (S ++ [k]) ps (deg ps) := by
  have h0 : k ∉ S → deg ps k = 0 ∧ outE ps k = [] := fun hk => ⟨deg_none fun p hp e => hk (e ▸ (hS p hp).2), outE_none fun p hp e => hk (e ▸ (hS p hp).1)⟩
  exact ((h.addK h0).bump k 0).congr (fun _ => Iff.rfl) fun x _ => by simp

theorem nodup_few {l m : List Int} (h : l.Nodup) (hs : ∀ x ∈ l, x ∈ m) : l.length ≤ m.length := by
  have := sum_sub (f := fun _ => 1) h hs
  have e : ∀ l : List Int, (l.map fun _ => 1).sum = l.length := fun l => by
    induction l with
    | nil => rfl
    | cons a l ih => rw [List.map_cons, List.sum_cons, ih, List.length_cons]; lia
  rwa [e, e] at this
theorem St.few (h : St nds S ps g) (hN : ∀ k ∈ S, k ∈ N) : nds.length ≤ N.length := by
  have := nodup_few h.keys fun k hk => hN k ((h.iff k).mp hk)
  simpa using this
theorem St.succ_few (h : St nds S ps g) : ∀ nd ∈ nds, nd.succ.length ≤ ps.length := fun nd hn => by
  rw [h.su nd hn, outE, List.length_map]; exact List.length_filter_le _ _
theorem outE_mem {a b : Int} : b ∈ outE ps a ↔ (a, b) ∈ ps := by
  unfold outE
  simp only [List.mem_map, List.mem_filter, decide_eq_true_eq]
  constructor
  · rintro ⟨⟨x, y⟩, ⟨h1, rfl⟩, rfl⟩; exact h1
  · intro h; exact ⟨_, ⟨h, rfl⟩, rfl⟩
theorem St.succ_in (h : St nds S ps g) (hS : ∀ p ∈ ps, p.1 ∈ S ∧ p.2 ∈ S) : ∀ nd ∈ nds, ∀ q ∈ nd.succ, q ∈ nds.map (·.k) := fun nd hn q hq => by
  rw [h.su nd hn, outE_mem] at hq
  exact (h.iff q).mpr (hS _ hq).2
theorem St.succOf (h : St nds S ps g) {k : Int} (hk : k ∈ S) : succOf nds k = outE ps k := by
  obtain ⟨i, nd, hi, rfl⟩ := key_at ((h.iff k).mpr hk)
  rw [succOf_get h.keys hi, h.su nd (List.mem_of_getElem? hi)]
theorem St.npOf (h : St nds S ps g) {k : Int} (hk : k ∈ S) : npOf nds k = g k := by
  obtain ⟨i, nd, hi, rfl⟩ := key_at ((h.iff k).mpr hk)
  rw [npOf_get h.keys hi, h.np nd (List.mem_of_getElem? hi)]
theorem St.outs (l : List Int) (h : St nds S ps g) : St (outs nds l) S ps (fun x => if x ∈ l then -1 else g x) := by
  induction l generalizing nds g with
  | nil => exact h.congr (fun _ => Iff.rfl) fun k _ => by simp
  | cons k l ih =>
    show St (Mine.outs (Mine.npTo nds k (-1)) l) S ps _
    exact (ih (h.npTo k (-1))).congr (fun _ => Iff.rfl) fun x _ => by
      by_cases q : x = k <;> by_cases r : x ∈ l <;> simp [q, r]
theorem St.rel (su : List Int) : ∀ {nds : List Nd} {g : Int → Int} (l : List Int), St nds S ps g → (∀ q ∈ su, q ∈ S) → ∃ fresh, (su.foldl relS (nds, l)).2 = l ++ fresh ∧ St (su.foldl relS (nds, l)).1 S ps (fun k => g k - (su.count k : Nat)) ∧ fresh.Nodup ∧ ∀ k, k ∈ fresh ↔ 1 ≤ g k ∧ g k ≤ (su.count k : Nat) := by
  induction su with
  | nil => intro nds g l h _; exact ⟨[], by simp, h.congr (fun _ => Iff.rfl) fun k _ => by simp, List.nodup_nil, fun k => by simp; lia⟩
  | cons q r ih =>
    intro nds g l h hq
    rw [List.foldl_cons]
    have hb := h.bump q (-1)
    have e : Mine.npOf (Mine.bump nds q (-1)) q = g q - 1 := by rw [hb.npOf (hq q (List.mem_cons_self ..))]; simp; lia
    have er : relS (nds, l) q = (Mine.bump nds q (-1), if g q - 1 = 0 then l ++ [q] else l) := by unfold relS; dsimp only; rw [e]
    rw [er]
    obtain ⟨fr, f1, f2, f3, f4⟩ := ih (if g q - 1 = 0 then l ++ [q] else l) hb fun x hx => hq x (List.mem_cons_of_mem _ hx)
    have hg : St (r.foldl relS (Mine.bump nds q (-1), if g q - 1 = 0 then l ++ [q] else l)).1 S ps (fun k => g k - ((q :: r).count k : Nat)) := f2.congr (fun _ => Iff.rfl) fun k _ => by
      rw [List.count_cons]
      by_cases z : k = q
      · subst z; simp; lia
      · simp [z, Ne.symm z]
    by_cases z : g q = 1
    · rw [if_pos (by lia)] at *
      refine ⟨q :: fr, by rw [f1]; simp, hg, List.nodup_cons.mpr ⟨fun m => ?_, f3⟩, fun k => ?_⟩
      · have := (f4 q).mp m; simp at this; lia
      · rw [List.mem_cons, f4, List.count_cons]
        by_cases y : k = q
        · subst y; simp; lia
        · simp [y, Ne.symm y]
    · rw [if_neg (by lia)] at *
      refine ⟨fr, f1, hg, f3, fun k => ?_⟩
      rw [f4, List.count_cons]
      by_cases y : k = q
      · subst y; simp; lia
      · simp [y, Ne.symm y]

/-! ### a name done -/
noncomputable def lft (N ord : List Int) : List Int := N.filter fun n => !decide (n ∈ ord)
theorem lft_mem {ord : List Int} {k : Int} : k ∈ lft N ord ↔ k ∈ N ∧ k ∉ ord := by simp [lft]
noncomputable def pend (ps : List (Int × Int)) (N ord : List Int) (k : Int) : Nat := (blockL ps (lft N ord) k).length
theorem block_step {left left' : List Int} {x : Int} (hx : x ∈ left) (h : ∀ y, y ∈ left' ↔ y ∈ left ∧ y ≠ x) (k : Int) : ∀ ps : List (Int × Int), (blockL ps left k).length = (blockL ps left' k).length + (outE ps x).count k
  | [] => rfl
  | (a, b) :: ps => by
    have ih := block_step hx h k ps
    unfold blockL outE at *
    by_cases q : b = k
    · by_cases r : a = x
      · subst r; subst q
        have : a ∉ left' := fun m => ((h a).mp m).2 rfl
        simp [List.filter_cons, hx, this] at ih ⊢; lia
      · have : a ∈ left' ↔ a ∈ left := by rw [h]; simp [r]
        by_cases z : a ∈ left <;> simp [List.filter_cons, q, r, this, z] at ih ⊢ <;> lia
    · by_cases r : a = x
      · simp [List.filter_cons, q, r] at ih ⊢; lia
      · simp [List.filter_cons, q, r] at ih ⊢; lia
theorem pend_step {ord : List Int} {x : Int} (hx : x ∈ lft N ord) (k : Int) : pend ps N ord k = pend ps N (ord ++ [x]) k + (outE ps x).count k :=
  block_step hx (fun y => by rw [lft_mem, lft_mem]; simp; constructor <;> (intro h; simp [h]) ) k ps
theorem free_mem {ord : List Int} {k : Int} : k ∈ freeL ps (lft N ord) ↔ k ∈ lft N ord ∧ pend ps N ord k = 0 := by
  unfold freeL pend
  rw [List.mem_filter, List.isEmpty_iff, ← List.length_eq_zero_iff]

noncomputable def gS (ps : List (Int × Int)) (N ord : List Int) (k : Int) : Int := if k ∈ ord then -2 else if pend ps N ord k = 0 then -1 else (pend ps N ord k : Nat)
structure Run (nds : List Nd) (N : List Int) (ps : List (Int × Int)) (ord : List Int) : Prop where
  st : St nds N ps (gS ps N ord)
  nodup : N.Nodup
  mem : ∀ p ∈ ps, p.1 ∈ N ∧ p.2 ∈ N
  once : ord.Nodup
  sub : ∀ k ∈ ord, k ∈ N
  closed : ∀ p ∈ ps, p.2 ∈ ord → p.1 ∈ ord
theorem Run.start (h : St nds N ps (deg ps)) (hn : N.Nodup) (hm : ∀ p ∈ ps, p.1 ∈ N ∧ p.2 ∈ N) : Run (outs nds (zeros nds)) N ps [] ∧ (zeros nds).Perm (freeL ps (lft N [])) := by
  have hp : ∀ k, deg ps k = (pend ps N [] k : Nat) := fun k => by
    unfold deg pend blockL
    congr 2
    refine List.filter_congr fun p hp => ?_
    have : p.1 ∈ lft N [] := lft_mem.mpr ⟨(hm p hp).1, by simp⟩
    simp [this]
  have hz : ∀ k, k ∈ zeros nds ↔ k ∈ N ∧ pend ps N [] k = 0 := fun k => by
    unfold zeros
    rw [← h.iff]
    simp only [List.mem_map, List.mem_filter, beq_iff_eq]
    constructor
    · rintro ⟨nd, ⟨h1, h2⟩, rfl⟩
      refine ⟨⟨nd, h1, rfl⟩, ?_⟩
      rw [h.np nd h1, hp] at h2; lia
    · rintro ⟨⟨nd, h1, rfl⟩, h2⟩
      exact ⟨nd, ⟨h1, by rw [h.np nd h1, hp, h2]; rfl⟩, rfl⟩
  refine ⟨⟨(h.outs _).congr (fun _ => Iff.rfl) fun k hk => ?_, hn, hm, List.nodup_nil, by simp, by simp⟩, ?_⟩
  · unfold gS
    rw [if_neg (by simp), hp]
    by_cases q : pend ps N [] k = 0
    · rw [if_pos q, if_pos ((hz k).mpr ⟨hk, q⟩)]
    · rw [if_neg q, if_neg fun m => q ((hz k).mp m).2]
  · refine (List.perm_ext_iff_of_nodup ?_ ?_).mpr fun k => ?_
    · exact List.Nodup.sublist (List.Sublist.map _ List.filter_sublist) h.keys
    · exact (hn.filter _).filter _
    · rw [hz, free_mem, lft_mem]; simp
theorem Run.step {ord : List Int} (R : Run nds N ps ord) {x : Int} (hx : x ∈ freeL ps (lft N ord)) :
    Run (outs (doneS nds [] x (outE ps x)).1 (doneS nds [] x (outE ps x)).2) N ps (ord ++ [x]) ∧ (∀ k ∈ (doneS nds [] x (outE ps x)).2, k ∈ N) ∧ ∀ rest, (freeL ps (lft N ord)).Perm (x :: rest) → (rest ++ (doneS nds [] x (outE ps x)).2).Perm (freeL ps (lft N (ord ++ [x]))) := by
  obtain ⟨hx1, hx2⟩ := free_mem.mp hx
  obtain ⟨hxN, hxo⟩ := lft_mem.mp hx1
  have h0 : ∀ k, k ∈ ord ∨ k = x → (outE ps x).count k = 0 := fun k hk => by
    rw [List.count_eq_zero, outE_mem]
    intro m
    rcases hk with hk | rfl
    · exact hxo (R.closed _ m hk)
    · have := pend_step (ps := ps) hx1 k
      have : 0 < (outE ps k).count k := List.count_pos_iff.mpr (outE_mem.mpr m)
      lia
  have hst := R.st.npTo x (-2)
  obtain ⟨fr, f1, f2, f3, f4⟩ := St.rel (outE ps x) [] hst fun q hq => (R.mem _ (outE_mem.mp hq)).2
  have e2 : (doneS nds [] x (outE ps x)).2 = fr := by unfold doneS; rw [f1]; rfl
  rw [e2]
  have hps := pend_step (ps := ps) hx1
  have hfr : ∀ k, k ∈ fr ↔ k ∉ ord ∧ k ≠ x ∧ pend ps N ord k ≠ 0 ∧ pend ps N (ord ++ [x]) k = 0 := fun k => by
    rw [f4]
    have := hps k
    by_cases q : k = x
    · subst q; simp
    · simp only [if_neg q]
      unfold gS
      by_cases r : k ∈ ord
      · simp [r]
      · by_cases z : pend ps N ord k = 0
        · simp [r, z]
        · simp only [r, z, if_false]; simp [q]; lia
  refine ⟨⟨(f2.outs fr).congr (fun _ => Iff.rfl) fun k hk => ?_, R.nodup, R.mem, ?_, ?_, ?_⟩, fun k hk => ?_, fun rest hr => ?_⟩
  · have := hps k
    have t := hfr k
    unfold gS
    by_cases q : k = x
    · subst q
      have c0 := h0 k (.inr rfl)
      have : k ∉ fr := fun m => (t.mp m).2.1 rfl
      simp [this, c0]
    · by_cases r : k ∈ ord
      · have c0 := h0 k (.inl r)
        have : k ∉ fr := fun m => (t.mp m).1 r
        simp [this, c0, r, q]
      · have e1 : k ∉ ord ++ [x] := by simp [q, r]
        simp only [e1, r, q, if_false]
        by_cases z : pend ps N ord k = 0
        · have : k ∉ fr := fun m => (t.mp m).2.2.1 z
          simp only [this, z, if_false, if_true]
          rw [if_pos (by lia)]; lia
        · by_cases y : pend ps N (ord ++ [x]) k = 0
          · have : k ∈ fr := t.mpr ⟨r, q, z, y⟩
            simp only [this, y, if_true]
          · have : k ∉ fr := fun m => y (t.mp m).2.2.2
            simp only [this, z, y, if_false]; lia
  · rw [List.nodup_append]; exact ⟨R.once, by simp, fun a ha b hb => by simp at hb; subst hb; exact fun e => hxo (e ▸ ha)⟩
  · intro k hk; rcases List.mem_append.mp hk with q | q
    · exact R.sub k q
    · simp at q; subst q; exact hxN
  · intro p hp hk
    rcases List.mem_append.mp hk with q | q
    · exact List.mem_append_left _ (R.closed p hp q)
    · simp at q
      by_cases z : p.1 ∈ ord
      · exact List.mem_append_left _ z
      · exfalso
        have : p ∈ blockL ps (lft N ord) x := by
          unfold blockL
          rw [List.mem_filter]; exact ⟨hp, by simp [q, lft_mem.mpr ⟨(R.mem p hp).1, z⟩]⟩
        have := List.length_pos_of_mem this
        unfold pend at hx2; lia
  · obtain ⟨k1, k2, k3, k4⟩ := (hfr k).mp hk
    by_cases z : k ∈ outE ps x
    · exact (R.mem _ (outE_mem.mp z)).2
    · have := hps k; rw [List.count_eq_zero.mpr z] at this; lia
  · have hnf : (freeL ps (lft N ord)).Nodup := (R.nodup.filter _).filter _
    have hn2 := hr.nodup_iff.mp hnf
    obtain ⟨n1, n2⟩ := List.nodup_cons.mp hn2
    have hm : ∀ k, k ∈ rest ↔ k ∈ freeL ps (lft N ord) ∧ k ≠ x := fun k => by
      rw [hr.mem_iff, List.mem_cons]
      constructor
      · intro m; exact ⟨.inr m, fun e => n1 (e ▸ m)⟩
      · rintro ⟨m | m, n⟩
        · exact absurd m n
        · exact m
    have hn3 : (freeL ps (lft N (ord ++ [x]))).Nodup := (R.nodup.filter _).filter _
    refine (List.perm_ext_iff_of_nodup ?_ hn3).mpr fun k => ?_
    · rw [List.nodup_append]
      exact ⟨n2, f3, fun a ha b hb e => by subst e; exact ((hfr a).mp hb).2.2.1 (free_mem.mp ((hm a).mp ha).1).2⟩
    · rw [List.mem_append, hm, hfr, free_mem, free_mem, lft_mem, lft_mem]
      have := hps k
      simp only [List.mem_append, List.mem_singleton, not_or]
      constructor
      · rintro (⟨⟨⟨a, b⟩, c⟩, d⟩ | ⟨a, b, c, d⟩)
        · exact ⟨⟨a, b, d⟩, by lia⟩
        · refine ⟨⟨?_, a, b⟩, d⟩
          by_cases z : k ∈ outE ps x
          · exact (R.mem _ (outE_mem.mp z)).2
          · rw [List.count_eq_zero.mpr z] at this; lia
      · rintro ⟨⟨a, b, c⟩, d⟩
        by_cases z : pend ps N ord k = 0
        · exact .inl ⟨⟨⟨a, b⟩, z⟩, c⟩
        · exact .inr ⟨b, c, z, d⟩
end Mine
end

-- part D11
section
open PySem PySem.W PySem.Calls PyProof.Rows
set_option Elab.async false
set_option genSizeOf false
set_option genInjectivity false
set_option linter.unusedVariables false
set_option autoImplicit false
set_option maxRecDepth 100000
namespace Mine

/-- K: what stays; G: all that is known; the sorter, the heap, the order and the rows are apart -/
structure LS (H K G : AH) (s : Addr) (X : SA) (nds : List Nd) (l : List Int) (p f : Int) (hp od rw : Addr) (hs ord : List Int) (rs qs : List Addr) (rows : List (List Int)) : Prop where
  le : HLe H K
  off : ∀ a o, K a = some o → G a = some o ∧ a ≠ hp ∧ a ≠ od ∧ a ≠ rw ∧ a ∉ fp s X (some [])
  so : Sorter G s X nds (some l) p f
  hh : G hp = some (.list (hs.map .int))
  ho : G od = some (.list (ord.map .int))
  hr : G rw = some (.list (rs.map .ref))
  nh : hp ∉ fp s X (some [])
  no : od ∉ fp s X (some [])
  nr : rw ∉ fp s X (some [])
  n1 : hp ≠ od
  n2 : hp ≠ rw
  n3 : od ≠ rw
  r1 : rs.map K = qs.map fun q => some (.list [.bool true, .ref q])
  r2 : qs.map K = rows.map fun l => some (.list (l.map .int))
variable {H K G : AH} {s : Addr} {X : SA} {nds : List Nd} {l : List Int} {p f : Int} {hp od rw : Addr} {hs ord : List Int} {rs qs : List Addr} {rows : List (List Int)}

theorem LS.nk (I : LS H K G s X nds l p f hp od rw hs ord rs qs rows) {r : Addr} (h : G r = none) : K r = none := by
  cases e : K r with
  | none => rfl
  | some o => rw [(I.off r o e).1] at h; cases h
theorem LS.learn (I : LS H K G s X nds l p f hp od rw hs ord rs qs rows) {r : Addr} {o : AO} (h : G r = some o) (hk : K r = none) (a1 : r ≠ hp) (a2 : r ≠ od) (a3 : r ≠ rw) (a4 : r ∉ fp s X (some [])) : LS H (upd K r o) G s X nds l p f hp od rw hs ord rs qs rows where
  le := I.le.step (I.le.none hk)
  off a x e := by
    by_cases q : a = r
    · subst q; rw [upd_self] at e; cases e; exact ⟨h, a1, a2, a3, a4⟩
    · rw [upd_ne _ _ q] at e; exact I.off a x e
  so := I.so
  hh := I.hh
  ho := I.ho
  hr := I.hr
  nh := I.nh
  no := I.no
  nr := I.nr
  n1 := I.n1
  n2 := I.n2
  n3 := I.n3
  r1 := map_le (f := fun q => .list [.bool true, .ref q]) (HLe.upd hk) I.r1
  r2 := map_le (f := fun l : List Int => .list (l.map .int)) (HLe.upd hk) I.r2
theorem LS.only (I : LS H K G s X nds l p f hp od rw hs ord rs qs rows) {r : Addr} {o : AO} (h : G r = none) : LS H K (upd G r o) s X nds l p f hp od rw hs ord rs qs rows where
  le := I.le
  off a x e := by
    have := I.off a x e
    exact ⟨upd_off (ne_none this.1 h) this.1, this.2⟩
  so := I.so.frame (I.so.known h)
  hh := upd_off (ne_none I.hh h) I.hh
  ho := upd_off (ne_none I.ho h) I.ho
  hr := upd_off (ne_none I.hr h) I.hr
  nh := I.nh
  no := I.no
  nr := I.nr
  n1 := I.n1
  n2 := I.n2
  n3 := I.n3
  r1 := I.r1
  r2 := I.r2
theorem LS.fresh (I : LS H K G s X nds l p f hp od rw hs ord rs qs rows) {r : Addr} {o : AO} (h : G r = none) : LS H (upd K r o) (upd G r o) s X nds l p f hp od rw hs ord rs qs rows :=
  (I.only (o := o) h).learn (upd_self ..) (I.nk h) (ne_none I.hh h).symm (ne_none I.ho h).symm (ne_none I.hr h).symm (I.so.known h)
theorem LS.setH (I : LS H K G s X nds l p f hp od rw hs ord rs qs rows) (hs' : List Int) : LS H K (upd G hp (.list (hs'.map .int))) s X nds l p f hp od rw hs' ord rs qs rows where
  le := I.le
  off a x e := by
    have := I.off a x e
    exact ⟨upd_off this.2.1 this.1, this.2⟩
  so := I.so.frame I.nh
  hh := upd_self ..
  ho := upd_off I.n1.symm I.ho
  hr := upd_off I.n2.symm I.hr
  nh := I.nh
  no := I.no
  nr := I.nr
  n1 := I.n1
  n2 := I.n2
  n3 := I.n3
  r1 := I.r1
  r2 := I.r2
theorem LS.setO (I : LS H K G s X nds l p f hp od rw hs ord rs qs rows) (ord' : List Int) : LS H K (upd G od (.list (ord'.map .int))) s X nds l p f hp od rw hs ord' rs qs rows where
  le := I.le
  off a x e := by
    have := I.off a x e
    exact ⟨upd_off this.2.2.1 this.1, this.2⟩
  so := I.so.frame I.no
  hh := upd_off I.n1 I.hh
  ho := upd_self ..
  hr := upd_off I.n3.symm I.hr
  nh := I.nh
  no := I.no
  nr := I.nr
  n1 := I.n1
  n2 := I.n2
  n3 := I.n3
  r1 := I.r1
  r2 := I.r2
theorem LS.setR (I : LS H K G s X nds l p f hp od rw hs ord rs qs rows) {r q : Addr} {row : List Int} (h1 : K r = some (.list [.bool true, .ref q])) (h2 : K q = some (.list (row.map .int))) : LS H K (upd G rw (.list ((rs ++ [r]).map .ref))) s X nds l p f hp od rw hs ord (rs ++ [r]) (qs ++ [q]) (rows ++ [row]) where
  le := I.le
  off a x e := by
    have := I.off a x e
    exact ⟨upd_off this.2.2.2.1 this.1, this.2⟩
  so := I.so.frame I.nr
  hh := upd_off I.n2 I.hh
  ho := upd_off I.n3 I.ho
  hr := upd_self ..
  nh := I.nh
  no := I.no
  nr := I.nr
  n1 := I.n1
  n2 := I.n2
  n3 := I.n3
  r1 := by rw [List.map_append, List.map_append, I.r1]; simp [h1]
  r2 := by rw [List.map_append, List.map_append, I.r2]; simp [h2]
theorem LS.sort {nds' : List Nd} {l' : List Int} {p' f' : Int} {G' : AH} (I : LS H K G s X nds l p f hp od rw hs ord rs qs rows) (S : Sorter G' s X nds' (some l') p' f') (k : Keep G (fp s X (some [])) G' (fp s X (some []))) : LS H K G' s X nds' l' p' f' hp od rw hs ord rs qs rows where
  le := I.le
  off a x e := by
    have := I.off a x e
    exact ⟨(k a x this.1 this.2.2.2.2).1, this.2⟩
  so := S
  hh := (k _ _ I.hh I.nh).1
  ho := (k _ _ I.ho I.no).1
  hr := (k _ _ I.hr I.nr).1
  nh := I.nh
  no := I.no
  nr := I.nr
  n1 := I.n1
  n2 := I.n2
  n3 := I.n3
  r1 := I.r1
  r2 := I.r2
theorem LS.newH (I : LS H K G s X nds l p f hp od rw hs ord rs qs rows) {r : Addr} (h : G r = none) (hs' : List Int) : LS H K (upd G r (.list (hs'.map .int))) s X nds l p f r od rw hs' ord rs qs rows where
  le := I.le
  off a x e := by
    have := I.off a x e
    exact ⟨upd_off (ne_none this.1 h) this.1, ne_none this.1 h, this.2.2⟩
  so := I.so.frame (I.so.known h)
  hh := upd_self ..
  ho := upd_off (ne_none I.ho h) I.ho
  hr := upd_off (ne_none I.hr h) I.hr
  nh := I.so.known h
  no := I.no
  nr := I.nr
  n1 := (ne_none I.ho h).symm
  n2 := (ne_none I.hr h).symm
  n3 := I.n3
  r1 := I.r1
  r2 := I.r2
theorem LS.rowsH (I : LS H K G s X nds l p f hp od rw hs ord rs qs rows) : RowsH G rw rows :=
  ⟨rs, qs, I.hr, map_le (f := fun q => .list [.bool true, .ref q]) (fun a o e => (I.off a o e).1) I.r1, map_le (f := fun l : List Int => .list (l.map .int)) (fun a o e => (I.off a o e).1) I.r2⟩
theorem LS.leG (I : LS H K G s X nds l p f hp od rw hs ord rs qs rows) : HLe H G := fun a o e => (I.off a o (I.le a o e)).1

/-! ### what the loop keeps, plain -/
structure LP (N : List Int) (ps : List (Int × Int)) (nds : List Nd) (hs ord : List Int) (rows : List (List Int)) : Prop where
  run : Run nds N ps ord
  perm : hs.Perm (freeL ps (lft N ord))
  hp : HP 0 hs
  len : rows.length = ord.length
  rowsI : ∀ (i : Nat) row, rows[i]? = some row → row.Perm (freeL ps (lft N (ord.take i))) ∧ row.Pairwise (· ≤ ·)
  least : ∀ (i : Nat) x, ord[i]? = some x → x ∈ freeL ps (lft N (ord.take i)) ∧ ∀ y ∈ freeL ps (lft N (ord.take i)), x ≤ y
variable {N : List Int} {ps : List (Int × Int)} {x : Int} {tl row : List Int}

theorem snoc_get {α : Type} {l : List α} {y z : α} {i : Nat} (h : (l ++ [y])[i]? = some z) : (l[i]? = some z ∧ i < l.length) ∨ (i = l.length ∧ z = y) := by
  by_cases q : i < l.length
  · rw [List.getElem?_append_left q] at h; exact .inl ⟨h, q⟩
  · rw [List.getElem?_append_right (by lia)] at h
    have : i - l.length = 0 := by
      by_cases w : i - l.length = 0
      · exact w
      · rw [List.getElem?_eq_none (by simp; lia)] at h; cases h
    rw [this] at h; simp at h
    exact .inr ⟨by lia, h.symm⟩

theorem LP.next (I : LP N ps nds (x :: tl) ord rows) (h1 : row.Perm (x :: tl)) (h2 : row.Pairwise (· ≤ ·)) {hs' : List Int} (h3 : hs'.Perm (tl ++ (doneS nds [] x (outE ps x)).2)) (h4 : HP 0 hs') :
    LP N ps (outs (doneS nds [] x (outE ps x)).1 (doneS nds [] x (outE ps x)).2) hs' (ord ++ [x]) (rows ++ [row]) := by
  have hx : x ∈ freeL ps (lft N ord) := I.perm.subset (List.mem_cons_self ..)
  obtain ⟨R, _, hp⟩ := I.run.step hx
  refine ⟨R, h3.trans (hp tl I.perm.symm), h4, by simp [I.len], fun i rw e => ?_, fun i y e => ?_⟩
  · rcases snoc_get e with ⟨e', hi⟩ | ⟨rfl, rfl⟩
    · rw [List.take_append_of_le_length (by have := I.len; lia)]; exact I.rowsI i rw e'
    · rw [I.len, List.take_left]; exact ⟨h1.trans I.perm, h2⟩
  · rcases snoc_get e with ⟨e', hi⟩ | ⟨rfl, rfl⟩
    · rw [List.take_append_of_le_length (by lia)]; exact I.least i y e'
    · rw [List.take_left]; exact ⟨hx, fun z hz => I.hp.min z (I.perm.symm.subset hz)⟩
theorem LP.node (I : LP N ps nds (x :: tl) ord rows) : ∃ (i : Nat) (nd : Nd), nds[i]? = some nd ∧ nd.k = x ∧ nd.np = -1 ∧ nd.succ = outE ps x := by
  have hx : x ∈ freeL ps (lft N ord) := I.perm.subset (List.mem_cons_self ..)
  obtain ⟨a, b⟩ := free_mem.mp hx
  obtain ⟨a1, a2⟩ := lft_mem.mp a
  obtain ⟨i, nd, hi, rfl⟩ := key_at ((I.run.st.iff x).mpr a1)
  have hm := List.mem_of_getElem? hi
  exact ⟨i, nd, hi, rfl, by rw [I.run.st.np nd hm, gS, if_neg a2, if_pos b], I.run.st.su nd hm⟩
theorem LP.few (I : LP N ps nds hs ord rows) : ord.length ≤ N.length ∧ hs.length ≤ N.length := by
  refine ⟨nodup_few I.run.once I.run.sub, ?_⟩
  rw [I.perm.length_eq]
  exact Nat.le_trans (List.length_filter_le _ _) (List.length_filter_le _ _)
theorem LP.more (I : LP N ps nds (x :: tl) ord rows) : ord.length < N.length := by
  have hx : x ∈ freeL ps (lft N ord) := I.perm.subset (List.mem_cons_self ..)
  obtain ⟨R, _, _⟩ := I.run.step hx
  have := nodup_few R.once R.sub
  simp at this; lia
theorem outE_len (ps : List (Int × Int)) (x : Int) : (outE ps x).length ≤ ps.length := by
  unfold outE; rw [List.length_map]; exact List.length_filter_le _ _
theorem fresh_len : (doneS nds [] x (outE ps x)).2.length ≤ ps.length := by
  unfold doneS
  have := rel_len (outE ps x) (npTo nds x (-2), [])
  have := outE_len ps x
  simp at *; lia

/-- sorter.done(x) in the loop -/
theorem done_here {c : Cx} {n : Nat} {hs0 ord0 : List Int} {rows0 : List (List Int)} (I : LS H K G s X nds [] p f hp od rw hs0 ord0 rs qs rows0) (R : LP N ps nds (x :: tl) ord rows) (h8 : ps.length ≤ 8) :
    TC c (n + 1) (.ref 120) [.ref s, .int x] G fun v G' => v = .none ∧ LS H K G' s X (doneS nds [] x (outE ps x)).1 (doneS nds [] x (outE ps x)).2 p (f + 1) hp od rw hs0 ord0 rs qs rows0 := by
  obtain ⟨i, nd, hi, rfl, hnp, hsu⟩ := R.node
  rw [← hsu]
  have hm := List.mem_of_getElem? hi
  refine TC.mono (done_ok I.so hi hnp (R.run.st.succ_in R.run.mem nd hm) (by have := R.run.st.succ_few nd hm; simp; lia)) ?_
  rintro v G' ⟨rfl, S', k⟩
  exact ⟨rfl, I.sort S' k⟩
/-- sorter.get_ready() in the loop -/
theorem ready_here {c : Cx} {n : Nat} (I : LS H K G s X nds l p f hp od rw hs ord rs qs rows) (hl : ∀ k ∈ l, k ∈ nds.map (·.k)) (hz : l.length ≤ 10000) :
    TC c (n + 1) (.ref 99) [.ref s] G fun v G' => ∃ r K', v = .ref r ∧ LS H K' G' s X (outs nds l) [] (p + l.length) f hp od rw hs ord rs qs rows ∧ K' r = some (.tup (l.map .int)) := by
  refine TC.mono (getReady_ok I.so hz hl) ?_
  rintro v G' ⟨r, rfl, hr, S', ht, k⟩
  have h0 := gets_H hr
  exact ⟨r, upd K r (.tup (l.map .int)), rfl, (I.sort S' k).learn ht (I.nk h0) (ne_none I.hh h0).symm (ne_none I.ho h0).symm (ne_none I.hr h0).symm (I.so.known h0), upd_self ..⟩
end Mine
end

-- part D12
section
open PySem PySem.W PySem.Calls PyProof.Rows
set_option Elab.async false
set_option linter.unusedVariables false
set_option autoImplicit false
set_option maxRecDepth 100000
namespace Mine

theorem k137 (w : World) : nsIn (KW w) mainGlobals "TopologicalSorter" = some (some (.ref 137)) := by kernel_rfl
theorem kk137 (w : World) : keepIn (KW w) (.ref 137) = true := by kernel_rfl
theorem k148 (w : World) : nsIn (KW w) mainGlobals "heappush" = some (some (.ref 148)) := by kernel_rfl
theorem k155 (w : World) : nsIn (KW w) mainGlobals "heappop" = some (some (.ref 155)) := by kernel_rfl
theorem k162 (w : World) : nsIn (KW w) mainGlobals "heapreplace" = some (some (.ref 162)) := by kernel_rfl
theorem k169 (w : World) : nsIn (KW w) mainGlobals "heappushpop" = some (some (.ref 169)) := by kernel_rfl
theorem k176 (w : World) : nsIn (KW w) mainGlobals "heapify" = some (some (.ref 176)) := by kernel_rfl
theorem k221 (w : World) : nsIn (KW w) mainGlobals "_law_rings" = some (some (.ref 221)) := by kernel_rfl
theorem ni87 (w : World) : findIn (KW w) (.ref 137) "add" = some (some (.ref 87)) := by kernel_rfl
theorem tf87 (w : World) : typeIn (KW w) (.ref 87) = some (.type "function") := by kernel_rfl
theorem kf87 (w : World) : ∃ o fd, (KW w).lookup 87 = some o ∧ o.data = .func fd := ⟨_, _, rfl, rfl⟩
theorem ni92 (w : World) : findIn (KW w) (.ref 137) "prepare" = some (some (.ref 92)) := by kernel_rfl
theorem tf92 (w : World) : typeIn (KW w) (.ref 92) = some (.type "function") := by kernel_rfl
theorem kf92 (w : World) : ∃ o fd, (KW w).lookup 92 = some o ∧ o.data = .func fd := ⟨_, _, rfl, rfl⟩
theorem ni99 (w : World) : findIn (KW w) (.ref 137) "get_ready" = some (some (.ref 99)) := by kernel_rfl
theorem tf99 (w : World) : typeIn (KW w) (.ref 99) = some (.type "function") := by kernel_rfl
theorem kf99 (w : World) : ∃ o fd, (KW w).lookup 99 = some o ∧ o.data = .func fd := ⟨_, _, rfl, rfl⟩
theorem ni106 (w : World) : findIn (KW w) (.ref 137) "is_active" = some (some (.ref 106)) := by kernel_rfl
theorem tf106 (w : World) : typeIn (KW w) (.ref 106) = some (.type "function") := by kernel_rfl
theorem kf106 (w : World) : ∃ o fd, (KW w).lookup 106 = some o ∧ o.data = .func fd := ⟨_, _, rfl, rfl⟩
theorem ni120 (w : World) : findIn (KW w) (.ref 137) "done" = some (some (.ref 120)) := by kernel_rfl
theorem tf120 (w : World) : typeIn (KW w) (.ref 120) = some (.type "function") := by kernel_rfl
theorem kf120 (w : World) : ∃ o fd, (KW w).lookup 120 = some o ∧ o.data = .func fd := ⟨_, _, rfl, rfl⟩

noncomputable abbrev fv (nm st : Addr) (way : Int) (s : Addr) (v4 v5 v6 v7 : AV) (free : Bool) (hp od rw : Addr) (v12 : AV) : List AV := [.ref nm, .ref st, .int way, .ref s, v4, v5, v6, v7, .bool free, .ref hp, .ref od, .ref rw, v12]

section
variable {c : Cx} {n : Nat} {F : Fm} {P : PS} {H : AH} {s nm st hp od rw : Addr} {way : Int} {free : Bool} {v4 v5 v7 v12 : AV} {ord : List Int} {rs qs : List Addr} {rows : List (List Int)}

/-- for name in ..: heappush(heap, name) -/
theorem push_all {iter : Expr} {p1 p2 p3 p4 p5 p6 pos : Pos} {Q : AF → PS → Prop}
    (h : JE c (n + 2) F iter P fun o P1 => ∃ (t : Addr) (l hs : List Int) (K G : AH) (X : SA) (nds : List Nd) (p f : Int) (v6 : AV), o = .ref t ∧ P1 = ⟨fv nm st way s v4 v5 v6 v7 free hp od rw v12, G⟩ ∧ LS H K G s X nds [] p f hp od rw hs ord rs qs rows ∧
      K t = some (.tup (l.map .int)) ∧ HP 0 hs ∧ hs.length + l.length ≤ 100 ∧ ∀ v6 G' hs', LS H K G' s X nds [] p f hp od rw hs' ord rs qs rows → HP 0 hs' → hs'.Perm (hs ++ l) → Q .next ⟨fv nm st way s v4 v5 v6 v7 free hp od rw v12, G'⟩)
    (hs : ∀ x, foldedSetIterable iter F.env x = pure x := by intro _; rfl) (h6 : F.ns[6]? = some (Str.ofString "name") := by rfl) (h9 : F.ns[9]? = some (Str.ofString "heap") := by rfl) (hx : F.env.kindOf "heappush" = some .globalImplicit := by rfl)
    (hi : interactive F.env = false := by rfl) :
    JS c (n + 2) F (.For (.Name "name" p1) iter [.Expr (.Call (.Name "heappush" p2) [.Name "heap" p3, .Name "name" p4] [] p5) p6] [] pos) P Q := by
  refine JS_ForTup (h.mono ?_) hs
  rintro o P1 ⟨t, l, hs, K, G, X, nds, p, f, v6, rfl, rfl, I, ht, hH, hz, hk⟩
  refine ⟨t, l.map .int, fun j P => ∃ v6 hs', P.m = fv nm st way s v4 v5 v6 v7 free hp od rw v12 ∧ LS H K P.H s X nds [] p f hp od rw hs' ord rs qs rows ∧ HP 0 hs' ∧ hs'.Perm (hs ++ l.take j), rfl, ⟨_, MLe.refl _, HLe.refl _, v6, hs, rfl, I, hH, by simp⟩, ?_, ?_, ?_⟩
  · rintro j P ⟨v6, hs', _, I', _⟩; exact gets_of (I'.off _ _ ht).1
  · rintro j v ⟨m, G'⟩ hv ⟨v6, hs', hm, I', hH', hP⟩ u hu
    obtain rfl : m = _ := hm
    dsimp only at I'
    obtain ⟨y, hy, rfl⟩ := map_int_get hv
    have hlen : hs'.length ≤ 100 := by have := hP.length_eq; simp at this; lia
    refine J_asg 6 ?_ h6
    rw [hu]
    refine JSS_cons (JS_Expr (JE_Call (k148 _) rfl rfl (JL_cons (JE_N 9 (JL_cons (JE_N 6 (JL_nil (TC.mono (heappush_ok I'.hh (by lia)) ?_)) h6)) h9)) hx) hi)
    rintro _ _ ⟨rfl, rfl⟩
    refine ⟨nofun, JSS_nil ⟨_, hpush hs' y, rfl, I'.setH _, hpush_hp hH', ?_⟩⟩
    refine (hpush_perm hs' y).trans ?_
    rw [List.take_add_one, hy]
    simpa using hP.append_right [y]
  · rintro ⟨m, G'⟩ ⟨v6, hs', hm, I', hH', hP⟩
    obtain rfl : m = _ := hm
    exact JSS_nil (hk v6 G' hs' I' hH' (by rw [List.take_of_length_le (by simp)] at hP; exact hP))

/-- for name in ..: heappush(heap, heappushpop(heap, name)) -/
theorem pushpop_all {iter : Expr} {p1 p2 p3 p4 p5 p6 p7 p8 p9 pos : Pos} {Q : AF → PS → Prop}
    (h : JE c (n + 3) F iter P fun o P1 => ∃ (t : Addr) (l hs : List Int) (K G : AH) (X : SA) (nds : List Nd) (p f : Int) (v6 : AV), o = .ref t ∧ P1 = ⟨fv nm st way s v4 v5 v6 v7 free hp od rw v12, G⟩ ∧ LS H K G s X nds [] p f hp od rw hs ord rs qs rows ∧
      K t = some (.tup (l.map .int)) ∧ HP 0 hs ∧ hs.length + l.length ≤ 100 ∧ ∀ v6 G' hs', LS H K G' s X nds [] p f hp od rw hs' ord rs qs rows → HP 0 hs' → hs'.Perm (hs ++ l) → Q .next ⟨fv nm st way s v4 v5 v6 v7 free hp od rw v12, G'⟩)
    (hs : ∀ x, foldedSetIterable iter F.env x = pure x := by intro _; rfl) (h6 : F.ns[6]? = some (Str.ofString "name") := by rfl) (h9 : F.ns[9]? = some (Str.ofString "heap") := by rfl) (hx : F.env.kindOf "heappush" = some .globalImplicit := by rfl)
    (hx2 : F.env.kindOf "heappushpop" = some .globalImplicit := by rfl) (hi : interactive F.env = false := by rfl) :
    JS c (n + 3) F (.For (.Name "name" p1) iter [.Expr (.Call (.Name "heappush" p2) [.Name "heap" p3, .Call (.Name "heappushpop" p7) [.Name "heap" p8, .Name "name" p4] [] p9] [] p5) p6] [] pos) P Q := by
  refine JS_ForTup (h.mono ?_) hs
  rintro o P1 ⟨t, l, hs, K, G, X, nds, p, f, v6, rfl, rfl, I, ht, hH, hz, hk⟩
  refine ⟨t, l.map .int, fun j P => ∃ v6 hs', P.m = fv nm st way s v4 v5 v6 v7 free hp od rw v12 ∧ LS H K P.H s X nds [] p f hp od rw hs' ord rs qs rows ∧ HP 0 hs' ∧ hs'.Perm (hs ++ l.take j), rfl, ⟨_, MLe.refl _, HLe.refl _, v6, hs, rfl, I, hH, by simp⟩, ?_, ?_, ?_⟩
  · rintro j P ⟨v6, hs', _, I', _⟩; exact gets_of (I'.off _ _ ht).1
  · rintro j v ⟨m, G'⟩ hv ⟨v6, hs', hm, I', hH', hP⟩ u hu
    obtain rfl : m = _ := hm
    dsimp only at I'
    obtain ⟨y, hy, rfl⟩ := map_int_get hv
    have hlen : hs'.length ≤ 100 := by have := hP.length_eq; simp at this; lia
    obtain ⟨q1, q2⟩ := hpp_hp (y := y) hH'
    have hlen2 : (hpp hs' y).2.length ≤ 100 := by have := q2.length_eq; simp at this; lia
    refine J_asg 6 ?_ h6
    rw [hu]
    refine JSS_cons (JS_Expr (JE_Call (k148 _) rfl rfl (JL_cons (JE_N 9 (JL_cons (JE_Call (k169 _) rfl rfl (JL_cons (JE_N 9 (JL_cons (JE_N 6 (JL_nil (TC.mono (heappushpop_ok I'.hh (by lia)) ?_)) h6)) h9)) hx2)) h9)) hx) hi)
    rintro _ _ ⟨rfl, rfl⟩
    have I2 := I'.setH (hpp hs' y).2
    refine JL_nil (TC.mono (heappush_ok I2.hh (by lia)) ?_)
    rintro _ _ ⟨rfl, rfl⟩
    refine ⟨nofun, JSS_nil ⟨_, hpush (hpp hs' y).2 (hpp hs' y).1, rfl, I2.setH _, hpush_hp q1, ?_⟩⟩
    refine (hpush_perm _ _).trans ?_
    rw [List.take_add_one, hy]
    refine (List.perm_append_singleton _ _).trans (q2.trans ?_)
    have := (List.perm_append_singleton y hs').symm.trans (hP.append_right [y])
    simpa using this
  · rintro ⟨m, G'⟩ ⟨v6, hs', hm, I', hH', hP⟩
    obtain rfl : m = _ := hm
    exact JSS_nil (hk v6 G' hs' I' hH' (by rw [List.take_of_length_le (by simp)] at hP; exact hP))
end

theorem LS.num {H K G : AH} {s : Addr} {X : SA} {nds : List Nd} {l : List Int} {p f p' f' : Int} {hp od rw : Addr} {hs ord : List Int} {rs qs : List Addr} {rows : List (List Int)} (I : LS H K G s X nds l p f hp od rw hs ord rs qs rows) (e1 : p = p') (e2 : f = f') : LS H K G s X nds l p' f' hp od rw hs ord rs qs rows := by
  subst e1; subst e2; exact I
end Mine
end

-- part D13
section
open PySem PySem.W PySem.Calls PyProof.Rows
set_option Elab.async false
set_option genSizeOf false
set_option genInjectivity false
set_option linter.unusedVariables false
set_option autoImplicit false
set_option maxRecDepth 100000
namespace Mine

theorem TCX.mono {c : Cx} {n : Nat} {f : Value} {args : List AV} {H : AH} {Q Q' : AV → AH → Prop} {cls : Value} {QE QE' : AH → Prop} (h : TCX c n f args H Q cls QE) (h1 : ∀ v H', Q v H' → Q' v H') (h2 : ∀ H', QE H' → QE' H') : TCX c n f args H Q' cls QE' :=
  ⟨fun vs e A s hr hp => codeAny_mono (h.co vs e A s hr hp) fun r s' z => by
    rcases r with e | fl
    · obtain ⟨a, H', z1, z2, z3, z4, z5⟩ := z; exact ⟨a, H', z1, z2, z3, z4, h2 _ z5⟩
    · cases fl <;> first | exact z | (obtain ⟨H', z1, z2, z3⟩ := z; exact ⟨H', z1, z2, h1 _ _ z3⟩)⟩

noncomputable def ToldH (H : AH) (a : Addr) (f : Bool) (order : List Int) (rows : List (List Int)) : Prop := ∃ o w t, H a = some (.list [.bool f, .ref o, .ref w, .bool false, .ref t]) ∧ H o = some (.list (order.map .int)) ∧ RowsH H w rows ∧ H t = some (.tup [])
theorem ToldH.told {c : Cx} {H : AH} {a : Addr} {f : Bool} {order : List Int} {rows : List (List Int)} (h : ToldH H a f order rows) : Told c H a f order rows := by
  obtain ⟨o, w, t, h1, h2, h3, h4⟩ := h
  exact ⟨o, w, t, gets_of h1, gets_of h2, h3.at, gets_of h4⟩
theorem ToldH.le {H H' : AH} {a : Addr} {f : Bool} {order : List Int} {rows : List (List Int)} (h : ToldH H a f order rows) (l : HLe H H') : ToldH H' a f order rows := by
  obtain ⟨o, w, t, h1, h2, h3, h4⟩ := h
  exact ⟨o, w, t, l _ _ h1, l _ _ h2, h3.le l, l _ _ h4⟩

noncomputable def FinOK (N : List Int) (ps : List (Int × Int)) (fin : List Int) : Prop := (∀ k ∈ N, k ∈ fin) ∧ ∀ (i : Nat) k, fin[i]? = some k → ∀ q, (k, q) ∈ ps → q ∈ fin.take i
theorem idx_take {fin : List Int} {i : Nat} {q : Int} (h : q ∈ fin.take i) : fin.idxOf q < i := by
  have h1 : (fin.take i).idxOf q < (fin.take i).length := List.idxOf_lt_length_iff.mpr h
  have h2 : fin.idxOf q = (fin.take i).idxOf q := by
    rw [show fin.idxOf q = (fin.take i ++ fin.drop i).idxOf q by rw [List.take_append_drop]]
    rw [List.idxOf_append, if_pos h]
  rw [List.length_take] at h1; lia
theorem fin_ring {N : List Int} {ps : List (Int × Int)} {fin ring : List Int} (hm : ∀ p ∈ ps, p.1 ∈ N ∧ p.2 ∈ N) (h : FinOK N ps fin) (R : RingOK ps ring) : False := by
  have h2 := R.two
  have dec : ∀ a b, (a, b) ∈ ps → fin.idxOf b < fin.idxOf a := fun a b hab => by
    have ha := h.1 a (hm _ hab).1
    have hl := List.idxOf_lt_length_iff.mpr ha
    exact idx_take (h.2 (fin.idxOf a) a (by rw [List.getElem?_eq_getElem hl, List.getElem_idxOf]) b hab)
  have all : ∀ i, 0 < i → i < ring.length → fin.idxOf (ring.getD i 0) < fin.idxOf (ring.getD 0 0) := by
    intro i
    induction i with
    | zero => intro h; lia
    | succ i ih =>
      intro _ hi
      have s := dec _ _ (R.steps i hi)
      by_cases z : i = 0
      · subst z; exact s
      · have := ih (by lia) (by lia); lia
  have := all (ring.length - 1) (by lia) (by lia)
  rw [← R.ends] at this; lia
theorem St.succ_ps {nds : List Nd} {S : List Int} {ps : List (Int × Int)} {g : Int → Int} (h : St nds S ps g) {k q : Int} (hq : q ∈ Mine.succOf nds k) : (k, q) ∈ ps := by
  by_cases hk : k ∈ nds.map (·.k)
  · rw [h.succOf ((h.iff k).mp hk)] at hq; exact outE_mem.mp hq
  · exfalso
    unfold Mine.succOf at hq
    rw [List.find?_eq_none.mpr fun x hx => by simp; intro e; exact hk (e ▸ List.mem_map_of_mem hx)] at hq
    simp at hq
theorem St.ring {nds : List Nd} {S : List Int} {ps : List (Int × Int)} {g : Int → Int} (h : St nds S ps g) {ring : List Int} (R : RingS (Mine.succOf nds) ring) : RingOK ps ring :=
  ⟨R.two, R.few, R.ends, fun i hi => h.succ_ps (R.steps i hi), R.once⟩
theorem St.fin {nds : List Nd} {N : List Int} {ps : List (Int × Int)} {g : Int → Int} (h : St nds N ps g) (hm : ∀ p ∈ ps, p.1 ∈ N ∧ p.2 ∈ N) {fin : List Int} (h1 : ∀ k ∈ nds.map (·.k), k ∈ fin) (h2 : ∀ (i : Nat) k, fin[i]? = some k → ∀ q ∈ Mine.succOf nds k, q ∈ fin.take i) : FinOK N ps fin :=
  ⟨fun k hk => h1 k ((h.iff k).mpr hk), fun i k e q hq => h2 i k e q (by rw [h.succOf (hm _ hq).1]; exact outE_mem.mpr hq)⟩

structure Led (N : List Int) (ps : List (Int × Int)) (free : Bool) (ord : List Int) (rows : List (List Int)) : Prop where
  lp : ∃ nds, LP N ps nds [] ord rows
  yes : free = true → ∃ fin, FinOK N ps fin
  no : free = false → ∃ ring, RingOK ps ring

theorem LS.init {H G : AH} {s : Addr} {X : SA} {nds : List Nd} {p f : Int} {hp od rw : Addr} {hs : List Int} {o1 o2 : AO} (S : Sorter G s X nds (some []) p f) (k : Keep H [] G (fp s X (some []))) (h1 : G hp = none) (h2 : upd G hp o1 od = none) (h3 : upd (upd G hp o1) od o2 rw = none) :
    LS H H (upd (upd (upd G hp (.list (hs.map .int))) od (.list [])) rw (.list [])) s X nds [] p f hp od rw hs [] [] [] [] := by
  have ne : ∀ {G : AH} {a b : Addr} {o : AO}, upd G a o b = none → b ≠ a ∧ G b = none := fun {G a b o} e => by
    have : b ≠ a := fun q => by subst q; rw [upd_self] at e; cases e
    rw [upd_ne _ _ this] at e; exact ⟨this, e⟩
  obtain ⟨n1, h2'⟩ := ne h2
  obtain ⟨n3, h3'⟩ := ne h3
  obtain ⟨n2, h3''⟩ := ne h3'
  refine ⟨HLe.refl _, fun a o e => ?_, ?_, ?_, ?_, upd_self .., S.known h1, S.known h2', S.known h3'', n1.symm, n2.symm, n3.symm, rfl, rfl⟩
  · obtain ⟨z1, z2⟩ := k a o e (by simp)
    exact ⟨upd_off (ne_none z1 h3'') (upd_off (ne_none z1 h2') (upd_off (ne_none z1 h1) z1)), ne_none z1 h1, ne_none z1 h2', ne_none z1 h3'', z2⟩
  · exact ((S.frame (S.known h1)).frame (S.known h2')).frame (S.known h3'')
  · exact upd_off n2.symm (upd_off n1.symm (upd_self ..))
  · exact upd_off n3.symm (upd_self ..)

noncomputable def nmsOf (ps : List (Int × Int)) : List Int := ps.flatMap fun p => [p.2, p.1]
theorem nmsOf_mem {ps : List (Int × Int)} : ∀ p ∈ ps, p.1 ∈ nmsOf ps ∧ p.2 ∈ nmsOf ps := fun p hp => by
  unfold nmsOf
  simp only [List.mem_flatMap]
  exact ⟨⟨p, hp, by simp⟩, ⟨p, hp, by simp⟩⟩
theorem nmsOf_sub {N : List Int} {ps : List (Int × Int)} (h : ∀ p ∈ ps, p.1 ∈ N ∧ p.2 ∈ N) : ∀ k ∈ nmsOf ps, k ∈ N := fun k hk => by
  unfold nmsOf at hk
  obtain ⟨p, hp, hq⟩ := List.mem_flatMap.mp hk
  simp at hq
  rcases hq with rfl | rfl
  · exact (h p hp).2
  · exact (h p hp).1
theorem nmsOf_snoc (ps : List (Int × Int)) (p : Int × Int) : nmsOf (ps ++ [p]) = nmsOf ps ++ [p.2] ++ [p.1] := by simp [nmsOf]
end Mine
end

-- part D14
section
open PySem PySem.W PySem.Calls PyProof.Rows
set_option Elab.async false
set_option linter.unusedVariables false
set_option autoImplicit false
set_option maxRecDepth 100000
namespace Mine

theorem take_succ_of {α : Type} {l : List α} {j : Nat} {x : α} (h : l[j]? = some x) : l.take (j + 1) = l.take j ++ [x] := by rw [List.take_add_one, h]; rfl
theorem Keep.le {H G G' : AH} {l : List Addr} (k : Keep H [] G l) (h : HLe G G') : Keep H [] G' l := fun a o e n => ⟨h _ _ (k a o e n).1, (k a o e n).2⟩

theorem ready_here' {c : Cx} {n : Nat} {H K G : AH} {s : Addr} {X : SA} {nds : List Nd} {l : List Int} {p f : Int} {hp od rw : Addr} {hs ord : List Int} {rs qs : List Addr} {rows : List (List Int)} (I : LS H K G s X nds l p f hp od rw hs ord rs qs rows) (hl : ∀ k ∈ l, k ∈ nds.map (·.k)) (hz : l.length ≤ 10000) :
    TC c (n + 1) (.ref 99) [.ref s] G fun v G' => ∃ r K', v = .ref r ∧ LS H K' G' s X (outs nds l) [] (p + l.length) f hp od rw hs ord rs qs rows ∧ K' r = some (.tup (l.map .int)) ∧ HLe K K' := by
  refine TC.mono (getReady_ok I.so hz hl) ?_
  rintro v G' ⟨r, rfl, hr, S', ht, k⟩
  have h0 := gets_H hr
  exact ⟨r, upd K r (.tup (l.map .int)), rfl, (I.sort S' k).learn ht (I.nk h0) (ne_none I.hh h0).symm (ne_none I.ho h0).symm (ne_none I.hr h0).symm (I.so.known h0), upd_self .., HLe.upd (I.nk h0)⟩

set_option maxHeartbeats 4000000 in
theorem led_ok {c : Cx} {n : Nat} {H : AH} {nm st : Addr} {names : List Int} {ps : List (Int × Int)} {way : Int} (hn : H nm = some (.list (names.map .int))) (h6 : names.length = 6) (hnd : names.Nodup) (hs : StepsAt H st ps) (hps : ∀ p ∈ ps, p.1 ∈ names ∧ p.2 ∈ names) (h8 : ps.length ≤ 8) :
    TC c (n + 5) (.ref 228) [.ref nm, .ref st, .int way] H fun v H' => ∃ a free ord rows, v = .ref a ∧ ToldH H' a free ord rows ∧ HLe H H' ∧ Led names ps free ord rows := by
  let Q0 : AV → AH → Prop := fun v H' => ∃ a free ord rows, v = .ref a ∧ ToldH H' a free ord rows ∧ HLe H H' ∧ Led names ps free ord rows
  show TC _ _ _ _ _ Q0
  refine TC_def [Str.ofString "names", Str.ofString "steps", Str.ofString "way"] [Str.ofString "sorter", Str.ofString "ahead", Str.ofString "behind", Str.ofString "name", Str.ofString "ring", Str.ofString "free", Str.ofString "heap", Str.ofString "order", Str.ofString "rows", Str.ofString "fresh"] rfl rfl rfl (by kernel_rfl) rfl rfl ?_ (by decide) (by decide) (by decide) rfl rfl rfl rfl ?_
  · intro vs hvs
    rcases vs with _ | ⟨v1, _ | ⟨v2, _ | ⟨v3, _ | _⟩⟩⟩ <;> first | rfl | (simp at hvs)
  intro L
  obtain ⟨rs, hs1, hs2⟩ := hs
  obtain ⟨o87, d87, a87, b87⟩ := kf87 c.w
  obtain ⟨o92, d92, a92, b92⟩ := kf92 c.w
  obtain ⟨o99, d99, a99, b99⟩ := kf99 c.w
  obtain ⟨o106, d106, a106, b106⟩ := kf106 c.w
  obtain ⟨o120, d120, a120, b120⟩ := kf120 c.w
  obtain ⟨o127, d127, a127, b127⟩ := kf127 c.w
  -- the sorter
  refine JSS_cons (JS_set 3 (JE_class (k137 _) (kk137 _) (JL_nil (TC.mono sorter_ok ?_))))
  rintro _ G0 ⟨s, d, m, rfl, gs, gd, gm, S0, hk0⟩
  have K0 : Keep H [] G0 (fp s ⟨d, m, 0, []⟩ none) := fun a o e _ => ⟨hk0 a o e, fun z => by
    simp [fp, fpt] at z
    rcases z with rfl | rfl | rfl
    · exact absurd ((gets_H gs).symm.trans e) (by simp)
    · exact absurd ((gets_H gd).symm.trans e) (by simp)
    · exact absurd ((gets_H gm).symm.trans e) (by simp)⟩
  -- the steps
  let hI1 : PS → Prop := fun P => ∃ X nds v4 v5, P.m = [.ref nm, .ref st, .int way, .ref s, v4, v5, .other, .other, .other, .other, .other, .other, .other] ∧ Sorter P.H s X nds none 0 0 ∧ Keep H [] P.H (fp s X none) ∧ St nds (nmsOf ps) ps (deg ps)
  let hI8 : Nat → PS → Prop := fun j P => ∃ X nds v4 v5, P.m = [.ref nm, .ref st, .int way, .ref s, v4, v5, .other, .other, .other, .other, .other, .other, .other] ∧ Sorter P.H s X nds none 0 0 ∧ Keep H [] P.H (fp s X none) ∧ St nds (nmsOf (ps.take j)) (ps.take j) (deg (ps.take j))
  refine JSS_seq (hI1) (JS_ForList (JE_N 1 ⟨st, rs.map .ref,
    hI8, rfl,
    ⟨_, MLe.refl _, HLe.refl _, _, [], .other, .other, rfl, S0, K0, ⟨List.nodup_nil, by simp [nmsOf], nofun, nofun⟩⟩, ?_, ?_, ?_⟩)) ?_
  · rintro j P ⟨X, nds, v4, v5, _, _, k, _⟩; exact gets_of (k _ _ hs1 (by simp)).1
  · rintro j v ⟨mm, G⟩ hv ⟨X, nds, v4, v5, hm, S, k, T⟩ u hu
    obtain rfl : mm = _ := hm
    dsimp only at S k
    obtain ⟨r, p, rfl, hr, hp, hrp⟩ := StepsAt.get hs2 hv
    refine J_asgTwo (.inl (gets_of (k _ _ hrp (by simp)).1)) (fun x y ex ey => J_asg 4 (J_asg 5 ?_)) rfl u hu
    rw [ex, ey]
    have f1 := T.few (nmsOf_sub fun q hq => hps q (List.mem_of_mem_take hq))
    have f2 := T.succ_few
    have f3 : (ps.take j).length ≤ 8 := by rw [List.length_take]; lia
    refine JSS_cons (JS_Expr (JE_methFn (ni87 _) (tf87 _) a87 b87 (JE_N 3 ⟨s, X.d, _, rfl, S.inst, S.attrs, sl_none _ _ _ _ _ (by decide) (by decide) (by decide) (by decide), JL_cons (JE_N 5 (JL_cons (JE_N 4 (JL_nil (TC.mono (add_ok (ps := [p.1]) S (by lia) (fun nd hm => by have := f2 nd hm; lia) (by simp)) ?_)))))⟩)))
    rintro _ G' ⟨rfl, X', S', k'⟩
    refine ⟨nofun, JSS_nil ⟨X', _, _, _, rfl, S', k.trans k', ?_⟩⟩
    rw [take_succ_of hp, nmsOf_snoc]
    exact T.step nmsOf_mem p.1 p.2
  · rintro ⟨mm, G⟩ ⟨X, nds, v4, v5, hm, S, k, T⟩
    have hl : (rs.map AV.ref).length = ps.length := by have := congrArg List.length hs2; simpa using this
    rw [hl, List.take_length] at T
    exact JSS_nil ⟨rfl, X, nds, v4, v5, hm, S, k, T⟩
  rintro ⟨mm, G1⟩ ⟨X1, nds1, v4, v5, hm, S1, k1, T1⟩
  obtain rfl : mm = _ := hm
  dsimp only at S1 k1
  -- the names
  let hI2 : PS → Prop := fun P => ∃ X nds v6, P.m = [.ref nm, .ref st, .int way, .ref s, v4, v5, v6, .other, .other, .other, .other, .other, .other] ∧ Sorter P.H s X nds none 0 0 ∧ Keep H [] P.H (fp s X none) ∧ St nds names ps (deg ps)
  let hI9 : Nat → PS → Prop := fun j P => ∃ X nds v6, P.m = [.ref nm, .ref st, .int way, .ref s, v4, v5, v6, .other, .other, .other, .other, .other, .other] ∧ Sorter P.H s X nds none 0 0 ∧ Keep H [] P.H (fp s X none) ∧ St nds (nmsOf ps ++ names.take j) ps (deg ps)
  refine JSS_seq (hI2) (JS_ForList (JE_N 0 ⟨nm, names.map .int,
    hI9, rfl,
    ⟨_, MLe.refl _, HLe.refl _, _, nds1, .other, rfl, S1, k1, by rw [List.take_zero, List.append_nil]; exact T1⟩, ?_, ?_, ?_⟩)) ?_
  · rintro j P ⟨X, nds, v6, _, _, k, _⟩; exact gets_of (k _ _ hn (by simp)).1
  · rintro j v ⟨mm, G⟩ hv ⟨X, nds, v6, hm, S, k, T⟩ u hu
    obtain rfl : mm = _ := hm
    dsimp only at S k
    obtain ⟨x, hx, rfl⟩ := map_int_get hv
    refine J_asg 6 ?_
    rw [hu]
    have f1 := T.few (N := names) fun q hq => by
      rcases List.mem_append.mp hq with z | z
      · exact nmsOf_sub hps q z
      · exact List.mem_of_mem_take z
    have f2 := T.succ_few
    refine JSS_cons (JS_Expr (JE_methFn (ni87 _) (tf87 _) a87 b87 (JE_N 3 ⟨s, X.d, _, rfl, S.inst, S.attrs, sl_none _ _ _ _ _ (by decide) (by decide) (by decide) (by decide), JL_cons (JE_N 6 (JL_nil (TC.mono (add_ok (ps := []) S (by lia) (fun nd hm => by have := f2 nd hm; lia) (by simp)) ?_)))⟩)))
    rintro _ G' ⟨rfl, X', S', k'⟩
    refine ⟨nofun, JSS_nil ⟨X', _, _, rfl, S', k.trans k', ?_⟩⟩
    rw [take_succ_of hx, ← List.append_assoc]
    exact T.name (fun p hp => ⟨List.mem_append_left _ (nmsOf_mem p hp).1, List.mem_append_left _ (nmsOf_mem p hp).2⟩) x
  · rintro ⟨mm, G⟩ ⟨X, nds, v6, hm, S, k, T⟩
    rw [List.length_map, List.take_length] at T
    exact JSS_nil ⟨rfl, X, nds, v6, hm, S, k, T.congr (fun q => ⟨fun z => List.mem_append_right _ z, fun z => (List.mem_append.mp z).elim (nmsOf_sub hps q) id⟩) fun _ _ => rfl⟩
  rintro ⟨mm, G2⟩ ⟨X2, nds, v6, hm, S2, k2, T⟩
  obtain rfl : mm = _ := hm
  dsimp only at S2 k2
  have fz : nds.length ≤ 80 := by have := T.few (N := names) fun _ h => h; lia
  have fs : ∀ nd ∈ nds, nd.succ.length ≤ 80 := fun nd hm => by have := T.succ_few nd hm; lia
  have fsi := T.succ_in hps
  -- the search
  refine JSS_cons (JS_set 7 (JE_methFn (ni127 _) (tf127 _) a127 b127 (JE_N 3 ⟨s, X2.d, _, rfl, S2.inst, S2.attrs, sl_none _ _ _ _ _ (by decide) (by decide) (by decide) (by decide), JL_nil (TC.mono (find_ok S2 fz fsi fs) ?_)⟩)))
  rintro v7 G3 ⟨hle, hring⟩
  have S3 := S2.mono fun a _ o e => hle a o e
  have k3 := k2.le hle
  have hr7 : (v7 = .none ∧ ∃ fin, FinOK names ps fin) ∨ ∃ r ring, v7 = .ref r ∧ G3 r = some (.list (ring.map .int)) ∧ RingOK ps ring ∧ r ∉ fp s X2 none := by
    rcases hring with ⟨e, fin, z1, z2⟩ | ⟨r, ring, e, z1, z2, z3⟩
    · exact .inl ⟨e, fin, T.fin hps z1 z2⟩
    · exact .inr ⟨r, ring, e, z1, T.ring z2, S2.known z3⟩
  -- prepare
  let hI3 : PS → Prop := fun P => ∃ X free, P.m = [.ref nm, .ref st, .int way, .ref s, v4, v5, v6, v7, .bool free, .other, .other, .other, .other] ∧ Sorter P.H s X nds (some (zeros nds)) 0 0 ∧ Keep G3 (fp s X2 none) P.H (fp s X (some (zeros nds))) ∧ (free = true → ∃ fin, FinOK names ps fin) ∧ (free = false → ∃ ring, RingOK ps ring)
  let hI7 : PS → Prop := fun P => ∃ X, P.m = [.ref nm, .ref st, .int way, .ref s, v4, v5, v6, v7, .other, .other, .other, .other, .other] ∧ Sorter P.H s X nds (some (zeros nds)) 0 0 ∧ Keep G3 (fp s X2 none) P.H (fp s X (some (zeros nds))) ∧ ∃ ring, RingOK ps ring
  refine JSS_seq (hI3)
    (JS_Try (QE := hI7)
      (JX_cons (JX_Expr (JX_methFn (ni92 _) (tf92 _) a92 b92 (JE_N 3 ⟨s, X2.d, _, rfl, S3.inst, S3.attrs, sl_none _ _ _ _ _ (by decide) (by decide) (by decide) (by decide), JL_nil (TCX.mono (prepare_ok S3 fz fsi fs) ?_ ?_)⟩)))) (ev_cycle rfl) mt_cycle ?_) ?_
  · rintro v G4 ⟨rfl, ⟨X', S4, k4⟩, fin, z1, z2⟩
    exact ⟨nofun, J.x (JSS_cons (JS_set 8 (JE_bool (JSS_nil ⟨rfl, X', true, rfl, S4, k4, fun _ => ⟨fin, T.fin hps z1 z2⟩, nofun⟩))))⟩
  · rintro G4 ⟨⟨X', S4, k4⟩, ring, z⟩
    exact ⟨X', rfl, S4, k4, ring, T.ring z⟩
  · rintro ⟨mm, G4⟩ ⟨X', hm, S4, k4, ring⟩
    obtain rfl : mm = _ := hm
    exact JSS_cons (JS_set 8 (JE_bool (JSS_nil ⟨rfl, X', false, rfl, S4, k4, nofun, fun _ => ring⟩)))
  rintro ⟨mm, G4⟩ ⟨X, free, hm, S4, k4, hy, hno⟩
  obtain rfl : mm = _ := hm
  dsimp only at S4 k4
  have h7 : v7 ≠ .other ∧ isNone v7 = free := by
    rcases hr7 with ⟨rfl, fin, hf⟩ | ⟨r, ring, rfl, _, hr, _⟩
    · refine ⟨nofun, ?_⟩
      cases free
      · obtain ⟨ring, hr⟩ := hno rfl; exact (fin_ring hps hf hr).elim
      · rfl
    · refine ⟨nofun, ?_⟩
      cases free
      · rfl
      · obtain ⟨fin, hf⟩ := hy rfl; exact (fin_ring hps hf hr).elim
  refine JSS_cons (JS_If (JB_Compare (JE_N 8 (JE_Compare (JE_N 7 (JE_none (J_is (J_neb ⟨_, rfl, fun hb => ?_, fun _ => ?_⟩))) rfl rfl h7.1)))))
  · rw [h7.2] at hb; simp at hb
  refine JSS_nil ?_
  -- the ring
  let hI4 : PS → Prop := fun P => P.m = [.ref nm, .ref st, .int way, .ref s, v4, v5, v6, v7, .bool free, .other, .other, .other, .other] ∧ HLe G4 P.H
  refine JSS_seq (hI4) (JS_If (JB_And (JB_Not (JB_value (JE_N 8 (J_truthb ⟨fun hb => ?_, fun hb => ⟨nofun, fun _ => JSS_nil ⟨rfl, rfl, HLe.refl _⟩⟩⟩)))))) ?_
  · rcases hr7 with ⟨rfl, fin, hf⟩ | ⟨r, ring, rfl, gr, hr, nr⟩
    · have ef : free = true := h7.2.symm
      subst ef
      exact absurd hb (by decide)
    · have hst : StepsAt G4 st ps := StepsAt.le ⟨rs, hs1, hs2⟩ fun a o e => (k4 a o (k3 a o e (by simp)).1 (k3 a o e (by simp)).2).1
      refine JB_Not (JB_value (JE_Call (k221 _) rfl rfl (JL_cons (JE_N 1 (JL_cons (JE_N 7 (JL_nil (TC.mono (rings_ok hst (k4 _ _ gr nr).1 hr) ?_))))))))
      rintro _ G5 ⟨rfl, hle5⟩
      exact J_truthb ⟨nofun, fun _ => JSS_nil ⟨rfl, rfl, hle5⟩⟩
  rintro ⟨mm, G5⟩ ⟨hm, hle5⟩
  obtain rfl : mm = _ := hm
  dsimp only at hle5
  have S5 := S4.mono fun a _ o e => hle5 a o e
  have k5 : Keep H [] G5 (fp s X (some [])) := fun a o e nn => let z := k3 a o e nn; let y := k4 a o z.1 z.2; ⟨hle5 _ _ y.1, y.2⟩
  obtain ⟨Run0, perm0⟩ := Run.start T hnd hps
  have hz0 : ∀ k ∈ zeros nds, k ∈ nds.map (·.k) := fun k hk => by
    unfold zeros at hk
    obtain ⟨nd, h1, rfl⟩ := List.mem_map.mp hk
    exact List.mem_map_of_mem (List.mem_filter.mp h1).1
  have hzl : (zeros nds).length ≤ 80 := by
    unfold zeros; rw [List.length_map]; exact Nat.le_trans (List.length_filter_le _ _) fz
  refine JSS_cons (JS_set 9 (JE_listTup (JE_methFn (ni99 _) (tf99 _) a99 b99 (JE_N 3 ⟨s, X.d, _, rfl, S5.inst, S5.attrs, sl_none _ _ _ _ _ (by decide) (by decide) (by decide) (by decide), JL_nil (TC.mono (getReady_ok S5 (by lia) hz0) ?_)⟩))))
  rintro _ G6 ⟨t, rfl, ht, S6, ht6, k6⟩
  refine ⟨t, _, rfl, gets_of ht6, by simp; lia, fun hp hhp => ?_⟩
  refine JSS_cons (JS_Expr (JE_Call (k176 _) rfl rfl (JL_cons (JE_N 9 (JL_nil (TC.mono (heapify_ok (upd_self ..) (by lia)) ?_))))))
  rintro _ _ ⟨rfl, rfl⟩
  refine ⟨nofun, ?_⟩
  rw [upd_upd]
  refine JSS_cons (JS_set 10 (JE_List (JL_nil ⟨by decide, fun od hod => ?_⟩)))
  refine JSS_cons (JS_set 11 (JE_List (JL_nil ⟨by decide, fun rw hrw => ?_⟩)))
  have I0 : LS H H _ s X (outs nds (zeros nds)) [] (0 + (zeros nds).length) 0 hp od rw (hpfy (zeros nds)) [] [] [] [] := LS.init S6 (k5.trans k6) (gets_H hhp) (gets_H hod) (gets_H hrw)
  have L0 : LP names ps (outs nds (zeros nds)) (hpfy (zeros nds)) [] [] := ⟨Run0, (hpfy_hp _).2.trans perm0, (hpfy_hp _).1, rfl, by simp, by simp⟩
  have hl0 : (hpfy (zeros nds)).length = (zeros nds).length := (hpfy_hp _).2.length_eq
  -- the loop
  let hI5 : PS → Prop := fun P => ∃ K nds hp ord rs qs rows v6 v12, P.m = fv nm st way s v4 v5 v6 v7 free hp od rw v12 ∧ LS H K P.H s X nds [] (ord.length : Nat) (ord.length : Nat) hp od rw [] ord rs qs rows ∧ LP names ps nds [] ord rows
  let hI6 : Nat → PS → Prop := fun k P => ∃ K nds hp hs ord rs qs rows v6 v12, P.m = fv nm st way s v4 v5 v6 v7 free hp od rw v12 ∧ LS H K P.H s X nds [] (ord.length + hs.length : Nat) (ord.length : Nat) hp od rw hs ord rs qs rows ∧ LP names ps nds hs ord rows ∧ 6 - ord.length ≤ k
  refine JSS_seq (hI5)
    (JS_While (hI6)
      ?_ 6 ⟨H, _, hp, _, [], [], [], [], v6, .other, rfl, I0.num (by simp; lia) rfl, L0, by simp⟩) ?_
  · rintro k ⟨mm, G⟩ ⟨K, nds, hp, hs, ord, rs, qs, rows, v6, v12, hm, I, R, hk⟩
    obtain rfl : mm = _ := hm
    dsimp only at I
    have few := R.few
    refine JB_value (JE_N 9 (J_truthList (gets_of I.hh) (by simp; lia) ⟨fun hb => ?_, fun hb => ?_⟩))
    · obtain ⟨x, tl, rfl⟩ : ∃ x tl, hs = x :: tl := by
        cases hs with
        | nil => simp at hb
        | cons x tl => exact ⟨x, tl, rfl⟩
      have more := R.more
      have few2 : tl.length ≤ 6 := by have := few.2; simp at this; lia
      have rl := R.len
      -- rows.append(..)
      refine JSS_cons (JS_Expr (JE_meth PySem.F.plainAttrs_list PySem.F.slot_list_append PySem.F.type_list_append (JE_N 11 ⟨rw, _, rfl, gets_of I.hr, rfl, JL_cons (JE_List (JL_cons (JE_methFn (ni106 _) (tf106 _) a106 b106 (JE_N 3 ⟨s, X.d, _, rfl, I.so.inst, I.so.attrs, sl_none _ _ _ _ _ (by decide) (by decide) (by decide) (by decide), JL_nil (TC.mono (active_ok I.so (by simp)) ?_)⟩))))⟩)))
      rintro _ G' ⟨rfl, hG'⟩
      rw [hG']
      clear hG' G'
      rw [show (decide (((ord.length : Nat) : Int) < ((ord.length + (x :: tl).length : Nat) : Int)) || !([] : List Int).isEmpty) = true by simp; lia]
      refine JL_cons (JE_sorted (JE_N 9 ⟨hp, x :: tl, rfl, gets_of I.hh, by simp; lia, fun q row hperm hpw hq => JL_nil ⟨by simp, fun r hr => JL_nil ?_⟩⟩))
      have I1 := (I.fresh (o := .list (row.map .int)) (gets_H hq)).fresh (o := .list [.bool true, .ref q]) (gets_H hr)
      have hrl : (rs.map AV.ref).length ≤ 10000 := by
        have e1 := congrArg List.length I.r1
        have e2 := congrArg List.length I.r2
        simp at e1 e2 ⊢; lia
      refine J_append I1.hr hrl ⟨nofun, ?_⟩
      have I2 := I1.setR (r := r) (q := q) (row := row) (upd_self ..) (upd_off (ne_none (upd_self ..) (I.fresh (o := .list (row.map .int)) (gets_H hq) |>.nk (gets_H hr))) (upd_self ..))
      rw [List.map_append] at I2
      show JSS _ _ _ _ ⟨fv nm st way s v4 v5 v6 v7 free hp od rw v12, upd (upd (upd G q (.list (row.map .int))) r (.list [.bool true, .ref q])) rw (.list (rs.map .ref ++ [r].map .ref))⟩ _
      generalize upd (upd (upd G q (.list (row.map .int))) r (.list [.bool true, .ref q])) rw (.list (rs.map .ref ++ [r].map .ref)) = G2 at I2 ⊢
      generalize upd (upd K q (.list (row.map .int))) r (.list [.bool true, .ref q]) = K2 at I2
      obtain ⟨D, hD⟩ : ∃ D, D = doneS nds [] x (outE ps x) := ⟨_, rfl⟩
      have nx : ∀ hs', hs'.Perm (tl ++ D.2) → HP 0 hs' → LP names ps (outs D.1 D.2) hs' (ord ++ [x]) (rows ++ [row]) := by subst hD; exact fun hs' h1 h2 => R.next hperm hpw h1 h2
      have hl : ∀ k ∈ D.2, k ∈ D.1.map (·.k) := fun k hk => by
        have hx : x ∈ freeL ps (lft names ord) := R.perm.subset (List.mem_cons_self ..)
        have h1 := (R.run.step hx).2.1 k (hD ▸ hk)
        rw [hD]; unfold doneS
        rw [rel_keys, npTo_keys]; exact (R.run.st.iff k).mpr h1
      have hf8 : D.2.length ≤ 8 := by rw [hD]; exact Nat.le_trans fresh_len h8
      have fin : ∀ {K' G' hp' hs' v6' v12' p' f'}, LS H K' G' s X (outs D.1 D.2) [] p' f' hp' od rw hs' (ord ++ [x]) (rs ++ [r]) (qs ++ [q]) (rows ++ [row]) → p' = ((ord.length + (x :: tl).length : Nat) : Int) + (D.2.length : Nat) → f' = ((ord.length : Nat) : Int) + 1 → HP 0 hs' → hs'.Perm (tl ++ D.2) →
          ∃ k', k' < k ∧ ∃ K nds hp hs ord rs qs rows v6 v12, fv nm st way s v4 v5 v6' v7 free hp' od rw v12' = fv nm st way s v4 v5 v6 v7 free hp od rw v12 ∧ LS H K G' s X nds [] (ord.length + hs.length : Nat) (ord.length : Nat) hp od rw hs ord rs qs rows ∧ LP names ps nds hs ord rows ∧ 6 - ord.length ≤ k' := by
        intro K' G' hp' hs' v6' v12' p' f' I' e1 e2 h1 h2
        refine ⟨k - 1, by lia, K', _, hp', hs', _, _, _, _, v6', v12', rfl, I'.num ?_ ?_, nx hs' h2 h1, by simp; lia⟩
        · have := h2.length_eq
          simp at this e1 ⊢; lia
        · simp [e2]
      have snoc : ord.map AV.int ++ [.int x] = (ord ++ [x]).map .int := by simp
      have last : itemAt (some (.list ((ord ++ [x]).map AV.int))) (-1) = some (.int x) := idx_last (by simp) (by simp; lia)
      obtain ⟨hp1, hp2⟩ := hpop_hp R.hp
      have hpl : (hpop (x :: tl)).length = tl.length := hp2.length_eq
      have hol : (ord.map AV.int).length ≤ 10000 := by simp; lia
      refine JSS_cons (JS_If (JB_Compare (JE_N 2 (JE_int (J_eq ⟨_, rfl, fun _ => ?_, fun _ => ?_⟩)))))
      · -- by heappush
        refine JSS_cons (JS_Expr (JE_meth PySem.F.plainAttrs_list PySem.F.slot_list_append PySem.F.type_list_append (JE_N 10 ⟨od, _, rfl, gets_of I2.ho, rfl, JL_cons (JE_Call (k155 _) rfl rfl (JL_cons (JE_N 9 (JL_nil (TC.mono (heappop_ok I2.hh (by lia)) ?_)))))⟩)))
        rintro _ _ ⟨rfl, rfl⟩
        have I3 := I2.setH (hpop (x :: tl))
        refine JL_nil (J_append I3.ho hol ⟨nofun, ?_⟩)
        rw [snoc]
        have I4 := I3.setO (ord ++ [x])
        show JSS _ _ _ _ ⟨fv nm st way s v4 v5 v6 v7 free hp od rw v12, upd (upd G2 hp (.list ((hpop (x :: tl)).map .int))) od (.list ((ord ++ [x]).map .int))⟩ _
        generalize upd (upd G2 hp (.list ((hpop (x :: tl)).map .int))) od (.list ((ord ++ [x]).map .int)) = G4 at I4 ⊢
        refine JSS_cons (JS_Expr (JE_methFn (ni120 _) (tf120 _) a120 b120 (JE_N 3 ⟨s, X.d, _, rfl, I4.so.inst, I4.so.attrs, sl_none _ _ _ _ _ (by decide) (by decide) (by decide) (by decide), JL_cons (JE_item (JE_N 10 (JE_USub (JE_int ⟨1, rfl, od, -1, _, .int x, rfl, rfl, gets_of I4.ho, last, JL_nil (TC.mono (done_here I4 R h8) ?_)⟩))))⟩)))
        rintro _ G5 ⟨rfl, I5⟩
        rw [← hD] at I5
        refine ⟨nofun, JSS_cons (push_all (H := H) (s := s) (nm := nm) (st := st) (hp := hp) (od := od) (rw := rw) (way := way) (free := free) (v4 := v4) (v5 := v5) (v7 := v7) (v12 := v12) (ord := ord ++ [x]) (rs := rs ++ [r]) (qs := qs ++ [q]) (rows := rows ++ [row]) (JE_methFn (ni99 _) (tf99 _) a99 b99 (JE_N 3 ⟨s, X.d, _, rfl, I5.so.inst, I5.so.attrs, sl_none _ _ _ _ _ (by decide) (by decide) (by decide) (by decide), JL_nil (TC.mono (ready_here I5 hl (by lia)) ?_)⟩)))⟩
        rintro _ G6 ⟨t, K6, rfl, I6, ht⟩
        exact ⟨t, D.2, hpop (x :: tl), K6, G6, X, _, _, _, v6, rfl, rfl, I6, ht, hp1, by lia, fun v6' G7 hs' I7 h1 h2 => JSS_nil (JSS_nil (fin I7 rfl rfl h1 (h2.trans (hp2.append_right _))))⟩
      refine JSS_cons (JS_If (JB_Compare (JE_N 2 (JE_int (J_eq ⟨_, rfl, fun _ => ?_, fun _ => ?_⟩)))))
      · -- by heapreplace
        refine JSS_cons (JS_Expr (JE_methFn (ni120 _) (tf120 _) a120 b120 (JE_N 3 ⟨s, X.d, _, rfl, I2.so.inst, I2.so.attrs, sl_none _ _ _ _ _ (by decide) (by decide) (by decide) (by decide), JL_cons (JE_item (JE_N 9 (JE_int ⟨hp, 0, _, .int x, rfl, rfl, gets_of I2.hh, rfl, JL_nil (TC.mono (done_here I2 R h8) ?_)⟩)))⟩)))
        rintro _ G5 ⟨rfl, I5⟩
        rw [← hD] at I5
        refine ⟨nofun, JSS_cons (JS_set 12 (JE_methFn (ni99 _) (tf99 _) a99 b99 (JE_N 3 ⟨s, X.d, _, rfl, I5.so.inst, I5.so.attrs, sl_none _ _ _ _ _ (by decide) (by decide) (by decide) (by decide), JL_nil (TC.mono (ready_here I5 hl (by lia)) ?_)⟩)))⟩
        rintro _ G6 ⟨t, K6, rfl, I6, ht⟩
        refine JSS_cons (JS_If (JB_value (JE_N 12 (J_truthTup (gets_of (I6.off _ _ ht).1) (by simp; lia) ⟨fun hb => ?_, fun hb => ?_⟩))))
        · obtain ⟨y, ys, hy⟩ : ∃ y ys, D.2 = y :: ys := by
            cases e : D.2 with
            | nil => rw [e] at hb; simp at hb
            | cons y ys => exact ⟨y, ys, rfl⟩
          obtain ⟨hr1, hr2⟩ := hrepl_hp (y := y) R.hp
          have hrl2 : (hrepl (x :: tl) y).length = tl.length + 1 := by have := hr2.length_eq; simpa using this
          have hyl : ys.length + 1 ≤ 8 := by rw [hy] at hf8; simpa using hf8
          rw [hy] at ht
          refine JSS_cons (JS_Expr (JE_meth PySem.F.plainAttrs_list PySem.F.slot_list_append PySem.F.type_list_append (JE_N 10 ⟨od, _, rfl, gets_of I6.ho, rfl, JL_cons (JE_Call (k162 _) rfl rfl (JL_cons (JE_N 9 (JL_cons (JE_item (JE_N 12 (JE_int ⟨t, 0, _, .int y, rfl, rfl, gets_of (I6.off _ _ ht).1, rfl, JL_nil (TC.mono (heapreplace_ok I6.hh (by lia)) ?_)⟩)))))))⟩)))
          rintro _ _ ⟨rfl, rfl⟩
          have I7 := I6.setH (hrepl (x :: tl) y)
          refine JL_nil (J_append I7.ho hol ⟨nofun, ?_⟩)
          rw [snoc]
          have I8 := I7.setO (ord ++ [x])
          show JSS _ _ _ _ ⟨fv nm st way s v4 v5 v6 v7 free hp od rw (.ref t), upd (upd G6 hp (.list ((hrepl (x :: tl) y).map .int))) od (.list ((ord ++ [x]).map .int))⟩ _
          generalize upd (upd G6 hp (.list ((hrepl (x :: tl) y).map .int))) od (.list ((ord ++ [x]).map .int)) = G8 at I8 ⊢
          refine JSS_cons (push_all (H := H) (s := s) (nm := nm) (st := st) (hp := hp) (od := od) (rw := rw) (way := way) (free := free) (v4 := v4) (v5 := v5) (v7 := v7) (v12 := .ref t) (ord := ord ++ [x]) (rs := rs ++ [r]) (qs := qs ++ [q]) (rows := rows ++ [row]) (JE_tupFrom (JE_N 12 (JE_int ⟨t, _, 1, rfl, rfl, gets_of (I8.off _ _ ht).1, by simp; lia, by lia, by simp, fun r1 hrr => ?_⟩))))
          have I9 := I8.fresh (o := .tup (((y :: ys).map AV.int).drop 1)) (gets_H hrr)
          refine ⟨r1, ys, hrepl (x :: tl) y, _, _, X, _, _, _, v6, rfl, rfl, I9, upd_self .., hr1, by lia, fun v6' G7 hs' I7 h1 h2 => JSS_nil (JSS_nil (JSS_nil (JSS_nil (fin I7 rfl rfl h1 (h2.trans ?_)))))⟩
          rw [hy]
          refine (hr2.append_right ys).trans ?_
          simpa using (List.perm_middle (a := y) (l₁ := tl) (l₂ := ys)).symm
        · have hy : D.2 = [] := by
            cases e : D.2 with
            | nil => rfl
            | cons y ys => rw [e] at hb; simp at hb
          refine JSS_cons (JS_Expr (JE_meth PySem.F.plainAttrs_list PySem.F.slot_list_append PySem.F.type_list_append (JE_N 10 ⟨od, _, rfl, gets_of I6.ho, rfl, JL_cons (JE_Call (k155 _) rfl rfl (JL_cons (JE_N 9 (JL_nil (TC.mono (heappop_ok I6.hh (by lia)) ?_)))))⟩)))
          rintro _ _ ⟨rfl, rfl⟩
          have I7 := I6.setH (hpop (x :: tl))
          refine JL_nil (J_append I7.ho hol ⟨nofun, ?_⟩)
          rw [snoc]
          have I8 := I7.setO (ord ++ [x])
          exact JSS_nil (JSS_nil (JSS_nil (JSS_nil (fin I8 rfl rfl hp1 (by rw [hy]; simpa using hp2)))))
      refine JSS_cons (JS_If (JB_Compare (JE_N 2 (JE_int (J_eq ⟨_, rfl, fun _ => ?_, fun _ => ?_⟩)))))
      · -- by heappushpop
        refine JSS_cons (JS_Expr (JE_meth PySem.F.plainAttrs_list PySem.F.slot_list_append PySem.F.type_list_append (JE_N 10 ⟨od, _, rfl, gets_of I2.ho, rfl, JL_cons (JE_Call (k155 _) rfl rfl (JL_cons (JE_N 9 (JL_nil (TC.mono (heappop_ok I2.hh (by lia)) ?_)))))⟩)))
        rintro _ _ ⟨rfl, rfl⟩
        have I3 := I2.setH (hpop (x :: tl))
        refine JL_nil (J_append I3.ho hol ⟨nofun, ?_⟩)
        rw [snoc]
        have I4 := I3.setO (ord ++ [x])
        show JSS _ _ _ _ ⟨fv nm st way s v4 v5 v6 v7 free hp od rw v12, upd (upd G2 hp (.list ((hpop (x :: tl)).map .int))) od (.list ((ord ++ [x]).map .int))⟩ _
        generalize upd (upd G2 hp (.list ((hpop (x :: tl)).map .int))) od (.list ((ord ++ [x]).map .int)) = G4 at I4 ⊢
        refine JSS_cons (JS_Expr (JE_methFn (ni120 _) (tf120 _) a120 b120 (JE_N 3 ⟨s, X.d, _, rfl, I4.so.inst, I4.so.attrs, sl_none _ _ _ _ _ (by decide) (by decide) (by decide) (by decide), JL_cons (JE_item (JE_N 10 (JE_USub (JE_int ⟨1, rfl, od, -1, _, .int x, rfl, rfl, gets_of I4.ho, last, JL_nil (TC.mono (done_here I4 R h8) ?_)⟩))))⟩)))
        rintro _ G5 ⟨rfl, I5⟩
        rw [← hD] at I5
        refine ⟨nofun, JSS_cons (pushpop_all (H := H) (s := s) (nm := nm) (st := st) (hp := hp) (od := od) (rw := rw) (way := way) (free := free) (v4 := v4) (v5 := v5) (v7 := v7) (v12 := v12) (ord := ord ++ [x]) (rs := rs ++ [r]) (qs := qs ++ [q]) (rows := rows ++ [row]) (JE_methFn (ni99 _) (tf99 _) a99 b99 (JE_N 3 ⟨s, X.d, _, rfl, I5.so.inst, I5.so.attrs, sl_none _ _ _ _ _ (by decide) (by decide) (by decide) (by decide), JL_nil (TC.mono (ready_here I5 hl (by lia)) ?_)⟩)))⟩
        rintro _ G6 ⟨t, K6, rfl, I6, ht⟩
        exact ⟨t, D.2, hpop (x :: tl), K6, G6, X, _, _, _, v6, rfl, rfl, I6, ht, hp1, by lia, fun v6' G7 hs' I7 h1 h2 => JSS_nil (JSS_nil (JSS_nil (JSS_nil (fin I7 rfl rfl h1 (h2.trans (hp2.append_right _))))))⟩
      -- by heapify
      refine JSS_cons (JS_Expr (JE_meth PySem.F.plainAttrs_list PySem.F.slot_list_append PySem.F.type_list_append (JE_N 10 ⟨od, _, rfl, gets_of I2.ho, rfl, JL_cons (JE_item (JE_N 9 (JE_int ⟨hp, 0, _, .int x, rfl, rfl, gets_of I2.hh, rfl, JL_nil (J_append I2.ho hol ⟨nofun, ?_⟩)⟩)))⟩)))
      rw [snoc]
      have I4 := I2.setO (ord ++ [x])
      show JSS _ _ _ _ ⟨fv nm st way s v4 v5 v6 v7 free hp od rw v12, upd G2 od (.list ((ord ++ [x]).map .int))⟩ _
      generalize upd G2 od (.list ((ord ++ [x]).map .int)) = G4 at I4 ⊢
      refine JSS_cons (JS_Expr (JE_methFn (ni120 _) (tf120 _) a120 b120 (JE_N 3 ⟨s, X.d, _, rfl, I4.so.inst, I4.so.attrs, sl_none _ _ _ _ _ (by decide) (by decide) (by decide) (by decide), JL_cons (JE_item (JE_N 9 (JE_int ⟨hp, 0, _, .int x, rfl, rfl, gets_of I4.hh, rfl, JL_nil (TC.mono (done_here I4 R h8) ?_)⟩)))⟩)))
      rintro _ G5 ⟨rfl, I5⟩
      rw [← hD] at I5
      refine ⟨nofun, JSS_cons (JS_set 9 (JE_BinOp (JE_from (JE_N 9 (JE_int ⟨hp, _, 1, rfl, rfl, gets_of I5.hh, by simp; lia, fun r1 hr1 => ?_⟩)))))⟩
      have I6 := I5.fresh (o := .list (((x :: tl).map AV.int).drop 1)) (gets_H hr1)
      refine JE_listTup (JE_methFn (ni99 _) (tf99 _) a99 b99 (JE_N 3 ⟨s, X.d, _, rfl, I6.so.inst, I6.so.attrs, sl_none _ _ _ _ _ (by decide) (by decide) (by decide) (by decide), JL_nil (TC.mono (ready_here' I6 hl (by lia)) ?_)⟩))
      rintro _ G7 ⟨t, K7, rfl, I7, ht, hle7⟩
      refine ⟨t, _, rfl, gets_of (I7.off _ _ ht).1, by simp; lia, fun r2 hr2 => ?_⟩
      have I8 := I7.fresh (o := .list (D.2.map AV.int)) (gets_H hr2)
      have z1 : upd K7 r2 (.list (D.2.map AV.int)) r1 = some (.list (tl.map .int)) := upd_off (ne_none (hle7 _ _ (upd_self ..)) (I7.nk (gets_H hr2))) (hle7 _ _ (upd_self ..))
      refine J_concat (gets_of (I8.off _ _ z1).1) (gets_of (I8.off _ _ (upd_self ..)).1) (by simp; lia) fun r3 hr3 => ?_
      rw [← List.map_append]
      have I9 := I8.newH (gets_H hr3) (tl ++ D.2)
      show JSS _ _ _ _ ⟨fv nm st way s v4 v5 v6 v7 free r3 od rw v12, upd (upd G7 r2 (.list (D.2.map AV.int))) r3 (.list ((tl ++ D.2).map .int))⟩ _
      generalize upd (upd G7 r2 (.list (D.2.map AV.int))) r3 (.list ((tl ++ D.2).map .int)) = G9 at I9 ⊢
      refine JSS_cons (JS_Expr (JE_Call (k176 _) rfl rfl (JL_cons (JE_N 9 (JL_nil (TC.mono (heapify_ok I9.hh (by simp; lia)) ?_))))))
      rintro _ _ ⟨rfl, rfl⟩
      exact ⟨nofun, JSS_nil (JSS_nil (JSS_nil (JSS_nil (fin (I9.setH _) rfl rfl (hpfy_hp _).1 (hpfy_hp _).2))))⟩
    · obtain rfl : hs = [] := by
        cases hs with
        | nil => rfl
        | cons x tl => simp at hb
      exact JSS_nil ⟨rfl, K, nds, hp, ord, rs, qs, rows, v6, v12, rfl, I.num (by simp) rfl, R⟩
  rintro ⟨mm, G⟩ ⟨K, nds, hp, ord, rs, qs, rows, v6, v12, hm, I, R⟩
  obtain rfl : mm = _ := hm
  dsimp only at I
  refine JSS_cons (JS_Return (JE_List (JL_cons (JE_N 8 (JL_cons (JE_N 10 (JL_cons (JE_N 11 (JL_cons (JE_methFn (ni106 _) (tf106 _) a106 b106 (JE_N 3 ⟨s, X.d, _, rfl, I.so.inst, I.so.attrs, sl_none _ _ _ _ _ (by decide) (by decide) (by decide) (by decide), JL_nil (TC.mono (active_ok I.so (by simp)) ?_)⟩)))))))))))
  rintro _ G' ⟨rfl, hG'⟩
  rw [hG']
  clear hG' G'
  rw [show (decide (((ord.length : Nat) : Int) < ((ord.length : Nat) : Int)) || !([] : List Int).isEmpty) = false by simp]
  refine JL_cons (JE_methFn (ni99 _) (tf99 _) a99 b99 (JE_N 3 ⟨s, X.d, _, rfl, I.so.inst, I.so.attrs, sl_none _ _ _ _ _ (by decide) (by decide) (by decide) (by decide), JL_nil (TC.mono (ready_here I (by simp) (by simp)) ?_)⟩))
  rintro _ G' ⟨t, K', rfl, I', ht⟩
  refine JL_nil ⟨by simp, fun a ha => ?_⟩
  have hle := HLe.upd (o := .list [.bool free, .ref od, .ref rw, .bool false, .ref t]) (gets_H ha)
  exact ⟨a, free, ord, rows, rfl, ⟨od, rw, t, upd_self .., hle _ _ I'.ho, I'.rowsH.le hle, hle _ _ (I'.off _ _ ht).1⟩, I'.leG.trans hle, ⟨nds, R⟩, hy, hno⟩
end Mine
end

-- part E3
section
open PySem PySem.W PySem.Calls PyProof.Rows
set_option Elab.async false
set_option genSizeOf false
set_option genInjectivity false
set_option linter.unusedVariables false
set_option linter.unusedSimpArgs false
set_option autoImplicit false
set_option maxRecDepth 100000
namespace Mine

/-! ### words: orders in which names can be done -/
inductive Word (N : List Int) (ps : List (Int × Int)) : List Int → Prop
  | nil : Word N ps []
  | snoc {w : List Int} {x : Int} : Word N ps w → x ∈ N → x ∉ w → (∀ a, (a, x) ∈ ps → a ∈ w) → Word N ps (w ++ [x])
variable {N : List Int} {ps : List (Int × Int)}
theorem Word.nodup {w : List Int} (h : Word N ps w) : w.Nodup := by
  induction h with
  | nil => exact List.nodup_nil
  | snoc h1 h2 h3 h4 ih => rw [List.nodup_append]; exact ⟨ih, by simp, fun a ha b hb => by simp at hb; subst hb; exact fun e => h3 (e ▸ ha)⟩
theorem Word.sub {w : List Int} (h : Word N ps w) : ∀ x ∈ w, x ∈ N := by
  induction h with
  | nil => simp
  | snoc h1 h2 h3 h4 ih => intro y hy; rcases List.mem_append.mp hy with q | q; exact ih y q; simp at q; subst q; exact h2

theorem free_char (hm : ∀ p ∈ ps, p.1 ∈ N ∧ p.2 ∈ N) {w : List Int} {x : Int} : x ∈ freeL ps (lft N w) ↔ x ∈ N ∧ x ∉ w ∧ ∀ a, (a, x) ∈ ps → a ∈ w := by
  rw [free_mem, lft_mem]
  unfold pend
  rw [List.length_eq_zero_iff, blockL, List.filter_eq_nil_iff]
  constructor
  · rintro ⟨⟨h1, h2⟩, h3⟩
    refine ⟨h1, h2, fun a ha => ?_⟩
    have := h3 (a, x) ha
    simp [lft_mem, (hm _ ha).1] at this; exact this
  · rintro ⟨h1, h2, h3⟩
    refine ⟨⟨h1, h2⟩, fun p hp => ?_⟩
    simp only [Bool.and_eq_true, decide_eq_true_eq, lft_mem, not_and]
    intro e hn
    exact fun z => z (h3 p.1 (by rw [← e]; exact hp))

/-! ### sets as numbers -/
noncomputable def maskOf (N w : List Int) : Nat := w.foldl (fun m x => m ||| 2 ^ N.idxOf x) 0
theorem mask_snoc (w : List Int) (x : Int) : maskOf N (w ++ [x]) = maskOf N w ||| 2 ^ N.idxOf x := by simp [maskOf, List.foldl_append]
theorem mask_bit {w : List Int} {j : Nat} : (maskOf N w).testBit j = true ↔ ∃ x ∈ w, N.idxOf x = j := by
  have : ∀ (w : List Int) (m : Nat), (w.foldl (fun m x => m ||| 2 ^ N.idxOf x) m).testBit j = true ↔ m.testBit j = true ∨ ∃ x ∈ w, N.idxOf x = j := by
    intro w
    induction w with
    | nil => simp
    | cons x w ih =>
      intro m
      rw [List.foldl_cons, ih, Nat.testBit_or, Nat.testBit_two_pow]
      simp [or_assoc]
  unfold maskOf
  rw [this]; simp
theorem idx_inj {x y : Int} (hx : x ∈ N) (e : N.idxOf y = N.idxOf x) : y = x := by
  have h1 := List.idxOf_lt_length_iff.mpr hx
  have h2 : N.idxOf y < N.length := by lia
  have := List.getElem_idxOf h1
  have h3 := List.getElem_idxOf h2
  rw [← h3, ← this]
  congr 1
theorem mask_mem {w : List Int} {x : Int} (hx : x ∈ N) : (maskOf N w).testBit (N.idxOf x) = true ↔ x ∈ w := by
  rw [mask_bit]
  constructor
  · rintro ⟨y, hy, e⟩; rw [← idx_inj hx e]; exact hy
  · intro h; exact ⟨x, h, rfl⟩
theorem mask_len {w w' : List Int} (h : Word N ps w) (h' : Word N ps w') (e : maskOf N w = maskOf N w') : w.length = w'.length := by
  have s1 : ∀ x ∈ w, x ∈ w' := fun x hx => (mask_mem (h.sub x hx)).mp (e ▸ (mask_mem (h.sub x hx)).mpr hx)
  have s2 : ∀ x ∈ w', x ∈ w := fun x hx => (mask_mem (h'.sub x hx)).mp (e ▸ (mask_mem (h'.sub x hx)).mpr hx)
  have := nodup_few h.nodup s1
  have := nodup_few h'.nodup s2
  lia
theorem mask_same {w w' : List Int} (h : ∀ x, x ∈ w ↔ x ∈ w') : maskOf N w = maskOf N w' := by
  refine Nat.eq_of_testBit_eq fun j => ?_
  rw [Bool.eq_iff_iff, mask_bit, mask_bit]
  constructor <;> rintro ⟨x, hx, e⟩
  · exact ⟨x, (h x).mp hx, e⟩
  · exact ⟨x, (h x).mpr hx, e⟩

theorem need_bit {k j : Nat} : ∀ (ps : List (Int × Int)) (nd : List Nat), k < nd.length → (((ps.foldl (needS N) nd).getD k 0).testBit j = true ↔ (nd.getD k 0).testBit j = true ∨ ∃ p ∈ ps, N.idxOf p.2 = k ∧ N.idxOf p.1 = j)
  | [], nd, _ => by simp
  | p :: ps, nd, hk => by
    rw [List.foldl_cons, need_bit ps _ (by rw [needS_len]; exact hk)]
    have : (((needS N nd p).getD k 0).testBit j = true) ↔ ((nd.getD k 0).testBit j = true ∨ (N.idxOf p.2 = k ∧ N.idxOf p.1 = j)) := by
      unfold needS
      by_cases q : N.idxOf p.2 = k
      · rw [q, List.getD_eq_getElem?_getD, List.getElem?_set_self hk]
        simp [Nat.testBit_or, Nat.testBit_two_pow]
      · rw [List.getD_eq_getElem?_getD, List.getElem?_set_ne q, ← List.getD_eq_getElem?_getD]
        simp [q]
    rw [this]
    simp [or_assoc]
theorem needL_bit {k j : Nat} (hk : k < N.length) : ((needL N ps).getD k 0).testBit j = true ↔ ∃ p ∈ ps, N.idxOf p.2 = k ∧ N.idxOf p.1 = j := by
  unfold needL
  rw [need_bit ps _ (by simpa using hk)]
  have : (List.replicate N.length 0).getD k 0 = 0 := by
    rw [List.getD_eq_getElem?_getD, List.getElem?_replicate]; split <;> rfl
  rw [this]; simp
theorem and_sub {a b : Nat} : a &&& b = a ↔ ∀ j, a.testBit j = true → b.testBit j = true := by
  constructor
  · intro h j hj
    rw [← h, Nat.testBit_and, Bool.and_eq_true] at hj; exact hj.2
  · intro h
    refine Nat.eq_of_testBit_eq fun j => ?_
    rw [Nat.testBit_and]
    cases e : a.testBit j with
    | false => rfl
    | true => rw [h j e]; rfl

/-- what the test of a step says -/
theorem step_test (hN : N.Nodup) (hm : ∀ p ∈ ps, p.1 ∈ N ∧ p.2 ∈ N) {w : List Int} (hw : Word N ps w) {k : Nat} (hk : k < N.length) :
    ((maskOf N w ||| 2 ^ k) ≠ maskOf N w ∧ (needL N ps).getD k 0 &&& maskOf N w = (needL N ps).getD k 0) ↔ N.getD k 0 ∉ w ∧ ∀ a, (a, N.getD k 0) ∈ ps → a ∈ w := by
  have hx : N.getD k 0 ∈ N := by rw [List.getD_eq_getElem?_getD, List.getElem?_eq_getElem hk]; exact List.getElem_mem hk
  have hi : N.idxOf (N.getD k 0) = k := by
    rw [List.getD_eq_getElem?_getD, List.getElem?_eq_getElem hk]; exact hN.idxOf_getElem k hk
  generalize N.getD k 0 = x at hx hi ⊢
  subst hi
  refine and_congr ?_ ?_
  · refine not_congr ?_
    rw [← mask_mem hx]
    constructor
    · intro h
      rw [← h, Nat.testBit_or, Nat.testBit_two_pow]; simp
    · intro h
      refine Nat.eq_of_testBit_eq fun j => ?_
      rw [Nat.testBit_or, Nat.testBit_two_pow]
      by_cases q : N.idxOf x = j
      · subst q; rw [h]; rfl
      · simp [q]
  · rw [and_sub]
    constructor
    · intro h a ha
      exact (mask_mem (hm _ ha).1).mp (h _ ((needL_bit hk).mpr ⟨_, ha, rfl, rfl⟩))
    · intro h j hj
      obtain ⟨⟨a, b⟩, hp, e1, e2⟩ := (needL_bit hk).mp hj
      have : b = x := idx_inj hx e1
      subst this
      rw [← e2]
      exact (mask_mem (hm _ hp).1).mpr (h a hp)

/-! ### lex -/
theorem lex_irr : ∀ a : List Int, lexB a a = false
  | [] => rfl
  | x :: a => by unfold lexB; rw [if_pos rfl]; exact lex_irr a
theorem lex_asym : ∀ a b : List Int, lexB a b = true → lexB b a = false
  | [], [], _ => rfl
  | [], _ :: _, _ => rfl
  | _ :: _, [], h => by simp [lexB] at h
  | x :: a, y :: b, h => by
    unfold lexB at h ⊢
    by_cases q : x = y
    · subst q; rw [if_pos rfl] at h ⊢; exact lex_asym a b h
    · rw [if_neg q] at h; rw [if_neg (Ne.symm q)]
      simp at h ⊢; lia
theorem lex_ext : ∀ (a b : List Int) (u v : Int), a.length = b.length → lexB a b = true → lexB (a ++ [u]) (b ++ [v]) = true
  | [], [], u, v, _, h => by simp [lexB] at h
  | [], _ :: _, _, _, e, _ => by simp at e
  | _ :: _, [], _, _, e, _ => by simp at e
  | x :: a, y :: b, u, v, e, h => by
    rw [List.cons_append, List.cons_append]
    unfold lexB at h ⊢
    by_cases q : x = y
    · subst q; rw [if_pos rfl] at h ⊢; exact lex_ext a b u v (by simpa using e) h
    · rw [if_neg q] at h ⊢; exact h
theorem lex_tail : ∀ (a : List Int) (u v : Int), u < v → lexB (a ++ [u]) (a ++ [v]) = true
  | [], u, v, h => by
    show lexB [u] [v] = true
    unfold lexB; rw [if_neg (by lia)]; simpa using h
  | x :: a, u, v, h => by
    rw [List.cons_append, List.cons_append]
    unfold lexB; rw [if_pos rfl]; exact lex_tail a u v h

/-! ### what was led is the least -/
structure Gr (N : List Int) (ps : List (Int × Int)) (ord : List Int) : Prop where
  nodup : N.Nodup
  mem : ∀ p ∈ ps, p.1 ∈ N ∧ p.2 ∈ N
  least : ∀ (i : Nat) x, ord[i]? = some x → x ∈ freeL ps (lft N (ord.take i)) ∧ ∀ y ∈ freeL ps (lft N (ord.take i)), x ≤ y
  stop : freeL ps (lft N ord) = []
variable {ord : List Int}
theorem LP.gr {nds : List Nd} {rows : List (List Int)} (h : LP N ps nds [] ord rows) : Gr N ps ord := ⟨h.run.nodup, h.run.mem, h.least, h.perm.nil_eq.symm⟩
theorem Gr.word (g : Gr N ps ord) : ∀ t, t ≤ ord.length → Word N ps (ord.take t)
  | 0, _ => by rw [List.take_zero]; exact .nil
  | t + 1, h => by
    have e : ord[t]? = some ord[t] := List.getElem?_eq_getElem (by lia)
    obtain ⟨h1, h2, h3⟩ := (free_char g.mem).mp (g.least t _ e).1
    rw [take_succ_of e]
    exact .snoc (g.word t (by lia)) h1 h2 h3
theorem Gr.all (g : Gr N ps ord) {w : List Int} (h : Word N ps w) : ∀ x ∈ w, x ∈ ord := by
  induction h with
  | nil => simp
  | @snoc w x h1 h2 h3 h4 ih =>
    intro y hy
    rcases List.mem_append.mp hy with q | q
    · exact ih y q
    · simp at q; subst q
      by_cases z : y ∈ ord
      · exact z
      · exfalso
        have : y ∈ freeL ps (lft N ord) := (free_char g.mem).mpr ⟨h2, z, fun a ha => ih a (h4 a ha)⟩
        rw [g.stop] at this; cases this
theorem Gr.len (g : Gr N ps ord) {w : List Int} (h : Word N ps w) : w.length ≤ ord.length := nodup_few h.nodup (g.all h)
theorem Gr.lex (g : Gr N ps ord) {w : List Int} (h : Word N ps w) : w = ord.take w.length ∨ lexB (ord.take w.length) w = true := by
  induction h with
  | nil => exact .inl (by simp)
  | @snoc w x h1 h2 h3 h4 ih =>
    have hl := g.len (Word.snoc h1 h2 h3 h4)
    rw [List.length_append, List.length_singleton] at hl ⊢
    have e : ord[w.length]? = some ord[w.length] := List.getElem?_eq_getElem (by lia)
    rw [take_succ_of e]
    rcases ih with q | q
    · have hx : x ∈ freeL ps (lft N (ord.take w.length)) := (free_char g.mem).mpr ⟨h2, q ▸ h3, fun a ha => q ▸ h4 a ha⟩
      have := (g.least _ _ e).2 x hx
      generalize ord[w.length] = y at this ⊢
      rw [← q]
      by_cases z : y = x
      · subst z; exact .inl rfl
      · exact .inr (lex_tail _ _ _ (by lia))
    · exact .inr (lex_ext _ _ _ _ (by rw [List.length_take]; lia) q)
end Mine
end

-- part E4
section
open PySem PySem.W PySem.Calls PyProof.Rows
set_option Elab.async false
set_option genSizeOf false
set_option genInjectivity false
set_option linter.unusedVariables false
set_option linter.unusedSimpArgs false
set_option autoImplicit false
set_option maxRecDepth 100000
namespace Mine

/-! ### the least word for each set, set by set -/
theorem put_keys (ws : WS) (m : Nat) (w : List Int) : (putW ws m w).map (·.1) = ws.map (·.1) := by
  unfold putW; rw [List.map_map]; congr 1; funext p; simp only [Function.comp]; split <;> rfl
theorem look_add {ws : WS} {m : Nat} {w : List Int} (h : m ∉ ws.map (·.1)) (m' : Nat) : lookW (ws ++ [(m, w)]) m' = if m' = m then w else lookW ws m' := by
  unfold lookW
  rw [List.find?_append]
  by_cases q : m' = m
  · subst q
    rw [List.find?_eq_none.mpr fun p hp => by simp; intro e; exact h (e ▸ List.mem_map_of_mem hp)]
    simp
  · simp [q, Ne.symm q]
theorem look_put {ws : WS} {m : Nat} {w : List Int} (h : m ∈ ws.map (·.1)) (m' : Nat) : lookW (putW ws m w) m' = if m' = m then w else lookW ws m' := by
  unfold lookW putW
  rw [List.find?_map]
  have e : ((fun p : Nat × List Int => decide (p.1 = m')) ∘ fun p : Nat × List Int => if p.1 = m then (p.1, w) else p) = fun p => decide (p.1 = m') := by
    funext p; simp only [Function.comp]; split <;> rfl
  rw [e]
  cases f : ws.find? fun p => decide (p.1 = m') with
  | none =>
    by_cases q : m' = m
    · subst q
      obtain ⟨p, hp, hq⟩ := List.mem_map.mp h
      have := List.find?_eq_none.mp f p hp
      simp at this; exact absurd hq this
    · simp [q]
  | some p =>
    have := List.find?_some f
    simp at this
    by_cases q : m' = m
    · simp [q, this]
    · simp [q, this]

variable {N : List Int} {ps : List (Int × Int)} {ord : List Int}
structure DP (N : List Int) (ps : List (Int × Int)) (t : Nat) (cur : List Nat) (st : WS × List Nat) : Prop where
  sound : ∀ m ∈ st.1.map (·.1), Word N ps (lookW st.1 m) ∧ maskOf N (lookW st.1 m) = m ∧ (lookW st.1 m).length ≤ t + 1
  cur : ∀ m ∈ cur, m ∈ st.1.map (·.1) ∧ (lookW st.1 m).length = t
  new : ∀ m ∈ st.2, m ∈ st.1.map (·.1) ∧ (lookW st.1 m).length = t + 1
  all : ∀ m ∈ st.1.map (·.1), (lookW st.1 m).length = t + 1 → m ∈ st.2
noncomputable def Good (N ord : List Int) (ws : WS) (j : Nat) : Prop := maskOf N (ord.take j) ∈ ws.map (·.1) ∧ lookW ws (maskOf N (ord.take j)) = ord.take j

theorem idx_getD (hN : N.Nodup) {k : Nat} (hk : k < N.length) : N.idxOf (N.getD k 0) = k ∧ N.getD k 0 ∈ N := by
  rw [List.getD_eq_getElem?_getD, List.getElem?_eq_getElem hk]; exact ⟨hN.idxOf_getElem k hk, List.getElem_mem hk⟩

theorem DP.step (g : Gr N ps ord) {t : Nat} {cur : List Nat} {st : WS × List Nat} (I : DP N ps t cur st) {had : Nat} (hh : had ∈ cur) {k : Nat} (hk : k < N.length) :
    DP N ps t cur (lstep N (needL N ps) had st k) ∧ (∀ j, j ≤ ord.length → Good N ord st.1 j → Good N ord (lstep N (needL N ps) had st k).1 j) ∧
      (had = maskOf N (ord.take t) → Good N ord st.1 t → ord[t]? = some (N.getD k 0) → Good N ord (lstep N (needL N ps) had st k).1 (t + 1)) := by
  obtain ⟨c1, c2⟩ := I.cur had hh
  obtain ⟨s1, s2, s3⟩ := I.sound had c1
  obtain ⟨i1, i2⟩ := idx_getD g.nodup hk
  have now : had ||| 2 ^ k = maskOf N (lookW st.1 had ++ [N.getD k 0]) := by rw [mask_snoc, i1, s2]
  have test := step_test g.nodup g.mem s1 hk
  rw [s2] at test
  have next : had = maskOf N (ord.take t) → Good N ord st.1 t → ord[t]? = some (N.getD k 0) → lookW st.1 had ++ [N.getD k 0] = ord.take (t + 1) ∧ N.getD k 0 ∉ lookW st.1 had ∧ ∀ a, (a, N.getD k 0) ∈ ps → a ∈ lookW st.1 had := by
    rintro e ⟨_, gd⟩ he
    obtain ⟨h1, h2, h3⟩ := (free_char g.mem).mp (g.least t _ he).1
    rw [e, gd]; exact ⟨(take_succ_of he).symm, h2, h3⟩
  unfold lstep
  by_cases q : (had ||| 2 ^ k) ≠ had ∧ (needL N ps).getD k 0 &&& had = (needL N ps).getD k 0
  · rw [if_pos q]
    obtain ⟨t1, t2⟩ := test.mp q
    have hw : Word N ps (lookW st.1 had ++ [N.getD k 0]) := .snoc s1 i2 t1 t2
    have hwl : (lookW st.1 had ++ [N.getD k 0]).length = t + 1 := by simp [c2]
    generalize hW : lookW st.1 had ++ [N.getD k 0] = W at *
    rw [now]
    by_cases r : maskOf N W ∈ st.1.map (·.1)
    · rw [if_pos r]
      obtain ⟨o1, o2, o3⟩ := I.sound _ r
      have ol : (lookW st.1 (maskOf N W)).length = t + 1 := by rw [mask_len o1 hw o2]; exact hwl
      by_cases z : lexB W (lookW st.1 (maskOf N W)) = true
      · rw [if_pos z]
        have lk := look_put (w := W) r
        refine ⟨⟨fun m hm => ?_, fun m hm => ?_, fun m hm => ?_, fun m hm hl => ?_⟩, fun j hj gd => ?_, fun e gd he => ?_⟩
        · rw [put_keys] at hm
          show Word N ps (lookW (putW _ _ _) m) ∧ maskOf N (lookW (putW _ _ _) m) = m ∧ (lookW (putW _ _ _) m).length ≤ t + 1
          rw [lk]
          by_cases y : m = maskOf N W
          · rw [if_pos y]; exact ⟨hw, y.symm, by lia⟩
          · rw [if_neg y]; exact I.sound m hm
        · obtain ⟨d1, d2⟩ := I.cur m hm
          refine ⟨by rw [put_keys]; exact d1, ?_⟩
          show (lookW (putW _ _ _) m).length = t
          rw [lk, if_neg (fun y => by subst y; lia)]; exact d2
        · obtain ⟨d1, d2⟩ := I.new m hm
          refine ⟨by rw [put_keys]; exact d1, ?_⟩
          show (lookW (putW _ _ _) m).length = t + 1
          rw [lk]
          split
          · exact hwl
          · exact d2
        · rw [put_keys] at hm
          change (lookW (putW _ _ _) m).length = t + 1 at hl
          rw [lk] at hl
          by_cases y : m = maskOf N W
          · subst y; exact I.all _ r ol
          · rw [if_neg y] at hl; exact I.all m hm hl
        · obtain ⟨g1, g2⟩ := gd
          refine ⟨by rw [put_keys]; exact g1, ?_⟩
          show lookW (putW _ _ _) _ = _
          rw [lk]
          by_cases y : maskOf N (ord.take j) = maskOf N W
          · exfalso
            rw [← y, g2] at z
            have hj2 := mask_len (g.word j hj) hw y
            have ej : ord.take W.length = ord.take j := by
              rw [← hj2, List.length_take, Nat.min_eq_left hj]
            rcases g.lex hw with l | l
            · rw [ej] at l; rw [← l, lex_irr] at z; cases z
            · rw [ej] at l; rw [lex_asym _ _ l] at z; cases z
          · rw [if_neg y]; exact g2
        · obtain ⟨n1, _, _⟩ := next e gd he
          unfold Good; rw [← n1]
          refine ⟨by rw [put_keys]; exact r, ?_⟩
          show lookW (putW _ _ _) _ = _
          rw [lk, if_pos rfl]
      · rw [if_neg z]
        refine ⟨I, fun j _ gd => gd, fun e gd he => ?_⟩
        obtain ⟨n1, _, _⟩ := next e gd he
        unfold Good; rw [← n1]
        refine ⟨r, ?_⟩
        rcases g.lex o1 with l | l
        · rw [ol, ← n1] at l; exact l
        · rw [ol, ← n1] at l; exact absurd l z
    · rw [if_neg r]
      have lk := look_add (w := W) r
      refine ⟨⟨fun m hm => ?_, fun m hm => ?_, fun m hm => ?_, fun m hm hl => ?_⟩, fun j hj gd => ?_, fun e gd he => ?_⟩
      · show Word N ps (lookW (_ ++ [_]) m) ∧ maskOf N (lookW (_ ++ [_]) m) = m ∧ (lookW (_ ++ [_]) m).length ≤ t + 1
        rw [lk]
        by_cases y : m = maskOf N W
        · rw [if_pos y]; exact ⟨hw, y.symm, by lia⟩
        · rw [if_neg y]; exact I.sound m (by simpa [y] using hm)
      · obtain ⟨d1, d2⟩ := I.cur m hm
        refine ⟨by simp only [List.map_append, List.mem_append]; exact .inl d1, ?_⟩
        show (lookW (_ ++ [_]) m).length = t
        rw [lk, if_neg (fun y => by subst y; exact r d1)]; exact d2
      · show m ∈ (st.1 ++ [(maskOf N W, W)]).map (·.1) ∧ (lookW (_ ++ [_]) m).length = t + 1
        rw [lk]
        rcases List.mem_append.mp hm with y | y
        · obtain ⟨d1, d2⟩ := I.new m y
          refine ⟨by simp only [List.map_append, List.mem_append]; exact .inl d1, ?_⟩
          rw [if_neg (fun y => by subst y; exact r d1)]; exact d2
        · simp at y; subst y
          exact ⟨by simp, by rw [if_pos rfl]; exact hwl⟩
      · change (lookW (_ ++ [_]) m).length = t + 1 at hl
        rw [lk] at hl
        by_cases y : m = maskOf N W
        · subst y; simp
        · rw [if_neg y] at hl
          exact List.mem_append_left _ (I.all m (by simpa [y] using hm) hl)
      · obtain ⟨g1, g2⟩ := gd
        refine ⟨by simp only [List.map_append, List.mem_append]; exact .inl g1, ?_⟩
        show lookW (_ ++ [_]) _ = _
        rw [lk, if_neg (fun y => by rw [y] at g1; exact r g1)]; exact g2
      · obtain ⟨n1, _, _⟩ := next e gd he
        unfold Good; rw [← n1]
        refine ⟨by simp, ?_⟩
        show lookW (_ ++ [_]) _ = _
        rw [lk, if_pos rfl]
  · rw [if_neg q]
    refine ⟨I, fun j _ gd => gd, fun e gd he => ?_⟩
    obtain ⟨_, n2, n3⟩ := next e gd he
    exact absurd (test.mpr ⟨n2, n3⟩) q

theorem DP.row (g : Gr N ps ord) {t : Nat} {cur : List Nat} {had : Nat} (hh : had ∈ cur) : ∀ (l : List Nat) (st : WS × List Nat), (∀ k ∈ l, k < N.length) → DP N ps t cur st →
    DP N ps t cur (l.foldl (lstep N (needL N ps) had) st) ∧ ∀ j, j ≤ ord.length → Good N ord st.1 j → Good N ord (l.foldl (lstep N (needL N ps) had) st).1 j
  | [], st, _, I => ⟨I, fun _ _ h => h⟩
  | k :: l, st, hl, I => by
    obtain ⟨a, b, _⟩ := I.step g hh (hl k (List.mem_cons_self ..))
    obtain ⟨c, d⟩ := DP.row g hh l _ (fun x hx => hl x (List.mem_cons_of_mem _ hx)) a
    exact ⟨c, fun j hj h => d j hj (b j hj h)⟩
theorem DP.had (g : Gr N ps ord) {t : Nat} {cur : List Nat} {st : WS × List Nat} (I : DP N ps t cur st) {had : Nat} (hh : had ∈ cur) :
    DP N ps t cur (lhad N (needL N ps) st had) ∧ (∀ j, j ≤ ord.length → Good N ord st.1 j → Good N ord (lhad N (needL N ps) st had).1 j) ∧
      (had = maskOf N (ord.take t) → Good N ord st.1 t → t < ord.length → Good N ord (lhad N (needL N ps) st had).1 (t + 1)) := by
  unfold lhad
  obtain ⟨a, b⟩ := DP.row g hh (List.range N.length) st (fun k hk => by simpa using hk) I
  refine ⟨a, b, fun e gd ht => ?_⟩
  have he : ord[t]? = some ord[t] := List.getElem?_eq_getElem ht
  have hx := ((free_char g.mem).mp (g.least t _ he).1).1
  have hk := List.idxOf_lt_length_iff.mpr hx
  have hg : N.getD (N.idxOf ord[t]) 0 = ord[t] := by rw [List.getD_eq_getElem?_getD, List.getElem?_eq_getElem hk, Option.getD_some, List.getElem_idxOf]
  obtain ⟨l1, l2, hl⟩ := List.append_of_mem (List.mem_range.mpr hk)
  rw [hl, List.foldl_append, List.foldl_cons]
  have h1 : ∀ k ∈ l1, k < N.length := fun k hk => by have : k ∈ List.range N.length := hl ▸ List.mem_append_left _ hk; simpa using this
  have h2 : ∀ k ∈ l2, k < N.length := fun k hk => by have : k ∈ List.range N.length := hl ▸ List.mem_append_right _ (List.mem_cons_of_mem _ hk); simpa using this
  obtain ⟨p1, p2⟩ := DP.row g hh l1 st h1 I
  obtain ⟨q1, q2, q3⟩ := p1.step g hh hk
  obtain ⟨r1, r2⟩ := DP.row g hh l2 _ h2 q1
  exact r2 _ (by lia) (q3 e (p2 _ (by lia) gd) (by rw [hg]; exact he))
theorem DP.layer (g : Gr N ps ord) {t : Nat} {cur : List Nat} : ∀ (l : List Nat) (st : WS × List Nat), (∀ m ∈ l, m ∈ cur) → DP N ps t cur st →
    DP N ps t cur (l.foldl (lhad N (needL N ps)) st) ∧ ∀ j, j ≤ ord.length → Good N ord st.1 j → Good N ord (l.foldl (lhad N (needL N ps)) st).1 j
  | [], st, _, I => ⟨I, fun _ _ h => h⟩
  | k :: l, st, hl, I => by
    obtain ⟨a, b, _⟩ := I.had g (hl k (List.mem_cons_self ..))
    obtain ⟨c, d⟩ := DP.layer g l _ (fun x hx => hl x (List.mem_cons_of_mem _ hx)) a
    exact ⟨c, fun j hj h => d j hj (b j hj h)⟩
theorem sub_all {l m : List Int} (h : l.Nodup) (hs : ∀ x ∈ l, x ∈ m) (hl : m.length ≤ l.length) : ∀ x ∈ m, x ∈ l := fun x hx => by
  by_cases q : x ∈ l
  · exact q
  · exfalso
    have := nodup_few (l := x :: l) (m := m) (List.nodup_cons.mpr ⟨q, h⟩) fun y hy => by
      rcases List.mem_cons.mp hy with z | z
      · subst z; exact hx
      · exact hs y z
    simp at this; lia

theorem lrun_ok (g : Gr N ps ord) : ∀ (j t f : Nat) (ws : WS) (layer grown : List Nat), t + j = ord.length → j + 2 ≤ f → (∀ m ∈ ws.map (·.1), Word N ps (lookW ws m) ∧ maskOf N (lookW ws m) = m ∧ (lookW ws m).length ≤ t) →
    (∀ m ∈ grown, m ∈ ws.map (·.1) ∧ (lookW ws m).length = t) → Good N ord ws t → maskOf N (ord.take t) ∈ grown → lrun N (needL N ps) f ws layer grown = ord := by
  intro j
  induction j with
  | zero =>
    intro t f ws layer grown ht hf hs hg gd hm
    obtain ⟨f, rfl⟩ : ∃ f', f = f' + 1 := ⟨f - 1, by lia⟩
    cases grown with
    | nil => cases hm
    | cons m0 gs =>
      have I0 : DP N ps t (m0 :: gs) (ws, []) := ⟨fun m h => ⟨(hs m h).1, (hs m h).2.1, Nat.le_succ_of_le (hs m h).2.2⟩, hg, nofun, fun m h e => by have := (hs m h).2.2; change (lookW ws m).length = t + 1 at e; lia⟩
      obtain ⟨I1, p1⟩ := DP.layer g (m0 :: gs) (ws, []) (fun _ h => h) I0
      show lrun N (needL N ps) f (llayer N (needL N ps) ws (m0 :: gs)).1 (m0 :: gs) (llayer N (needL N ps) ws (m0 :: gs)).2 = ord
      change DP N ps t (m0 :: gs) (llayer N (needL N ps) ws (m0 :: gs)) at I1
      replace p1 := p1 t (by lia) gd
      change Good N ord (llayer N (needL N ps) ws (m0 :: gs)).1 t at p1
      generalize llayer N (needL N ps) ws (m0 :: gs) = S at I1 p1 ⊢
      have e2 : S.2 = [] := by
        cases e : S.2 with
        | nil => rfl
        | cons a r =>
          exfalso
          obtain ⟨a1, a2⟩ := I1.new a (by rw [e]; exact List.mem_cons_self ..)
          have := g.len (I1.sound a a1).1
          lia
      rw [e2]
      have e3 : lrun N (needL N ps) f S.1 (m0 :: gs) [] = lookW S.1 m0 := by cases f <;> rfl
      rw [e3]
      obtain ⟨c1, c2⟩ := I1.cur m0 (List.mem_cons_self ..)
      obtain ⟨s1, s2, _⟩ := I1.sound m0 c1
      have eo : ord.take t = ord := List.take_of_length_le (by lia)
      have em : maskOf N (ord.take t) = m0 := by
        rw [eo, ← s2]
        exact mask_same fun x => ⟨fun hx => sub_all s1.nodup (g.all s1) (by lia) x hx, fun hx => g.all s1 x hx⟩
      have := p1.2
      rw [em, eo] at this; exact this
  | succ j ih =>
    intro t f ws layer grown ht hf hs hg gd hm
    obtain ⟨f, rfl⟩ : ∃ f', f = f' + 1 := ⟨f - 1, by lia⟩
    have I0 : DP N ps t grown (ws, []) := ⟨fun m h => ⟨(hs m h).1, (hs m h).2.1, Nat.le_succ_of_le (hs m h).2.2⟩, hg, nofun, fun m h e => by have := (hs m h).2.2; change (lookW ws m).length = t + 1 at e; lia⟩
    obtain ⟨I1, p1⟩ := DP.layer g grown (ws, []) (fun _ h => h) I0
    have p2 : Good N ord (llayer N (needL N ps) ws grown).1 (t + 1) := by
      unfold llayer
      obtain ⟨l1, l2, hl⟩ := List.append_of_mem hm
      rw [hl, List.foldl_append, List.foldl_cons]
      obtain ⟨a1, a2⟩ := DP.layer g l1 (ws, []) (fun m h => hl ▸ List.mem_append_left _ h) I0
      obtain ⟨b1, b2, b3⟩ := a1.had g hm
      obtain ⟨c1, c2⟩ := DP.layer g l2 _ (fun m h => hl ▸ List.mem_append_right _ (List.mem_cons_of_mem _ h)) b1
      exact c2 _ (by lia) (b3 rfl (a2 t (by lia) gd) (by lia))
    have er : lrun N (needL N ps) (f + 1) ws layer grown = lrun N (needL N ps) f (llayer N (needL N ps) ws grown).1 grown (llayer N (needL N ps) ws grown).2 := by
      cases grown with
      | nil => cases hm
      | cons a r => rfl
    rw [er]
    refine ih (t + 1) f _ _ _ (by lia) (by lia) I1.sound I1.new p2 (I1.all _ p2.1 ?_)
    have := p2.2
    unfold llayer at this
    rw [this, List.length_take]; lia

theorem least_is (g : Gr N ps ord) (h : ord.length ≤ 100) : leastL N ps = ord := by
  unfold leastL
  refine lrun_ok g ord.length 0 200 _ _ _ (by lia) (by lia) ?_ ?_ ⟨by simp [maskOf], by simp [maskOf, lookW]⟩ (by simp [maskOf])
  · intro m hm
    simp at hm; subst hm
    refine ⟨?_, ?_, ?_⟩
    · simp [lookW]; exact .nil
    · simp [lookW, maskOf]
    · simp [lookW]
  · intro m hm
    simp at hm; subst hm
    simp [lookW]
end Mine
end

-- part E5
section
open PySem PySem.W PySem.Calls PyProof.Rows
set_option Elab.async false
set_option linter.unusedVariables false
set_option linter.unusedSimpArgs false
set_option autoImplicit false
set_option maxRecDepth 100000
namespace Mine

theorem addNew_ok : ∀ (l b : List Int), b.Nodup → (l.foldl addNew b).Nodup ∧ (∀ x, x ∈ l.foldl addNew b ↔ x ∈ b ∨ x ∈ l)
  | [], b, h => ⟨h, by simp⟩
  | x :: l, b, h => by
    rw [List.foldl_cons]
    have h1 : (addNew b x).Nodup := by
      unfold addNew; split
      · exact h
      · rename_i hx; rw [List.nodup_append]; exact ⟨h, by simp, fun a ha c hc => by simp at hc; subst hc; exact fun e => hx (e ▸ ha)⟩
    have h2 : ∀ y, y ∈ addNew b x ↔ y ∈ b ∨ y = x := by
      intro y; unfold addNew; split
      · rename_i hx; constructor
        · exact .inl
        · rintro (q | q)
          · exact q
          · subst q; exact hx
      · simp
    obtain ⟨a, c⟩ := addNew_ok l _ h1
    exact ⟨a, fun y => by rw [c, h2]; simp [or_assoc]⟩
theorem namesL_ok (script : List Int) : (namesL script).Nodup ∧ (namesL script).length = 6 := by
  obtain ⟨a, b⟩ := addNew_ok (namesAll script) [] List.nodup_nil
  unfold namesL
  refine ⟨List.Nodup.sublist (List.take_sublist _ _) a, ?_⟩
  have := nodup_few (l := [6, 2, 9, -4, 7, 1]) (m := (namesAll script).foldl addNew []) (by decide) fun x hx => (b x).mpr (.inr (by unfold namesAll; exact List.mem_append_right _ hx))
  rw [List.length_take]
  simp at this; lia

variable {N : List Int} {ps : List (Int × Int)} {ord : List Int} {rows : List (List Int)} {free : Bool}
theorem Led.order (h : Led N ps free ord rows) (h6 : N.length = 6) : leastL N ps = ord := by
  obtain ⟨nds, lp⟩ := h.lp
  exact least_is lp.gr (by have := lp.few.1; lia)
theorem max_idx {fin : List Int} : ∀ {l : List Int}, l ≠ [] → ∃ k ∈ l, ∀ q ∈ l, fin.idxOf q ≤ fin.idxOf k
  | [], h => absurd rfl h
  | [x], _ => ⟨x, by simp, by simp⟩
  | x :: y :: l, _ => by
    obtain ⟨k, h1, h2⟩ := max_idx (fin := fin) (l := y :: l) (by simp)
    by_cases q : fin.idxOf x ≤ fin.idxOf k
    · exact ⟨k, List.mem_cons_of_mem _ h1, fun z hz => by
        rcases List.mem_cons.mp hz with e | e
        · subst e; exact q
        · exact h2 z e⟩
    · exact ⟨x, List.mem_cons_self .., fun z hz => by
        rcases List.mem_cons.mp hz with e | e
        · subst e; exact Nat.le_refl _
        · have := h2 z e; lia⟩
theorem Led.isFree (h : Led N ps free ord rows) : free = decide (ord.length = N.length) := by
  obtain ⟨nds, lp⟩ := h.lp
  have g := lp.gr
  have sub := lp.run.sub
  have le := lp.few.1
  cases free with
  | true =>
    obtain ⟨fin, hf1, hf2⟩ := h.yes rfl
    have : lft N ord = [] := by
      by_cases q : lft N ord = []
      · exact q
      · exfalso
        obtain ⟨k, hk, hmax⟩ := max_idx (fin := fin) q
        obtain ⟨k1, k2⟩ := lft_mem.mp hk
        have : k ∈ freeL ps (lft N ord) := (free_char g.mem).mpr ⟨k1, k2, fun a ha => by
          by_cases z : a ∈ ord
          · exact z
          · exfalso
            have haN := (g.mem _ ha).1
            have hm := hmax a (lft_mem.mpr ⟨haN, z⟩)
            have hl := List.idxOf_lt_length_iff.mpr (hf1 a haN)
            have := idx_take (hf2 (fin.idxOf a) a (by rw [List.getElem?_eq_getElem hl, List.getElem_idxOf]) k ha)
            lia⟩
        rw [g.stop] at this; cases this
    have hall : ∀ k ∈ N, k ∈ ord := fun k hk => by
      by_cases z : k ∈ ord
      · exact z
      · have : k ∈ lft N ord := lft_mem.mpr ⟨hk, z⟩
        rw [‹lft N ord = []›] at this; cases this
    have := nodup_few g.nodup hall
    simp; lia
  | false =>
    obtain ⟨ring, R⟩ := h.no rfl
    have hne : ord.length ≠ N.length := fun e => by
      have hall := sub_all lp.run.once sub (by lia)
      have inc : ∀ a b, (a, b) ∈ ps → ord.idxOf a < ord.idxOf b := fun a b hab => by
        have hb := hall b (g.mem _ hab).2
        have hl := List.idxOf_lt_length_iff.mpr hb
        have := ((free_char g.mem).mp (g.least (ord.idxOf b) b (by rw [List.getElem?_eq_getElem hl, List.getElem_idxOf])).1).2.2 a hab
        exact idx_take this
      have h2 := R.two
      have all : ∀ i, 0 < i → i < ring.length → ord.idxOf (ring.getD 0 0) < ord.idxOf (ring.getD i 0) := by
        intro i
        induction i with
        | zero => intro h; lia
        | succ i ih =>
          intro _ hi
          have s := inc _ _ (R.steps i hi)
          by_cases z : i = 0
          · subst z; exact s
          · have := ih (by lia) (by lia); lia
      have := all (ring.length - 1) (by lia) (by lia)
      rw [← R.ends] at this; lia
    simp [hne]
theorem rows_same {rows' : List (List Int)} {f : Nat → List Int} (hl : rows.length = rows'.length) (h1 : ∀ (i : Nat) row, rows[i]? = some row → row.Perm (f i) ∧ row.Pairwise (· ≤ ·)) (h2 : ∀ (i : Nat) row, rows'[i]? = some row → row.Perm (f i) ∧ row.Pairwise (· ≤ ·)) : rows = rows' := by
  refine List.ext_getElem hl fun i a b => ?_
  obtain ⟨p1, s1⟩ := h1 i _ (List.getElem?_eq_getElem a)
  obtain ⟨p2, s2⟩ := h2 i _ (List.getElem?_eq_getElem b)
  exact List.Perm.eq_of_pairwise (fun x y _ _ h h' => Int.le_antisymm h h') s1 s2 (p1.trans p2.symm)
end Mine
end

-- part E6
section
set_option Elab.async false
set_option linter.unusedVariables false
set_option autoImplicit false
namespace Mine
theorem min_of : ∀ {l : List Int}, l ≠ [] → ∃ k ∈ l, ∀ q ∈ l, k ≤ q
  | [], h => absurd rfl h
  | [x], _ => ⟨x, by simp, by simp⟩
  | x :: y :: l, _ => by
    obtain ⟨k, h1, h2⟩ := min_of (l := y :: l) (by simp)
    by_cases q : k ≤ x
    · exact ⟨k, List.mem_cons_of_mem _ h1, fun z hz => by
        rcases List.mem_cons.mp hz with e | e
        · subst e; exact q
        · exact h2 z e⟩
    · exact ⟨x, List.mem_cons_self .., fun z hz => by
        rcases List.mem_cons.mp hz with e | e
        · subst e; lia
        · have := h2 z e; lia⟩
theorem gr_grow {N : List Int} {ps : List (Int × Int)} (hN : N.Nodup) (hm : ∀ p ∈ ps, p.1 ∈ N ∧ p.2 ∈ N) : ∀ (j : Nat) (ord : List Int), N.length - ord.length ≤ j → Word N ps ord → (∀ (i : Nat) x, ord[i]? = some x → x ∈ freeL ps (lft N (ord.take i)) ∧ ∀ y ∈ freeL ps (lft N (ord.take i)), x ≤ y) → ∃ ord', Gr N ps ord' := by
  intro j
  induction j with
  | zero =>
    intro ord hj hw hl
    by_cases q : freeL ps (lft N ord) = []
    · exact ⟨ord, hN, hm, hl, q⟩
    · exfalso
      obtain ⟨x, hx, _⟩ := min_of q
      obtain ⟨h1, h2, h3⟩ := (free_char hm).mp hx
      have := nodup_few (Word.snoc hw h1 h2 h3).nodup (Word.snoc hw h1 h2 h3).sub
      simp at this; lia
  | succ j ih =>
    intro ord hj hw hl
    by_cases q : freeL ps (lft N ord) = []
    · exact ⟨ord, hN, hm, hl, q⟩
    · obtain ⟨x, hx, hmin⟩ := min_of q
      obtain ⟨h1, h2, h3⟩ := (free_char hm).mp hx
      refine ih (ord ++ [x]) (by simp; lia) (.snoc hw h1 h2 h3) fun i y e => ?_
      rcases snoc_get e with ⟨e', hi⟩ | ⟨rfl, rfl⟩
      · rw [List.take_append_of_le_length (by lia)]; exact hl i y e'
      · rw [List.take_left]; exact ⟨hx, hmin⟩
theorem least_few {N : List Int} {ps : List (Int × Int)} (hN : N.Nodup) (hm : ∀ p ∈ ps, p.1 ∈ N ∧ p.2 ∈ N) (h6 : N.length = 6) : (leastL N ps).length ≤ 6 := by
  obtain ⟨ord, g⟩ := gr_grow hN hm N.length [] (by simp) .nil (by simp)
  have hw := g.word ord.length (Nat.le_refl _)
  rw [List.take_length] at hw
  have := nodup_few hw.nodup hw.sub
  rw [least_is g (by lia)]; lia
end Mine
end

-- part D15
section
open PySem PySem.W PySem.Calls PyProof.Rows
set_option Elab.async false
set_option linter.unusedVariables false
set_option autoImplicit false
set_option maxRecDepth 100000
namespace Mine
theorem k211 (w : World) : nsIn (KW w) mainGlobals "_law_least" = some (some (.ref 211)) := by kernel_rfl
theorem k216 (w : World) : nsIn (KW w) mainGlobals "_law_waiting" = some (some (.ref 216)) := by kernel_rfl
theorem k228 (w : World) : nsIn (KW w) mainGlobals "_law_led" = some (some (.ref 228)) := by kernel_rfl
theorem k197 (w : World) : nsIn (KW w) mainGlobals "_law_names" = some (some (.ref 197)) := by kernel_rfl
theorem k204 (w : World) : nsIn (KW w) mainGlobals "_law_steps" = some (some (.ref 204)) := by kernel_rfl
theorem k235 (w : World) : nsIn (KW w) mainGlobals "_law_agrees" = some (some (.ref 235)) := by kernel_rfl

theorem agrees_ok {c : Cx} {n : Nat} {H : AH} {nm st : Addr} {names : List Int} {ps : List (Int × Int)} (hn : H nm = some (.list (names.map .int))) (h6 : names.length = 6) (hnd : names.Nodup) (hs : StepsAt H st ps) (hps : ∀ p ∈ ps, p.1 ∈ names ∧ p.2 ∈ names) (h8 : ps.length ≤ 8) :
    TC c (n + 6) (.ref 235) [.ref nm, .ref st] H fun v H' => v = .bool true := by
  let Q0 : AV → AH → Prop := fun v H' => v = .bool true
  show TC _ _ _ _ _ Q0
  have hol := least_few hnd hps h6
  refine TC_def [Str.ofString "names", Str.ofString "steps"] [Str.ofString "order", Str.ofString "due", Str.ofString "way"] rfl rfl rfl (by kernel_rfl) rfl rfl ?_ (by decide) (by decide) (by decide) rfl rfl rfl rfl ?_
  · intro vs hvs
    rcases vs with _ | ⟨v1, _ | ⟨v2, _ | _⟩⟩ <;> first | rfl | (simp at hvs)
  intro L
  refine JSS_cons (JS_set 2 (JE_Call (k211 _) rfl rfl (JL_cons (JE_N 0 (JL_cons (JE_N 1 (JL_nil (TC.mono (least_ok hn h6 hs hps) ?_))))))))
  rintro _ G1 ⟨o, rfl, ho, l1⟩
  refine JSS_cons (JS_set 3 (JE_List (JL_cons (JE_Compare (JE_len (JE_N 2 ⟨o, _, rfl, .inl (gets_of ho), by simp; lia, JE_len (JE_N 0 ⟨nm, _, rfl, .inl (gets_of (l1 _ _ hn)), by simp; lia, J_eq (JL_cons (JE_N 2 (JL_cons (JE_Call (k216 _) rfl rfl (JL_cons (JE_N 0 (JL_cons (JE_N 1 (JL_cons (JE_N 2 (JL_nil (TC.mono (waiting_ok (l1 _ _ hn) h6 (hs.le l1) ho hol h8) ?_))))))))))))⟩)⟩))))))
  rintro _ G2 ⟨w, rows, rfl, hw, l2, hwl, hwr⟩
  refine JL_cons (JE_bool (JL_cons (JE_Tuple (JL_nil ⟨by simp, fun t ht => JL_nil ⟨by simp, fun due hdue => ?_⟩⟩))))
  have T0 : ToldH (upd (upd G2 t (.tup [])) due (.list [.bool (((List.map AV.int (leastL names ps)).length : Int) == ((List.map AV.int names).length : Int)), .ref o, .ref w, .bool false, .ref t])) due (decide ((leastL names ps).length = names.length)) (leastL names ps) rows := by
    have ht0 := gets_H ht
    have hd0 := gets_H hdue
    have lt := HLe.upd (o := .tup []) ht0
    have ld := HLe.upd (o := .list [.bool (((List.map AV.int (leastL names ps)).length : Int) == ((List.map AV.int names).length : Int)), .ref o, .ref w, .bool false, .ref t]) hd0
    refine ⟨o, w, t, ?_, ld _ _ (lt _ _ (l2 _ _ ho)), (hw.le lt).le ld, ld _ _ (upd_self ..)⟩
    rw [upd_self]
    congr 5
    rw [List.length_map, List.length_map, Bool.eq_iff_iff]
    simp
    lia
  have l3 : HLe H (upd (upd G2 t (.tup [])) due (.list [.bool (((List.map AV.int (leastL names ps)).length : Int) == ((List.map AV.int names).length : Int)), .ref o, .ref w, .bool false, .ref t])) := ((l1.trans l2).trans (HLe.upd (gets_H ht))).trans (HLe.upd (gets_H hdue))
  show JSS _ _ _ _ ⟨[.ref nm, .ref st, .ref o, .ref due, .other], upd (upd G2 t (.tup [])) due (.list [.bool (((List.map AV.int (leastL names ps)).length : Int) == ((List.map AV.int names).length : Int)), .ref o, .ref w, .bool false, .ref t])⟩ _
  generalize upd (upd G2 t (.tup [])) due (.list [.bool (((List.map AV.int (leastL names ps)).length : Int) == ((List.map AV.int names).length : Int)), .ref o, .ref w, .bool false, .ref t]) = G3 at T0 l3 ⊢
  let hI1 : Nat → PS → Prop := fun k P => ∃ v4, P.m = [.ref nm, .ref st, .ref o, .ref due, v4] ∧ HLe G3 P.H
  refine JSS_cons (JS_ForRange (hI1) 4 (by decide) (JE_int ⟨rfl, .other, rfl, HLe.refl _⟩) ?_ ?_)
  · rintro k ⟨mm, G⟩ hk ⟨v4, hm, l4⟩ u hu
    obtain rfl : mm = _ := hm
    dsimp only at l4
    refine J_asg 4 ?_
    rw [hu]
    have l5 := l3.trans l4
    refine JSS_cons (JS_If (JB_Compare (JE_Call (k228 _) rfl rfl (JL_cons (JE_N 0 (JL_cons (JE_N 1 (JL_cons (JE_N 4 (JL_nil (TC.mono (led_ok (l5 _ _ hn) h6 hnd (hs.le l5) hps h8) ?_)))))))))))
    rintro _ G4 ⟨a, free, ord, rows', rfl, T1, l6, led⟩
    have eo := led.order h6
    have ef := led.isFree
    obtain ⟨nds, lp⟩ := led.lp
    have er : rows' = rows := by
      refine rows_same (f := fun i => freeL ps (lft names (ord.take i))) (by rw [lp.len, hwl, eo]) lp.rowsI fun i row e => ?_
      have := hwr i row e
      rw [eo] at this
      exact this
    rw [er, ef, ← eo] at T1
    refine JE_N 3 (J_neTold T1.told (T0.le (l4.trans l6)).told ⟨_, rfl, nofun, fun _ => JSS_nil (JSS_nil ⟨_, rfl, l4.trans l6⟩)⟩)
  · rintro ⟨mm, G⟩ ⟨v4, hm, l4⟩
    exact JSS_nil (JSS_cons (JS_Return (JE_bool rfl)))
end Mine
end

-- part F1
section
open PySem PySem.W PySem.Calls PyProof.Rows
set_option Elab.async false
set_option linter.unusedVariables false
set_option autoImplicit false
set_option maxRecDepth 100000
namespace Mine

/-- a def that stands in the heap from the start -/
theorem TC_def0 {c : Cx} {n : Nat} (ps ls : List Str) {fa : Addr} {o : Obj} {fd : FuncData} {body : List Stmt} {args : List AV} {H : AH} {Q : AV → AH → Prop}
    (ho : c.h₀.get? fa = some o) (hd : o.data = .func fd) (hb : fd.body = .stmts body) (hcd : c.h₀.CodeRec fd.code fd.qualname)
    (hg : fd.globals = mainGlobals) (hbi : fd.builtins = builtinsNs)
    (hbind : ∀ vs : List Value, vs.length = args.length → bindArgs fd ⟨vs, []⟩ = pure (ps.zip vs))
    (hcell : ∀ x ∈ fd.scope.names, x.2 ≠ .cell) (hloc : ∀ x ∈ ps ++ ls, fd.scope.names.lookup x = some .local ∧ (x == ("__debug__" : Str)) = false) (hnd : (ps ++ ls).Nodup)
    (hco : fd.scope.isCoroutine = false) (hgen : fd.scope.isGenerator = false) (hk : fd.scope.kind = .function) (hlen : ps.length = args.length)
    (h : ∀ L, JSS (c.push (callEnv fd L fa)) n (fmOf fd L fa (ps ++ ls) hnd hloc hk hg hbi) body ⟨args ++ List.replicate ls.length .other, H⟩ fun f P' => Q (retOf f) P'.H) : TC c (n + 1) (.ref fa) args H Q := by
  refine ⟨fun vs hvs A s hr hp => ?_⟩
  subst hvs
  refine (codeAny_call_def (fd := fd) (body := body) (binds := ps.zip vs) hr.depth (hp.base _ _ ho).1 hd (c.nolimit.keeps hp.keep)
    (hcd.keeps hp.keep) hb (BindsTo.of_eq (hbind vs (by simp))) hcell (fun x hx => (hloc x.1 (List.mem_append_left _ (List.of_mem_zip hx).1)).1) (fun h₁ hns hk₁ => ?_) hco hgen hk)
  have r1 : Rep (c.push (callEnv fd s.heap.objs.size fa)) (fmOf fd s.heap.objs.size fa (ps ++ ls) hnd hloc hk hg hbi) ⟨vs.map abs ++ List.replicate ls.length .other, H⟩ { s with heap := h₁, toks := s.toks + (ps.zip vs).length } := by
    refine ⟨(hp.ext (s' := { s with heap := h₁, toks := s.toks + (ps.zip vs).length }) hk₁ rfl rfl).push hk rfl hns hp.base_fresh hp.fresh, ⟨_, hns, fun i x v e1 e2 e3 => ?_⟩, hp.fresh, hp.base_fresh⟩
    rw [List.length_map] at hlen
    by_cases hi : i < vs.length
    · rw [List.getElem?_append_left (by simpa using hi), List.getElem?_map] at e2
      obtain ⟨u, hu, rfl⟩ := Option.map_eq_some_iff.mp e2
      rw [List.getElem?_append_left (by lia)] at e1
      rw [lookup_rev_zip (List.nodup_append.mp hnd).1 e1 hu]; rfl
    · rw [List.getElem?_append_right (by simpa using hi)] at e2
      exact absurd (List.mem_replicate.mp (List.mem_of_getElem? e2)).2 e3
  refine wpAny_mono ((h s.heap.objs.size).go _ _ (hr.deeper (e := callEnv fd s.heap.objs.size fa)) r1) (fun f s' ⟨P', r', f', q'⟩ => ?_) fun _ _ x => x.elim
  refine ⟨P'.H, r'.h.pop, fun b ob e1 e2 => f' b ob (hk₁ _ _ e1) (Nat.ne_of_lt (Heap.lt_size e1)) e2, ?_⟩
  cases f <;> exact q'

noncomputable abbrev DefParts := Str × Arguments × List Stmt × Scope
noncomputable def partsOf : Stmt → Option DefParts
  | .FunctionDef n a b _ _ _ s _ _ _ => some (n, a, b, s)
  | _ => none

/-- law(script) -/
theorem law_tc {c : Cx} {n : Nat} {fa : Addr} {o : Obj} {pm cd doc : Value} {dn : Str} {dp : Arguments} {db : List Stmt} {ds : Scope} {sc : Addr} {script : List Int} (hp : partsOf (nth tops 23) = some (dn, dp, db, ds))
    (ho : c.h₀.get? fa = some o) (hd : o.data = .func { docDef dn dp db ds pm cd doc with defaults := .none, kwdefaults := .none }) (hcd : c.h₀.CodeRec cd dn)
    (hs : c.ro sc = some (.list (script.map .int))) (hz : script.length ≤ 63) :
    TC c (n + 8) (.ref fa) [.ref sc] (fun _ => none) fun v H' => v = .bool true := by
  have hp2 : partsOf (nth tops 23) = some (_, _, _, _) := rfl
  rw [hp2] at hp
  injection hp with hp
  injection hp with e1 hp
  injection hp with e2 hp
  injection hp with e3 e4
  subst e1 e2 e3 e4
  have hr : ∀ H : AH, (∀ o, H sc = some o → o = .list (script.map .int)) → gets c H sc = some (.list (script.map .int)) := fun H h => by
    unfold gets
    cases e : H sc with
    | none => exact hs
    | some o => rw [h o e]; rfl
  refine TC_def0 [Str.ofString "script"] [] ho hd rfl hcd rfl rfl ?_ (by dsimp only [docDef]; decide) (by dsimp only [docDef]; decide) (by decide) rfl rfl rfl rfl ?_
  · intro vs hvs
    rcases vs with _ | ⟨v1, _ | _⟩ <;> first | rfl | (simp at hvs)
  intro L
  obtain ⟨nd, n6⟩ := namesL_ok script
  refine JSS_cons (JS_Return (JE_Call (k235 _) rfl rfl (JL_cons (JE_Call (k197 _) rfl rfl (JL_cons (JE_N 0 (JL_nil (TC.mono (names_ok (hr _ nofun) hz) ?_))))))))
  rintro _ _ ⟨r1, rfl, h1, rfl⟩
  have c1 : gets c (upd (fun _ => none) r1 (.list ((namesL script).map .int))) sc = some (.list (script.map .int)) := gets_keep h1 (hr _ nofun)
  refine JL_cons (JE_Call (k204 _) rfl rfl (JL_cons (JE_N 0 (JL_cons (JE_Call (k197 _) rfl rfl (JL_cons (JE_N 0 (JL_nil (TC.mono (names_ok c1 hz) ?_)))))))))
  rintro _ _ ⟨r2, rfl, h2, rfl⟩
  have c2 : gets c (upd (upd (fun _ => none) r1 (.list ((namesL script).map .int))) r2 (.list ((namesL script).map .int))) sc = some (.list (script.map .int)) := gets_keep h2 c1
  refine JL_nil (TC.mono (steps_ok c2 hz (upd_self ..) n6) ?_)
  rintro _ G ⟨r3, ps, rfl, h3, hm, h8, l3⟩
  refine JL_nil (TC.mono (agrees_ok (l3 _ _ (H_keep h2 (upd_self ..))) n6 nd h3 hm h8) ?_)
  rintro _ G' rfl
  rfl
end Mine
end

-- part F2
section
open PySem PySem.W PySem.Calls PyProof.Rows
set_option Elab.async false
set_option linter.unusedVariables false
set_option autoImplicit false
set_option maxRecDepth 100000
namespace Mine

theorem items_int {R : WRecords} : ∀ (xs : List WData), WShape.hasItems R xs .int = true → ∃ is : List Int, xs = is.map .int
  | [] => fun _ => ⟨[], rfl⟩
  | x :: xs => fun h => by
    have h : (WShape.has R x .int && WShape.hasItems R xs .int) = true := h
    have h := Bool.and_eq_true_iff.mp h
    obtain ⟨is, rfl⟩ := items_int xs h.2
    obtain ⟨i, rfl⟩ := hasW_int h.1
    exact ⟨i :: is, rfl⟩
noncomputable abbrev lawRow : RowW := (PySem.Challenge.rw_mg0059_01.row).toRowW
theorem args_of {args : List WData} (hpre : lawRow.claim.pre args = true) : ∃ is : List Int, args = [.list (is.map .int)] ∧ is.length ≤ 63 := by
  obtain ⟨h1, h2⟩ := pre_splitW hpre
  obtain ⟨d, r, rfl, hd, hr⟩ := hasAllW_cons (e := .list .int) (es := []) h1
  obtain rfl := hasAllW_nil hr
  obtain ⟨xs, rfl, hx⟩ := hasW_list hd
  obtain ⟨is, rfl⟩ := items_int xs hx
  refine ⟨is, rfl, ?_⟩
  have hc : WTm.holds [] (WTm.and (.not (.lt (.lit (.int 63)) (.len (.arg 0)))) (.lit (.bool true))) { args := [.list (is.map .int)] } = true := h2
  w_cond hc
  rw [List.length_map] at *
  lia
theorem well_int {P : Params} {h : Heap} {v : Value} {i : Int} (z : Well P h v (.int i)) : abs v = .int i := by cases z; rfl
theorem well_ints {P : Params} {h : Heap} (is : List Int) : ∀ (vs : List Value), WellAll P h vs (is.map .int) → vs.map abs = is.map .int := by
  induction is with
  | nil => intro vs z; cases z; rfl
  | cons i is ih =>
    intro vs z
    cases z with
    | cons a r => rw [List.map_cons, List.map_cons, ih _ r, well_int a]

theorem walk_ok {q : Program} {loose : List Str} {XP : (Str → Option Value) → Heap → Prop} {e : ∀ P, KA = (KF P).map (·.1)} {d : DefRec} (hd : partsOf (nth tops 23) = some (d.name, d.params, d.body, d.scope)) :
    WalkO q loose XP (kHook KF KA e).says lawRow d [] fun f vs => PySem.call f vs := by
  intro w s₀ s₁ mg mb G Y a o pm cd doc dV kV ho hdat hcd hD hmg hg args vals as hpre hlay hrd hwl hlo
  obtain ⟨is, rfl, hz⟩ := args_of hpre
  obtain ⟨sc, vs, rfl, hsc, hvs⟩ : ∃ sc vs, vals = [.ref sc] ∧ s₁.heap.get? sc = some { cls := .type "list", data := .seq (List.toArray vs) } ∧ vs.map abs = is.map .int := by
    cases hwl with
    | cons h1 h2 =>
      cases h2
      cases h1 with
      | list h3 h4 => exact ⟨_, _, rfl, h3, well_ints _ _ h4⟩
  have hdf : d.params.defaults = [] := by
    have hp2 : partsOf (nth tops 23) = some (_, _, _, _) := rfl
    rw [hp2] at hd
    injection hd with hd
    injection hd with e1 hd
    injection hd with e2 hd
    rw [← e2]
  obtain rfl := Dflts.none hD hdf
  obtain rfl := Dflts.noKw hD
  let c : Cx := ⟨w, s₁.heap, mg, mb, s₁.os, fun x => if x = sc then some (.list (is.map .int)) else none, kIn_of Y, G.T.g, G.T.b, G.T.nolimit, G.T.builtins, (fun x ob hx => by
    by_cases z : x = sc
    · subst z; rw [if_pos rfl] at hx; cases hx
      exact ⟨_, hsc, _, _, rfl, hvs⟩
    · rw [if_neg z] at hx; cases hx), []⟩
  have T : TC c (0 + 8) (.ref a) [.ref sc] (fun _ => none) fun v H' => v = .bool true := law_tc hd ho hdat hcd (if_pos rfl) hz
  have hp : HRep c (fun _ => none) s₁ := ⟨fun _ _ h => absurd h (by simp), fun b ob h => ⟨h, rfl⟩, fun _ _ h => absurd h (by simp), rfl, hg, fun _ h => absurd h List.not_mem_nil⟩
  refine wpAny_mono ((T.at_ [.ref sc] rfl).go callerA s₁ ⟨fun _ => rfl, by decide, by decide, rfl⟩ hp) ?_ fun _ _ x => x.elim
  rintro v s' ⟨H', hr, _, hv⟩
  obtain rfl := abs_bool hv
  refine ⟨.inl ⟨.bool true, .bool true, [], rfl, raisesW_false (r := lawRow) allW_false_nil, .bool true, ?_, fun _ => ⟨List.nodup_nil, fun _ h => absurd h List.not_mem_nil⟩⟩, .of_keep fun b ob h => (hr.base b ob h).1, hr.os, .of_eq hr.gens⟩
  exact postW_of (r := lawRow) rfl rfl (same_self _)
end Mine
end

-- part F3
open PySem PySem.W PyProof.Rows
set_option Elab.async false
namespace Mine
set_option maxRecDepth 100000 in
set_option maxHeartbeats 8000000 in
theorem saidL : (PySem.Challenge.rw_mg0059_01).wellSaid = true := by
  unfold OpenLaw.wellSaid
  repeat' first
    | with_reducible refine look_both ?_ ?_
    | (with_reducible show OpenRow.wellSaid _ = true); unfold OpenRow.wellSaid
    | (with_reducible show OpenRow.partSaid _ = true); unfold OpenRow.partSaid
    | (with_reducible show looksOpen _ = true); unfold looksOpen
  all_goals decide +kernel
end Mine
set_option maxRecDepth 100000 in
set_option maxHeartbeats 8000000 in
theorem PySem.Challenge.cw_mg0059_01_holds : PySem.Challenge.rw_mg0059_01.Holds := by
  w_on
  refine holds_law Mine.saidL fun said => ?_
  o_head (kHook Mine.KF Mine.KA (fun _ => by kernel_rfl))
  case hw => w_witness2
  exact Mine.walk_ok rfl
