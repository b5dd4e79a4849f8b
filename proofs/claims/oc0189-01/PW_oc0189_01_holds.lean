import PyProof.Rows.All
import Wide.All
import OpenK.AllK
import KE.KTupSum
import KE.KItem
import Wide.FinOn
import Lean
import PySem.Challenge.RW_oc0189_01
open PySem PySem.W PyProof.Rows
set_option Elab.async false
set_option maxRecDepth 100000
set_option maxHeartbeats 8000000
namespace Mine
/- a def of the text, by its place -/
noncomputable def fnAt : List Stmt → Nat → Option (Arguments × List Stmt × Scope)
  | .FunctionDef _ a b _ _ _ s _ _ _ :: _, 0 => some (a, b, s)
  | _ :: r, n + 1 => fnAt r n
  | _, _ => none
noncomputable def clAt : List Stmt → Nat → List Stmt
  | .ClassDef _ _ _ b _ _ _ _ _ _ _ :: _, 0 => b
  | _ :: r, n + 1 => clAt r n
  | _, _ => []
noncomputable abbrev B : List Stmt := PySem.Challenge.pw_oc0189_01.main.body
noncomputable def hd.heap_39 : Params → Frag := by
  refine (fun (_ : True) (P : Params) => (?list : Frag)) ?tr
  case tr =>
    have h21 : fnAt B 0 = some (?a21, ?b21, ?s21) := by exact rfl
    have h28 : fnAt B 2 = some (?a28, ?b28, ?s28) := by exact rfl
    have h43 : fnAt (clAt B 6) 1 = some (?a43, ?b43, ?s43) := by exact rfl
    have h80 : fnAt (clAt B 8) 0 = some (?a80, ?b80, ?s80) := by exact rfl
    have h87 : fnAt (clAt B 8) 1 = some (?a87, ?b87, ?s87) := by exact rfl
    have h94 : fnAt (clAt B 8) 2 = some (?a94, ?b94, ?s94) := by exact rfl
    have h99 : fnAt (clAt B 8) 3 = some (?a99, ?b99, ?s99) := by exact rfl
    have h106 : fnAt (clAt B 8) 4 = some (?a106, ?b106, ?s106) := by exact rfl
    have h113 : fnAt (clAt B 8) 5 = some (?a113, ?b113, ?s113) := by exact rfl
    have h120 : fnAt (clAt B 8) 6 = some (?a120, ?b120, ?s120) := by exact rfl
    have h127 : fnAt (clAt B 8) 7 = some (?a127, ?b127, ?s127) := by exact rfl
    have h134 : fnAt (clAt B 8) 8 = some (?a134, ?b134, ?s134) := by exact rfl
    have h141 : fnAt (clAt B 8) 9 = some (?a141, ?b141, ?s141) := by exact rfl
    have h155 : fnAt B 10 = some (?a155, ?b155, ?s155) := by exact rfl
    have h162 : fnAt B 12 = some (?a162, ?b162, ?s162) := by exact rfl
    have h169 : fnAt B 13 = some (?a169, ?b169, ?s169) := by exact rfl
    have h176 : fnAt B 14 = some (?a176, ?b176, ?s176) := by exact rfl
    have h183 : fnAt B 15 = some (?a183, ?b183, ?s183) := by exact rfl
    have h190 : fnAt B 16 = some (?a190, ?b190, ?s190) := by exact rfl
    have h195 : fnAt B 17 = some (?a195, ?b195, ?s195) := by exact rfl
    have h202 : fnAt B 18 = some (?a202, ?b202, ?s202) := by exact rfl
    have h209 : fnAt B 19 = some (?a209, ?b209, ?s209) := by exact rfl
    have h214 : fnAt B 20 = some (?a214, ?b214, ?s214) := by exact rfl
    have h219 : fnAt B 21 = some (?a219, ?b219, ?s219) := by exact rfl
    have h224 : fnAt B 22 = some (?a224, ?b224, ?s224) := by exact rfl
    have h229 : fnAt B 23 = some (?a229, ?b229, ?s229) := by exact rfl
    have h234 : fnAt B 24 = some (?a234, ?b234, ?s234) := by exact rfl
    have h241 : fnAt B 25 = some (?a241, ?b241, ?s241) := by exact rfl
    trivial
  case list =>
    exact (
(nat_lit 2, Obj.mk Value.none none (Data.dict #[]) #[]) ::
(nat_lit 3, Obj.mk (Value.type "dict") none (Data.dict #[DictEntry.mk (PyData.keyHash P (Str.ofString "__name__")) (Value.str (Str.ofString "__name__") 165) (Value.str (Str.ofString "law_oc0189_01") 404), DictEntry.mk (PyData.keyHash P (Str.ofString "__doc__")) (Value.str (Str.ofString "__doc__") 166) Value.none, DictEntry.mk (PyData.keyHash P (Str.ofString "__package__")) (Value.str (Str.ofString "__package__") 167) Value.none, DictEntry.mk (PyData.keyHash P (Str.ofString "__loader__")) (Value.str (Str.ofString "__loader__") 168) (Value.builtin "__main__.__loader__#opaque"), DictEntry.mk (PyData.keyHash P (Str.ofString "__spec__")) (Value.str (Str.ofString "__spec__") 169) Value.none, DictEntry.mk (PyData.keyHash P (Str.ofString "__annotations__")) (Value.str (Str.ofString "__annotations__") 170) (Value.ref 6), DictEntry.mk (PyData.keyHash P (Str.ofString "__builtins__")) (Value.str (Str.ofString "__builtins__") 171) (Value.ref 4), DictEntry.mk (PyData.keyHash P (Str.ofString "__file__")) (Value.str (Str.ofString "__file__") 173) (Value.str (Str.ofString "/claim/cut.py") 172), DictEntry.mk (PyData.keyHash P (Str.ofString "__cached__")) (Value.str (Str.ofString "__cached__") 174) Value.none, DictEntry.mk (PyData.keyHash P (Str.ofString "_wall")) (Value.str (Str.ofString "_wall") 193) (Value.ref 21), DictEntry.mk (PyData.keyHash P (Str.ofString "_strip_padding")) (Value.str (Str.ofString "_strip_padding") 205) (Value.ref 28), DictEntry.mk (PyData.keyHash P (Str.ofString "_NODE_OUT")) (Value.str (Str.ofString "_NODE_OUT") 210) (Value.int (-1) 209), DictEntry.mk (PyData.keyHash P (Str.ofString "_NODE_DONE")) (Value.str (Str.ofString "_NODE_DONE") 213) (Value.int (-2) 212), DictEntry.mk (PyData.keyHash P (Str.ofString "_NodeInfo")) (Value.str (Str.ofString "_NodeInfo") 250) (Value.ref 47), DictEntry.mk (PyData.keyHash P (Str.ofString "CycleError")) (Value.str (Str.ofString "CycleError") 268) (Value.ref 62), DictEntry.mk (PyData.keyHash P (Str.ofString "TopologicalSorter")) (Value.str (Str.ofString "TopologicalSorter") 387) (Value.ref 144), DictEntry.mk (PyData.keyHash P (Str.ofString "sorted_list_difference")) (Value.str (Str.ofString "sorted_list_difference") 403) (Value.ref 155), DictEntry.mk (PyData.keyHash P (Str.ofString "_law_cells")) (Value.str (Str.ofString "_law_cells") 414) (Value.ref 162), DictEntry.mk (PyData.keyHash P (Str.ofString "_law_times")) (Value.str (Str.ofString "_law_times") 424) (Value.ref 169), DictEntry.mk (PyData.keyHash P (Str.ofString "_law_text")) (Value.str (Str.ofString "_law_text") 435) (Value.ref 176), DictEntry.mk (PyData.keyHash P (Str.ofString "_law_bare")) (Value.str (Str.ofString "_law_bare") 442) (Value.ref 183), DictEntry.mk (PyData.keyHash P (Str.ofString "_law_blanks_go")) (Value.str (Str.ofString "_law_blanks_go") 454) (Value.ref 190), DictEntry.mk (PyData.keyHash P (Str.ofString "_law_sum")) (Value.str (Str.ofString "_law_sum") 460) (Value.ref 195), DictEntry.mk (PyData.keyHash P (Str.ofString "_law_common")) (Value.str (Str.ofString "_law_common") 471) (Value.ref 202), DictEntry.mk (PyData.keyHash P (Str.ofString "_law_words")) (Value.str (Str.ofString "_law_words") 482) (Value.ref 209), DictEntry.mk (PyData.keyHash P (Str.ofString "_law_run")) (Value.str (Str.ofString "_law_run") 488) (Value.ref 214), DictEntry.mk (PyData.keyHash P (Str.ofString "_law_parts")) (Value.str (Str.ofString "_law_parts") 494) (Value.ref 219), DictEntry.mk (PyData.keyHash P (Str.ofString "_law_ring_is_right")) (Value.str (Str.ofString "_law_ring_is_right") 500) (Value.ref 224), DictEntry.mk (PyData.keyHash P (Str.ofString "_law_run_is_right")) (Value.str (Str.ofString "_law_run_is_right") 506) (Value.ref 229), DictEntry.mk (PyData.keyHash P (Str.ofString "_law_holds")) (Value.str (Str.ofString "_law_holds") 512) (Value.ref 234), DictEntry.mk (PyData.keyHash P (Str.ofString "law")) (Value.str (Str.ofString "law") 519) (Value.ref 241)] 31) #[]) ::
(nat_lit 15, Obj.mk (Value.type "tuple") none (Data.seq #[]) #[]) ::
(nat_lit 17, Obj.mk (Value.type "tuple") none (Data.seq #[Value.str (Str.ofString "k") 190]) #[]) ::
(nat_lit 18, Obj.mk (Value.type "tuple") none (Data.seq #[]) #[]) ::
(nat_lit 20, Obj.mk (Value.type "code") none (Data.fields #[Value.str (Str.ofString "_wall") 187, Value.str (Str.ofString "_wall") 188, Value.str (Str.ofString "/claim/cut.py") 189, Value.int 1 0, Value.int 1 0, Value.int 0 0, Value.int 0 0, Value.int 3 0, Value.ref 15, Value.bool true, Value.int 181 0, Value.ref 16, Value.none, Value.ref 17, Value.ref 18, Value.ref 19, Value.int 191 0, Value.int 1 0, Value.str (Str.ofString "/claim/cut.py") 192]) #[]) ::
(nat_lit 21, Obj.mk (Value.type "function") none (Data.func (FuncData.mk (Str.ofString "_wall") (Str.ofString "_wall") ?a21 (FuncBody.stmts ?b21) ?s21 3 [] Value.none Value.none Value.none (Value.str (Str.ofString "__main__") 164) none (Value.ref 20) Value.none 0)) #[]) ::
(nat_lit 22, Obj.mk (Value.type "tuple") none (Data.seq #[]) #[]) ::
(nat_lit 24, Obj.mk (Value.type "tuple") none (Data.seq #[Value.str (Str.ofString "s") 199, Value.str (Str.ofString "amount") 200, Value.str (Str.ofString "lpos") 201, Value.str (Str.ofString "rpos") 202]) #[]) ::
(nat_lit 25, Obj.mk (Value.type "tuple") none (Data.seq #[]) #[]) ::
(nat_lit 27, Obj.mk (Value.type "code") none (Data.fields #[Value.str (Str.ofString "_strip_padding") 196, Value.str (Str.ofString "_strip_padding") 197, Value.str (Str.ofString "/claim/cut.py") 198, Value.int 5 0, Value.int 2 0, Value.int 0 0, Value.int 0 0, Value.int 3 0, Value.ref 22, Value.bool true, Value.int 181 0, Value.ref 23, Value.none, Value.ref 24, Value.ref 25, Value.ref 26, Value.int 203 0, Value.int 5 0, Value.str (Str.ofString "/claim/cut.py") 204]) #[]) ::
(nat_lit 28, Obj.mk (Value.type "function") none (Data.func (FuncData.mk (Str.ofString "_strip_padding") (Str.ofString "_strip_padding") ?a28 (FuncBody.stmts ?b28) ?s28 3 [] Value.none Value.none Value.none (Value.str (Str.ofString "cpy313.locale") 194) none (Value.ref 27) Value.none 0)) #[]) ::
(nat_lit 36, Obj.mk (Value.type "tuple") none (Data.seq #[Value.str (Str.ofString "node") 226, Value.str (Str.ofString "npredecessors") 227, Value.str (Str.ofString "successors") 228]) #[]) ::
(nat_lit 37, Obj.mk (Value.type "tuple") none (Data.seq #[]) #[]) ::
(nat_lit 39, Obj.mk (Value.type "tuple") none (Data.seq #[Value.str (Str.ofString "self") 233, Value.str (Str.ofString "node") 234]) #[]) ::
(nat_lit 40, Obj.mk (Value.type "tuple") none (Data.seq #[]) #[]) ::
(nat_lit 42, Obj.mk (Value.type "code") none (Data.fields #[Value.str (Str.ofString "__init__") 230, Value.str (Str.ofString "_NodeInfo.__init__") 231, Value.str (Str.ofString "/claim/cut.py") 232, Value.int 21 0, Value.int 2 0, Value.int 0 0, Value.int 0 0, Value.int 3 0, Value.ref 37, Value.bool true, Value.int 181 0, Value.ref 38, Value.none, Value.ref 39, Value.ref 40, Value.ref 41, Value.int 235 0, Value.int 21 0, Value.str (Str.ofString "/claim/cut.py") 236]) #[]) ::
(nat_lit 43, Obj.mk (Value.type "function") none (Data.func (FuncData.mk (Str.ofString "__init__") (Str.ofString "_NodeInfo.__init__") ?a43 (FuncBody.stmts ?b43) ?s43 3 [] Value.none Value.none Value.none (Value.str (Str.ofString "cpy313.graphlib") 206) none (Value.ref 42) Value.none 0)) #[]) ::
(nat_lit 44, Obj.mk (Value.type "tuple") none (Data.seq #[Value.str (Str.ofString "node") 238, Value.str (Str.ofString "npredecessors") 239, Value.str (Str.ofString "successors") 240]) #[]) ::
(nat_lit 46, Obj.mk (Value.type "dict") none (Data.dict #[DictEntry.mk (PyData.keyHash P (Str.ofString "__module__")) (Value.str (Str.ofString "__module__") 221) (Value.str (Str.ofString "cpy313.graphlib") 206), DictEntry.mk (PyData.keyHash P (Str.ofString "__firstlineno__")) (Value.str (Str.ofString "__firstlineno__") 225) (Value.int 18 224), DictEntry.mk (PyData.keyHash P (Str.ofString "__slots__")) (Value.str (Str.ofString "__slots__") 229) (Value.ref 36), DictEntry.mk (PyData.keyHash P (Str.ofString "__init__")) (Value.str (Str.ofString "__init__") 237) (Value.ref 43), DictEntry.mk (PyData.keyHash P (Str.ofString "__static_attributes__")) (Value.str (Str.ofString "__static_attributes__") 241) (Value.ref 44), DictEntry.mk (PyData.keyHash P (Str.ofString "node")) (Value.str (Str.ofString "node") 243) (Value.ref 48), DictEntry.mk (PyData.keyHash P (Str.ofString "npredecessors")) (Value.str (Str.ofString "npredecessors") 245) (Value.ref 49), DictEntry.mk (PyData.keyHash P (Str.ofString "successors")) (Value.str (Str.ofString "successors") 247) (Value.ref 50), DictEntry.mk (PyData.keyHash P (Str.ofString "__doc__")) (Value.str (Str.ofString "__doc__") 248) Value.none] 5) #[]) ::
(nat_lit 47, Obj.mk (Value.type "type") none (Data.cls (ClassData.mk (Str.ofString "_NodeInfo") [Value.type "object"] [Value.ref 47, Value.type "object"] 46 (Str.ofString "_NodeInfo") false [Str.ofString "node", Str.ofString "npredecessors", Str.ofString "successors"] [] false none false)) #[none, none, some (Value.str (Str.ofString "_NodeInfo") 214), some (Value.str (Str.ofString "_NodeInfo") 222), some (Value.builtin "object.__new__"), some (Value.bool false)]) ::
(nat_lit 48, Obj.mk (Value.type "member_descriptor") none (Data.fields #[Value.str (Str.ofString "node") 242, Value.ref 47, Value.builtin "proto.slot", Value.builtin "proto.slot#set", Value.int 2 0]) #[]) ::
(nat_lit 49, Obj.mk (Value.type "member_descriptor") none (Data.fields #[Value.str (Str.ofString "npredecessors") 244, Value.ref 47, Value.builtin "proto.slot", Value.builtin "proto.slot#set", Value.int 1 0]) #[]) ::
(nat_lit 50, Obj.mk (Value.type "member_descriptor") none (Data.fields #[Value.str (Str.ofString "successors") 246, Value.ref 47, Value.builtin "proto.slot", Value.builtin "proto.slot#set", Value.int 0 0]) #[]) ::
(nat_lit 53, Obj.mk (Value.type "tuple") none (Data.seq #[Value.type "ValueError"]) #[]) ::
(nat_lit 60, Obj.mk (Value.type "tuple") none (Data.seq #[]) #[]) ::
(nat_lit 61, Obj.mk (Value.type "dict") none (Data.dict #[DictEntry.mk (PyData.keyHash P (Str.ofString "__module__")) (Value.str (Str.ofString "__module__") 258) (Value.str (Str.ofString "cpy313.graphlib") 206), DictEntry.mk (PyData.keyHash P (Str.ofString "__firstlineno__")) (Value.str (Str.ofString "__firstlineno__") 262) (Value.int 25 261), DictEntry.mk (PyData.keyHash P (Str.ofString "__static_attributes__")) (Value.str (Str.ofString "__static_attributes__") 263) (Value.ref 60), DictEntry.mk (PyData.keyHash P (Str.ofString "__weakref__")) (Value.str (Str.ofString "__weakref__") 265) (Value.ref 63), DictEntry.mk (PyData.keyHash P (Str.ofString "__doc__")) (Value.str (Str.ofString "__doc__") 266) Value.none] 3) #[]) ::
(nat_lit 62, Obj.mk (Value.type "type") none (Data.cls (ClassData.mk (Str.ofString "CycleError") [Value.type "ValueError"] [Value.ref 62, Value.type "ValueError", Value.type "Exception", Value.type "BaseException", Value.type "object"] 61 (Str.ofString "CycleError") true [] [] false none false)) #[some (Value.ref 53), none, some (Value.str (Str.ofString "CycleError") 251), some (Value.str (Str.ofString "CycleError") 259), some (Value.builtin "ValueError.__new__"), some (Value.bool true)]) ::
(nat_lit 63, Obj.mk (Value.type "getset_descriptor") none (Data.fields #[Value.str (Str.ofString "__weakref__") 264, Value.ref 62, Value.builtin "ExceptionGroup.__weakref__", Value.none]) #[]) ::
(nat_lit 73, Obj.mk (Value.type "tuple") none (Data.seq #[Value.none]) #[]) ::
(nat_lit 74, Obj.mk (Value.type "tuple") none (Data.seq #[]) #[]) ::
(nat_lit 76, Obj.mk (Value.type "tuple") none (Data.seq #[Value.str (Str.ofString "self") 284, Value.str (Str.ofString "graph") 285, Value.str (Str.ofString "node") 286, Value.str (Str.ofString "predecessors") 287]) #[]) ::
(nat_lit 77, Obj.mk (Value.type "tuple") none (Data.seq #[]) #[]) ::
(nat_lit 79, Obj.mk (Value.type "code") none (Data.fields #[Value.str (Str.ofString "__init__") 281, Value.str (Str.ofString "TopologicalSorter.__init__") 282, Value.str (Str.ofString "/claim/cut.py") 283, Value.int 29 0, Value.int 2 0, Value.int 0 0, Value.int 0 0, Value.int 3 0, Value.ref 74, Value.bool true, Value.int 181 0, Value.ref 75, Value.none, Value.ref 76, Value.ref 77, Value.ref 78, Value.int 288 0, Value.int 29 0, Value.str (Str.ofString "/claim/cut.py") 289]) #[]) ::
(nat_lit 80, Obj.mk (Value.type "function") none (Data.func (FuncData.mk (Str.ofString "__init__") (Str.ofString "TopologicalSorter.__init__") ?a80 (FuncBody.stmts ?b80) ?s80 3 [] (Value.ref 73) Value.none Value.none (Value.str (Str.ofString "cpy313.graphlib") 206) none (Value.ref 79) Value.none 0)) #[]) ::
(nat_lit 81, Obj.mk (Value.type "tuple") none (Data.seq #[]) #[]) ::
(nat_lit 83, Obj.mk (Value.type "tuple") none (Data.seq #[Value.str (Str.ofString "self") 294, Value.str (Str.ofString "node") 295, Value.str (Str.ofString "result") 296]) #[]) ::
(nat_lit 84, Obj.mk (Value.type "tuple") none (Data.seq #[]) #[]) ::
(nat_lit 86, Obj.mk (Value.type "code") none (Data.fields #[Value.str (Str.ofString "_get_nodeinfo") 291, Value.str (Str.ofString "TopologicalSorter._get_nodeinfo") 292, Value.str (Str.ofString "/claim/cut.py") 293, Value.int 38 0, Value.int 2 0, Value.int 0 0, Value.int 0 0, Value.int 3 0, Value.ref 81, Value.bool true, Value.int 181 0, Value.ref 82, Value.none, Value.ref 83, Value.ref 84, Value.ref 85, Value.int 297 0, Value.int 38 0, Value.str (Str.ofString "/claim/cut.py") 298]) #[]) ::
(nat_lit 87, Obj.mk (Value.type "function") none (Data.func (FuncData.mk (Str.ofString "_get_nodeinfo") (Str.ofString "TopologicalSorter._get_nodeinfo") ?a87 (FuncBody.stmts ?b87) ?s87 3 [] Value.none Value.none Value.none (Value.str (Str.ofString "cpy313.graphlib") 206) none (Value.ref 86) Value.none 0)) #[]) ::
(nat_lit 88, Obj.mk (Value.type "tuple") none (Data.seq #[]) #[]) ::
(nat_lit 90, Obj.mk (Value.type "tuple") none (Data.seq #[Value.str (Str.ofString "self") 303, Value.str (Str.ofString "node") 304, Value.str (Str.ofString "predecessors") 305, Value.str (Str.ofString "nodeinfo") 306, Value.str (Str.ofString "pred") 307, Value.str (Str.ofString "pred_info") 308]) #[]) ::
(nat_lit 91, Obj.mk (Value.type "tuple") none (Data.seq #[]) #[]) ::
(nat_lit 93, Obj.mk (Value.type "code") none (Data.fields #[Value.str (Str.ofString "add") 300, Value.str (Str.ofString "TopologicalSorter.add") 301, Value.str (Str.ofString "/claim/cut.py") 302, Value.int 43 0, Value.int 2 0, Value.int 0 0, Value.int 0 0, Value.int 7 0, Value.ref 88, Value.bool true, Value.int 181 0, Value.ref 89, Value.none, Value.ref 90, Value.ref 91, Value.ref 92, Value.int 309 0, Value.int 43 0, Value.str (Str.ofString "/claim/cut.py") 310]) #[]) ::
(nat_lit 94, Obj.mk (Value.type "function") none (Data.func (FuncData.mk (Str.ofString "add") (Str.ofString "TopologicalSorter.add") ?a94 (FuncBody.stmts ?b94) ?s94 3 [] Value.none Value.none Value.none (Value.str (Str.ofString "cpy313.graphlib") 206) none (Value.ref 93) Value.none 0)) #[]) ::
(nat_lit 95, Obj.mk (Value.type "tuple") none (Data.seq #[]) #[]) ::
(nat_lit 98, Obj.mk (Value.type "code") none (Data.fields #[Value.str (Str.ofString "prepare") 312, Value.str (Str.ofString "TopologicalSorter.prepare") 313, Value.str (Str.ofString "/claim/cut.py") 314, Value.int 52 0, Value.int 1 0, Value.int 0 0, Value.int 0 0, Value.int 3 0, Value.ref 95, Value.bool true, Value.int 181 0, Value.ref 96, Value.none, Value.none, Value.none, Value.ref 97, Value.int 315 0, Value.int 52 0, Value.str (Str.ofString "/claim/cut.py") 316]) #[]) ::
(nat_lit 99, Obj.mk (Value.type "function") none (Data.func (FuncData.mk (Str.ofString "prepare") (Str.ofString "TopologicalSorter.prepare") ?a99 (FuncBody.stmts ?b99) ?s99 3 [] Value.none Value.none Value.none (Value.str (Str.ofString "cpy313.graphlib") 206) none (Value.ref 98) Value.none 0)) #[]) ::
(nat_lit 100, Obj.mk (Value.type "tuple") none (Data.seq #[]) #[]) ::
(nat_lit 102, Obj.mk (Value.type "tuple") none (Data.seq #[Value.str (Str.ofString "self") 321, Value.str (Str.ofString "result") 322, Value.str (Str.ofString "n2i") 323, Value.str (Str.ofString "node") 324]) #[]) ::
(nat_lit 103, Obj.mk (Value.type "tuple") none (Data.seq #[]) #[]) ::
(nat_lit 105, Obj.mk (Value.type "code") none (Data.fields #[Value.str (Str.ofString "get_ready") 318, Value.str (Str.ofString "TopologicalSorter.get_ready") 319, Value.str (Str.ofString "/claim/cut.py") 320, Value.int 60 0, Value.int 1 0, Value.int 0 0, Value.int 0 0, Value.int 3 0, Value.ref 100, Value.bool true, Value.int 181 0, Value.ref 101, Value.none, Value.ref 102, Value.ref 103, Value.ref 104, Value.int 325 0, Value.int 60 0, Value.str (Str.ofString "/claim/cut.py") 326]) #[]) ::
(nat_lit 106, Obj.mk (Value.type "function") none (Data.func (FuncData.mk (Str.ofString "get_ready") (Str.ofString "TopologicalSorter.get_ready") ?a106 (FuncBody.stmts ?b106) ?s106 3 [] Value.none Value.none Value.none (Value.str (Str.ofString "cpy313.graphlib") 206) none (Value.ref 105) Value.none 0)) #[]) ::
(nat_lit 107, Obj.mk (Value.type "tuple") none (Data.seq #[]) #[]) ::
(nat_lit 109, Obj.mk (Value.type "tuple") none (Data.seq #[Value.str (Str.ofString "self") 331]) #[]) ::
(nat_lit 110, Obj.mk (Value.type "tuple") none (Data.seq #[]) #[]) ::
(nat_lit 112, Obj.mk (Value.type "code") none (Data.fields #[Value.str (Str.ofString "is_active") 328, Value.str (Str.ofString "TopologicalSorter.is_active") 329, Value.str (Str.ofString "/claim/cut.py") 330, Value.int 71 0, Value.int 1 0, Value.int 0 0, Value.int 0 0, Value.int 3 0, Value.ref 107, Value.bool true, Value.int 181 0, Value.ref 108, Value.none, Value.ref 109, Value.ref 110, Value.ref 111, Value.int 332 0, Value.int 71 0, Value.str (Str.ofString "/claim/cut.py") 333]) #[]) ::
(nat_lit 113, Obj.mk (Value.type "function") none (Data.func (FuncData.mk (Str.ofString "is_active") (Str.ofString "TopologicalSorter.is_active") ?a113 (FuncBody.stmts ?b113) ?s113 3 [] Value.none Value.none Value.none (Value.str (Str.ofString "cpy313.graphlib") 206) none (Value.ref 112) Value.none 0)) #[]) ::
(nat_lit 114, Obj.mk (Value.type "tuple") none (Data.seq #[]) #[]) ::
(nat_lit 116, Obj.mk (Value.type "tuple") none (Data.seq #[Value.str (Str.ofString "self") 338]) #[]) ::
(nat_lit 117, Obj.mk (Value.type "tuple") none (Data.seq #[]) #[]) ::
(nat_lit 119, Obj.mk (Value.type "code") none (Data.fields #[Value.str (Str.ofString "__bool__") 335, Value.str (Str.ofString "TopologicalSorter.__bool__") 336, Value.str (Str.ofString "/claim/cut.py") 337, Value.int 76 0, Value.int 1 0, Value.int 0 0, Value.int 0 0, Value.int 3 0, Value.ref 114, Value.bool true, Value.int 181 0, Value.ref 115, Value.none, Value.ref 116, Value.ref 117, Value.ref 118, Value.int 339 0, Value.int 76 0, Value.str (Str.ofString "/claim/cut.py") 340]) #[]) ::
(nat_lit 120, Obj.mk (Value.type "function") none (Data.func (FuncData.mk (Str.ofString "__bool__") (Str.ofString "TopologicalSorter.__bool__") ?a120 (FuncBody.stmts ?b120) ?s120 3 [] Value.none Value.none Value.none (Value.str (Str.ofString "cpy313.graphlib") 206) none (Value.ref 119) Value.none 0)) #[]) ::
(nat_lit 121, Obj.mk (Value.type "tuple") none (Data.seq #[]) #[]) ::
(nat_lit 123, Obj.mk (Value.type "tuple") none (Data.seq #[Value.str (Str.ofString "self") 345, Value.str (Str.ofString "nodes") 346, Value.str (Str.ofString "n2i") 347, Value.str (Str.ofString "node") 348, Value.str (Str.ofString "nodeinfo") 349, Value.str (Str.ofString "stat") 350, Value.str (Str.ofString "successor") 351, Value.str (Str.ofString "successor_info") 352]) #[]) ::
(nat_lit 124, Obj.mk (Value.type "tuple") none (Data.seq #[]) #[]) ::
(nat_lit 126, Obj.mk (Value.type "code") none (Data.fields #[Value.str (Str.ofString "done") 342, Value.str (Str.ofString "TopologicalSorter.done") 343, Value.str (Str.ofString "/claim/cut.py") 344, Value.int 79 0, Value.int 1 0, Value.int 0 0, Value.int 0 0, Value.int 7 0, Value.ref 121, Value.bool true, Value.int 181 0, Value.ref 122, Value.none, Value.ref 123, Value.ref 124, Value.ref 125, Value.int 353 0, Value.int 79 0, Value.str (Str.ofString "/claim/cut.py") 354]) #[]) ::
(nat_lit 127, Obj.mk (Value.type "function") none (Data.func (FuncData.mk (Str.ofString "done") (Str.ofString "TopologicalSorter.done") ?a127 (FuncBody.stmts ?b127) ?s127 3 [] Value.none Value.none Value.none (Value.str (Str.ofString "cpy313.graphlib") 206) none (Value.ref 126) Value.none 0)) #[]) ::
(nat_lit 128, Obj.mk (Value.type "tuple") none (Data.seq #[]) #[]) ::
(nat_lit 130, Obj.mk (Value.type "tuple") none (Data.seq #[Value.str (Str.ofString "self") 359, Value.str (Str.ofString "n2i") 360, Value.str (Str.ofString "stack") 361, Value.str (Str.ofString "itstack") 362, Value.str (Str.ofString "seen") 363, Value.str (Str.ofString "node2stacki") 364, Value.str (Str.ofString "node") 365]) #[]) ::
(nat_lit 131, Obj.mk (Value.type "tuple") none (Data.seq #[]) #[]) ::
(nat_lit 133, Obj.mk (Value.type "code") none (Data.fields #[Value.str (Str.ofString "_find_cycle") 356, Value.str (Str.ofString "TopologicalSorter._find_cycle") 357, Value.str (Str.ofString "/claim/cut.py") 358, Value.int 102 0, Value.int 1 0, Value.int 0 0, Value.int 0 0, Value.int 3 0, Value.ref 128, Value.bool true, Value.int 181 0, Value.ref 129, Value.none, Value.ref 130, Value.ref 131, Value.ref 132, Value.int 366 0, Value.int 102 0, Value.str (Str.ofString "/claim/cut.py") 367]) #[]) ::
(nat_lit 134, Obj.mk (Value.type "function") none (Data.func (FuncData.mk (Str.ofString "_find_cycle") (Str.ofString "TopologicalSorter._find_cycle") ?a134 (FuncBody.stmts ?b134) ?s134 3 [] Value.none Value.none Value.none (Value.str (Str.ofString "cpy313.graphlib") 206) none (Value.ref 133) Value.none 0)) #[]) ::
(nat_lit 135, Obj.mk (Value.type "tuple") none (Data.seq #[]) #[]) ::
(nat_lit 137, Obj.mk (Value.type "tuple") none (Data.seq #[Value.str (Str.ofString "self") 372]) #[]) ::
(nat_lit 138, Obj.mk (Value.type "tuple") none (Data.seq #[]) #[]) ::
(nat_lit 140, Obj.mk (Value.type "code") none (Data.fields #[Value.str (Str.ofString "static_order") 369, Value.str (Str.ofString "TopologicalSorter.static_order") 370, Value.str (Str.ofString "/claim/cut.py") 371, Value.int 131 0, Value.int 1 0, Value.int 0 0, Value.int 0 0, Value.int 3 0, Value.ref 135, Value.bool true, Value.int 181 0, Value.ref 136, Value.none, Value.ref 137, Value.ref 138, Value.ref 139, Value.int 373 0, Value.int 131 0, Value.str (Str.ofString "/claim/cut.py") 374]) #[]) ::
(nat_lit 141, Obj.mk (Value.type "function") none (Data.func (FuncData.mk (Str.ofString "static_order") (Str.ofString "TopologicalSorter.static_order") ?a141 (FuncBody.stmts ?b141) ?s141 3 [] Value.none Value.none Value.none (Value.str (Str.ofString "cpy313.graphlib") 206) none (Value.ref 140) Value.none 0)) #[]) ::
(nat_lit 142, Obj.mk (Value.type "tuple") none (Data.seq #[Value.str (Str.ofString "_nfinished") 376, Value.str (Str.ofString "_node2info") 377, Value.str (Str.ofString "_npassedout") 378, Value.str (Str.ofString "_ready_nodes") 379]) #[]) ::
(nat_lit 143, Obj.mk (Value.type "dict") none (Data.dict #[DictEntry.mk (PyData.keyHash P (Str.ofString "__module__")) (Value.str (Str.ofString "__module__") 276) (Value.str (Str.ofString "cpy313.graphlib") 206), DictEntry.mk (PyData.keyHash P (Str.ofString "__firstlineno__")) (Value.str (Str.ofString "__firstlineno__") 280) (Value.int 27 279), DictEntry.mk (PyData.keyHash P (Str.ofString "__init__")) (Value.str (Str.ofString "__init__") 290) (Value.ref 80), DictEntry.mk (PyData.keyHash P (Str.ofString "_get_nodeinfo")) (Value.str (Str.ofString "_get_nodeinfo") 299) (Value.ref 87), DictEntry.mk (PyData.keyHash P (Str.ofString "add")) (Value.str (Str.ofString "add") 311) (Value.ref 94), DictEntry.mk (PyData.keyHash P (Str.ofString "prepare")) (Value.str (Str.ofString "prepare") 317) (Value.ref 99), DictEntry.mk (PyData.keyHash P (Str.ofString "get_ready")) (Value.str (Str.ofString "get_ready") 327) (Value.ref 106), DictEntry.mk (PyData.keyHash P (Str.ofString "is_active")) (Value.str (Str.ofString "is_active") 334) (Value.ref 113), DictEntry.mk (PyData.keyHash P (Str.ofString "__bool__")) (Value.str (Str.ofString "__bool__") 341) (Value.ref 120), DictEntry.mk (PyData.keyHash P (Str.ofString "done")) (Value.str (Str.ofString "done") 355) (Value.ref 127), DictEntry.mk (PyData.keyHash P (Str.ofString "_find_cycle")) (Value.str (Str.ofString "_find_cycle") 368) (Value.ref 134), DictEntry.mk (PyData.keyHash P (Str.ofString "static_order")) (Value.str (Str.ofString "static_order") 375) (Value.ref 141), DictEntry.mk (PyData.keyHash P (Str.ofString "__static_attributes__")) (Value.str (Str.ofString "__static_attributes__") 380) (Value.ref 142), DictEntry.mk (PyData.keyHash P (Str.ofString "__dict__")) (Value.str (Str.ofString "__dict__") 382) (Value.ref 145), DictEntry.mk (PyData.keyHash P (Str.ofString "__weakref__")) (Value.str (Str.ofString "__weakref__") 384) (Value.ref 146), DictEntry.mk (PyData.keyHash P (Str.ofString "__doc__")) (Value.str (Str.ofString "__doc__") 385) Value.none] 4) #[]) ::
(nat_lit 144, Obj.mk (Value.type "type") none (Data.cls (ClassData.mk (Str.ofString "TopologicalSorter") [Value.type "object"] [Value.ref 144, Value.type "object"] 143 (Str.ofString "TopologicalSorter") true [] [] false none false)) #[none, none, some (Value.str (Str.ofString "TopologicalSorter") 269), some (Value.str (Str.ofString "TopologicalSorter") 277), some (Value.builtin "object.__new__"), some (Value.bool true)]) ::
(nat_lit 145, Obj.mk (Value.type "getset_descriptor") none (Data.fields #[Value.str (Str.ofString "__dict__") 381, Value.ref 144, Value.builtin "function.__dict__", Value.builtin "function.__dict__#set"]) #[]) ::
(nat_lit 146, Obj.mk (Value.type "getset_descriptor") none (Data.fields #[Value.str (Str.ofString "__weakref__") 383, Value.ref 144, Value.builtin "ExceptionGroup.__weakref__", Value.none]) #[]) ::
(nat_lit 149, Obj.mk (Value.type "tuple") none (Data.seq #[]) #[]) ::
(nat_lit 151, Obj.mk (Value.type "tuple") none (Data.seq #[Value.str (Str.ofString "expected") 393, Value.str (Str.ofString "actual") 394, Value.str (Str.ofString "i") 395, Value.str (Str.ofString "j") 396, Value.str (Str.ofString "missing") 397, Value.str (Str.ofString "unexpected") 398, Value.str (Str.ofString "e") 399, Value.str (Str.ofString "a") 400]) #[]) ::
(nat_lit 152, Obj.mk (Value.type "tuple") none (Data.seq #[]) #[]) ::
(nat_lit 154, Obj.mk (Value.type "code") none (Data.fields #[Value.str (Str.ofString "sorted_list_difference") 390, Value.str (Str.ofString "sorted_list_difference") 391, Value.str (Str.ofString "/claim/cut.py") 392, Value.int 134 0, Value.int 2 0, Value.int 0 0, Value.int 0 0, Value.int 3 0, Value.ref 149, Value.bool true, Value.int 181 0, Value.ref 150, Value.none, Value.ref 151, Value.ref 152, Value.ref 153, Value.int 401 0, Value.int 134 0, Value.str (Str.ofString "/claim/cut.py") 402]) #[]) ::
(nat_lit 155, Obj.mk (Value.type "function") none (Data.func (FuncData.mk (Str.ofString "sorted_list_difference") (Str.ofString "sorted_list_difference") ?a155 (FuncBody.stmts ?b155) ?s155 3 [] Value.none Value.none Value.none (Value.str (Str.ofString "cpy313.unittest.util") 388) none (Value.ref 154) Value.none 0)) #[]) ::
(nat_lit 156, Obj.mk (Value.type "tuple") none (Data.seq #[]) #[]) ::
(nat_lit 158, Obj.mk (Value.type "tuple") none (Data.seq #[Value.str (Str.ofString "script") 409, Value.str (Str.ofString "cells") 410, Value.str (Str.ofString "place") 411]) #[]) ::
(nat_lit 159, Obj.mk (Value.type "tuple") none (Data.seq #[]) #[]) ::
(nat_lit 161, Obj.mk (Value.type "code") none (Data.fields #[Value.str (Str.ofString "_law_cells") 406, Value.str (Str.ofString "_law_cells") 407, Value.str (Str.ofString "/claim/cut.py") 408, Value.int 167 0, Value.int 1 0, Value.int 0 0, Value.int 0 0, Value.int 3 0, Value.ref 156, Value.bool true, Value.int 181 0, Value.ref 157, Value.none, Value.ref 158, Value.ref 159, Value.ref 160, Value.int 412 0, Value.int 167 0, Value.str (Str.ofString "/claim/cut.py") 413]) #[]) ::
(nat_lit 162, Obj.mk (Value.type "function") none (Data.func (FuncData.mk (Str.ofString "_law_cells") (Str.ofString "_law_cells") ?a162 (FuncBody.stmts ?b162) ?s162 3 [] Value.none Value.none Value.none (Value.str (Str.ofString "law_oc0189_01") 404) none (Value.ref 161) Value.none 0)) #[]) ::
(nat_lit 163, Obj.mk (Value.type "tuple") none (Data.seq #[]) #[]) ::
(nat_lit 165, Obj.mk (Value.type "tuple") none (Data.seq #[Value.str (Str.ofString "one") 418, Value.str (Str.ofString "two") 419, Value.str (Str.ofString "whole") 420, Value.str (Str.ofString "k") 421]) #[]) ::
(nat_lit 166, Obj.mk (Value.type "tuple") none (Data.seq #[]) #[]) ::
(nat_lit 168, Obj.mk (Value.type "code") none (Data.fields #[Value.str (Str.ofString "_law_times") 415, Value.str (Str.ofString "_law_times") 416, Value.str (Str.ofString "/claim/cut.py") 417, Value.int 172 0, Value.int 2 0, Value.int 0 0, Value.int 0 0, Value.int 3 0, Value.ref 163, Value.bool true, Value.int 181 0, Value.ref 164, Value.none, Value.ref 165, Value.ref 166, Value.ref 167, Value.int 422 0, Value.int 172 0, Value.str (Str.ofString "/claim/cut.py") 423]) #[]) ::
(nat_lit 169, Obj.mk (Value.type "function") none (Data.func (FuncData.mk (Str.ofString "_law_times") (Str.ofString "_law_times") ?a169 (FuncBody.stmts ?b169) ?s169 3 [] Value.none Value.none Value.none (Value.str (Str.ofString "law_oc0189_01") 404) none (Value.ref 168) Value.none 0)) #[]) ::
(nat_lit 170, Obj.mk (Value.type "tuple") none (Data.seq #[]) #[]) ::
(nat_lit 172, Obj.mk (Value.type "tuple") none (Data.seq #[Value.str (Str.ofString "powers") 428, Value.str (Str.ofString "whole") 429, Value.str (Str.ofString "k") 430, Value.str (Str.ofString "turn") 431, Value.str (Str.ofString "text") 432]) #[]) ::
(nat_lit 173, Obj.mk (Value.type "tuple") none (Data.seq #[]) #[]) ::
(nat_lit 175, Obj.mk (Value.type "code") none (Data.fields #[Value.str (Str.ofString "_law_text") 425, Value.str (Str.ofString "_law_text") 426, Value.str (Str.ofString "/claim/cut.py") 427, Value.int 178 0, Value.int 1 0, Value.int 0 0, Value.int 0 0, Value.int 3 0, Value.ref 170, Value.bool true, Value.int 181 0, Value.ref 171, Value.none, Value.ref 172, Value.ref 173, Value.ref 174, Value.int 433 0, Value.int 178 0, Value.str (Str.ofString "/claim/cut.py") 434]) #[]) ::
(nat_lit 176, Obj.mk (Value.type "function") none (Data.func (FuncData.mk (Str.ofString "_law_text") (Str.ofString "_law_text") ?a176 (FuncBody.stmts ?b176) ?s176 3 [] Value.none Value.none Value.none (Value.str (Str.ofString "law_oc0189_01") 404) none (Value.ref 175) Value.none 0)) #[]) ::
(nat_lit 177, Obj.mk (Value.type "tuple") none (Data.seq #[]) #[]) ::
(nat_lit 179, Obj.mk (Value.type "tuple") none (Data.seq #[Value.str (Str.ofString "row") 439]) #[]) ::
(nat_lit 180, Obj.mk (Value.type "tuple") none (Data.seq #[]) #[]) ::
(nat_lit 182, Obj.mk (Value.type "code") none (Data.fields #[Value.str (Str.ofString "_law_bare") 436, Value.str (Str.ofString "_law_bare") 437, Value.str (Str.ofString "/claim/cut.py") 438, Value.int 188 0, Value.int 1 0, Value.int 0 0, Value.int 0 0, Value.int 3 0, Value.ref 177, Value.bool true, Value.int 181 0, Value.ref 178, Value.none, Value.ref 179, Value.ref 180, Value.ref 181, Value.int 440 0, Value.int 188 0, Value.str (Str.ofString "/claim/cut.py") 441]) #[]) ::
(nat_lit 183, Obj.mk (Value.type "function") none (Data.func (FuncData.mk (Str.ofString "_law_bare") (Str.ofString "_law_bare") ?a183 (FuncBody.stmts ?b183) ?s183 3 [] Value.none Value.none Value.none (Value.str (Str.ofString "law_oc0189_01") 404) none (Value.ref 182) Value.none 0)) #[]) ::
(nat_lit 184, Obj.mk (Value.type "tuple") none (Data.seq #[]) #[]) ::
(nat_lit 186, Obj.mk (Value.type "tuple") none (Data.seq #[Value.str (Str.ofString "row") 446, Value.str (Str.ofString "ahead") 447, Value.str (Str.ofString "behind") 448, Value.str (Str.ofString "amount") 449, Value.str (Str.ofString "front") 450, Value.str (Str.ofString "back") 451]) #[]) ::
(nat_lit 187, Obj.mk (Value.type "tuple") none (Data.seq #[]) #[]) ::
(nat_lit 189, Obj.mk (Value.type "code") none (Data.fields #[Value.str (Str.ofString "_law_blanks_go") 443, Value.str (Str.ofString "_law_blanks_go") 444, Value.str (Str.ofString "/claim/cut.py") 445, Value.int 193 0, Value.int 3 0, Value.int 0 0, Value.int 0 0, Value.int 3 0, Value.ref 184, Value.bool true, Value.int 181 0, Value.ref 185, Value.none, Value.ref 186, Value.ref 187, Value.ref 188, Value.int 452 0, Value.int 193 0, Value.str (Str.ofString "/claim/cut.py") 453]) #[]) ::
(nat_lit 190, Obj.mk (Value.type "function") none (Data.func (FuncData.mk (Str.ofString "_law_blanks_go") (Str.ofString "_law_blanks_go") ?a190 (FuncBody.stmts ?b190) ?s190 3 [] Value.none Value.none Value.none (Value.str (Str.ofString "law_oc0189_01") 404) none (Value.ref 189) Value.none 0)) #[]) ::
(nat_lit 191, Obj.mk (Value.type "tuple") none (Data.seq #[]) #[]) ::
(nat_lit 194, Obj.mk (Value.type "code") none (Data.fields #[Value.str (Str.ofString "_law_sum") 455, Value.str (Str.ofString "_law_sum") 456, Value.str (Str.ofString "/claim/cut.py") 457, Value.int 200 0, Value.int 3 0, Value.int 0 0, Value.int 0 0, Value.int 3 0, Value.ref 191, Value.bool true, Value.int 181 0, Value.ref 192, Value.none, Value.none, Value.none, Value.ref 193, Value.int 458 0, Value.int 200 0, Value.str (Str.ofString "/claim/cut.py") 459]) #[]) ::
(nat_lit 195, Obj.mk (Value.type "function") none (Data.func (FuncData.mk (Str.ofString "_law_sum") (Str.ofString "_law_sum") ?a195 (FuncBody.stmts ?b195) ?s195 3 [] Value.none Value.none Value.none (Value.str (Str.ofString "law_oc0189_01") 404) none (Value.ref 194) Value.none 0)) #[]) ::
(nat_lit 196, Obj.mk (Value.type "tuple") none (Data.seq #[]) #[]) ::
(nat_lit 198, Obj.mk (Value.type "tuple") none (Data.seq #[Value.str (Str.ofString "one") 464, Value.str (Str.ofString "two") 465, Value.str (Str.ofString "back") 466, Value.str (Str.ofString "turn") 467, Value.str (Str.ofString "rest") 468]) #[]) ::
(nat_lit 199, Obj.mk (Value.type "tuple") none (Data.seq #[]) #[]) ::
(nat_lit 201, Obj.mk (Value.type "code") none (Data.fields #[Value.str (Str.ofString "_law_common") 461, Value.str (Str.ofString "_law_common") 462, Value.str (Str.ofString "/claim/cut.py") 463, Value.int 207 0, Value.int 3 0, Value.int 0 0, Value.int 0 0, Value.int 3 0, Value.ref 196, Value.bool true, Value.int 181 0, Value.ref 197, Value.none, Value.ref 198, Value.ref 199, Value.ref 200, Value.int 469 0, Value.int 207 0, Value.str (Str.ofString "/claim/cut.py") 470]) #[]) ::
(nat_lit 202, Obj.mk (Value.type "function") none (Data.func (FuncData.mk (Str.ofString "_law_common") (Str.ofString "_law_common") ?a202 (FuncBody.stmts ?b202) ?s202 3 [] Value.none Value.none Value.none (Value.str (Str.ofString "law_oc0189_01") 404) none (Value.ref 201) Value.none 0)) #[]) ::
(nat_lit 203, Obj.mk (Value.type "tuple") none (Data.seq #[]) #[]) ::
(nat_lit 205, Obj.mk (Value.type "tuple") none (Data.seq #[Value.str (Str.ofString "sorter") 475, Value.str (Str.ofString "nodes") 476, Value.str (Str.ofString "words") 477, Value.str (Str.ofString "node") 478, Value.str (Str.ofString "error") 479]) #[]) ::
(nat_lit 206, Obj.mk (Value.type "tuple") none (Data.seq #[]) #[]) ::
(nat_lit 208, Obj.mk (Value.type "code") none (Data.fields #[Value.str (Str.ofString "_law_words") 472, Value.str (Str.ofString "_law_words") 473, Value.str (Str.ofString "/claim/cut.py") 474, Value.int 217 0, Value.int 2 0, Value.int 0 0, Value.int 0 0, Value.int 3 0, Value.ref 203, Value.bool true, Value.int 181 0, Value.ref 204, Value.none, Value.ref 205, Value.ref 206, Value.ref 207, Value.int 480 0, Value.int 217 0, Value.str (Str.ofString "/claim/cut.py") 481]) #[]) ::
(nat_lit 209, Obj.mk (Value.type "function") none (Data.func (FuncData.mk (Str.ofString "_law_words") (Str.ofString "_law_words") ?a209 (FuncBody.stmts ?b209) ?s209 3 [] Value.none Value.none Value.none (Value.str (Str.ofString "law_oc0189_01") 404) none (Value.ref 208) Value.none 0)) #[]) ::
(nat_lit 210, Obj.mk (Value.type "tuple") none (Data.seq #[]) #[]) ::
(nat_lit 213, Obj.mk (Value.type "code") none (Data.fields #[Value.str (Str.ofString "_law_run") 483, Value.str (Str.ofString "_law_run") 484, Value.str (Str.ofString "/claim/cut.py") 485, Value.int 227 0, Value.int 2 0, Value.int 0 0, Value.int 0 0, Value.int 3 0, Value.ref 210, Value.bool true, Value.int 181 0, Value.ref 211, Value.none, Value.none, Value.none, Value.ref 212, Value.int 486 0, Value.int 227 0, Value.str (Str.ofString "/claim/cut.py") 487]) #[]) ::
(nat_lit 214, Obj.mk (Value.type "function") none (Data.func (FuncData.mk (Str.ofString "_law_run") (Str.ofString "_law_run") ?a214 (FuncBody.stmts ?b214) ?s214 3 [] Value.none Value.none Value.none (Value.str (Str.ofString "law_oc0189_01") 404) none (Value.ref 213) Value.none 0)) #[]) ::
(nat_lit 215, Obj.mk (Value.type "tuple") none (Data.seq #[]) #[]) ::
(nat_lit 218, Obj.mk (Value.type "code") none (Data.fields #[Value.str (Str.ofString "_law_parts") 489, Value.str (Str.ofString "_law_parts") 490, Value.str (Str.ofString "/claim/cut.py") 491, Value.int 247 0, Value.int 3 0, Value.int 0 0, Value.int 0 0, Value.int 3 0, Value.ref 215, Value.bool true, Value.int 181 0, Value.ref 216, Value.none, Value.none, Value.none, Value.ref 217, Value.int 492 0, Value.int 247 0, Value.str (Str.ofString "/claim/cut.py") 493]) #[]) ::
(nat_lit 219, Obj.mk (Value.type "function") none (Data.func (FuncData.mk (Str.ofString "_law_parts") (Str.ofString "_law_parts") ?a219 (FuncBody.stmts ?b219) ?s219 3 [] Value.none Value.none Value.none (Value.str (Str.ofString "law_oc0189_01") 404) none (Value.ref 218) Value.none 0)) #[]) ::
(nat_lit 220, Obj.mk (Value.type "tuple") none (Data.seq #[]) #[]) ::
(nat_lit 223, Obj.mk (Value.type "code") none (Data.fields #[Value.str (Str.ofString "_law_ring_is_right") 495, Value.str (Str.ofString "_law_ring_is_right") 496, Value.str (Str.ofString "/claim/cut.py") 497, Value.int 253 0, Value.int 3 0, Value.int 0 0, Value.int 0 0, Value.int 3 0, Value.ref 220, Value.bool true, Value.int 181 0, Value.ref 221, Value.none, Value.none, Value.none, Value.ref 222, Value.int 498 0, Value.int 253 0, Value.str (Str.ofString "/claim/cut.py") 499]) #[]) ::
(nat_lit 224, Obj.mk (Value.type "function") none (Data.func (FuncData.mk (Str.ofString "_law_ring_is_right") (Str.ofString "_law_ring_is_right") ?a224 (FuncBody.stmts ?b224) ?s224 3 [] Value.none Value.none Value.none (Value.str (Str.ofString "law_oc0189_01") 404) none (Value.ref 223) Value.none 0)) #[]) ::
(nat_lit 225, Obj.mk (Value.type "tuple") none (Data.seq #[]) #[]) ::
(nat_lit 228, Obj.mk (Value.type "code") none (Data.fields #[Value.str (Str.ofString "_law_run_is_right") 501, Value.str (Str.ofString "_law_run_is_right") 502, Value.str (Str.ofString "/claim/cut.py") 503, Value.int 262 0, Value.int 3 0, Value.int 0 0, Value.int 0 0, Value.int 3 0, Value.ref 225, Value.bool true, Value.int 181 0, Value.ref 226, Value.none, Value.none, Value.none, Value.ref 227, Value.int 504 0, Value.int 262 0, Value.str (Str.ofString "/claim/cut.py") 505]) #[]) ::
(nat_lit 229, Obj.mk (Value.type "function") none (Data.func (FuncData.mk (Str.ofString "_law_run_is_right") (Str.ofString "_law_run_is_right") ?a229 (FuncBody.stmts ?b229) ?s229 3 [] Value.none Value.none Value.none (Value.str (Str.ofString "law_oc0189_01") 404) none (Value.ref 228) Value.none 0)) #[]) ::
(nat_lit 230, Obj.mk (Value.type "tuple") none (Data.seq #[]) #[]) ::
(nat_lit 233, Obj.mk (Value.type "code") none (Data.fields #[Value.str (Str.ofString "_law_holds") 507, Value.str (Str.ofString "_law_holds") 508, Value.str (Str.ofString "/claim/cut.py") 509, Value.int 282 0, Value.int 1 0, Value.int 0 0, Value.int 0 0, Value.int 3 0, Value.ref 230, Value.bool true, Value.int 181 0, Value.ref 231, Value.none, Value.none, Value.none, Value.ref 232, Value.int 510 0, Value.int 282 0, Value.str (Str.ofString "/claim/cut.py") 511]) #[]) ::
(nat_lit 234, Obj.mk (Value.type "function") none (Data.func (FuncData.mk (Str.ofString "_law_holds") (Str.ofString "_law_holds") ?a234 (FuncBody.stmts ?b234) ?s234 3 [] Value.none Value.none Value.none (Value.str (Str.ofString "law_oc0189_01") 404) none (Value.ref 233) Value.none 0)) #[]) ::
(nat_lit 235, Obj.mk (Value.type "tuple") none (Data.seq #[]) #[]) ::
(nat_lit 237, Obj.mk (Value.type "tuple") none (Data.seq #[Value.str (Str.ofString "script") 516]) #[]) ::
(nat_lit 238, Obj.mk (Value.type "tuple") none (Data.seq #[]) #[]) ::
(nat_lit 240, Obj.mk (Value.type "code") none (Data.fields #[Value.str (Str.ofString "law") 513, Value.str (Str.ofString "law") 514, Value.str (Str.ofString "/claim/cut.py") 515, Value.int 306 0, Value.int 1 0, Value.int 0 0, Value.int 0 0, Value.int 3 0, Value.ref 235, Value.bool true, Value.int 181 0, Value.ref 236, Value.none, Value.ref 237, Value.ref 238, Value.ref 239, Value.int 517 0, Value.int 306 0, Value.str (Str.ofString "/claim/cut.py") 518]) #[]) ::
(nat_lit 241, Obj.mk (Value.type "function") none (Data.func (FuncData.mk (Str.ofString "law") (Str.ofString "law") ?a241 (FuncBody.stmts ?b241) ?s241 3 [] Value.none Value.none Value.none (Value.str (Str.ofString "law_oc0189_01") 404) none (Value.ref 240) Value.none 0)) #[]) :: [] : List (Nat × Obj))
noncomputable def hd.view_39 : Program := view PySem.Challenge.pw_oc0189_01 [0, 2, 4, 5, 6, 7, 8, 10, 12, 13, 14, 15, 16, 17, 18, 19, 20, 21, 22, 23, 24, 25]
abbrev hdAs : List Addr := 2 :: 3 :: 15 :: 17 :: 18 :: 20 :: 21 :: 22 :: 24 :: 25 :: 27 :: 28 :: 36 :: 37 :: 39 :: 40 :: 42 :: 43 :: 44 :: 46 :: 47 :: 48 :: 49 :: 50 :: 53 :: 60 :: 61 :: 62 :: 63 :: 73 :: 74 :: 76 :: 77 :: 79 :: 80 :: 81 :: 83 :: 84 :: 86 :: 87 :: 88 :: 90 :: 91 :: 93 :: 94 :: 95 :: 98 :: 99 :: 100 :: 102 :: 103 :: 105 :: 106 :: 107 :: 109 :: 110 :: 112 :: 113 :: 114 :: 116 :: 117 :: 119 :: 120 :: 121 :: 123 :: 124 :: 126 :: 127 :: 128 :: 130 :: 131 :: 133 :: 134 :: 135 :: 137 :: 138 :: 140 :: 141 :: 142 :: 143 :: 144 :: 145 :: 146 :: 149 :: 151 :: 152 :: 154 :: 155 :: 156 :: 158 :: 159 :: 161 :: 162 :: 163 :: 165 :: 166 :: 168 :: 169 :: 170 :: 172 :: 173 :: 175 :: 176 :: 177 :: 179 :: 180 :: 182 :: 183 :: 184 :: 186 :: 187 :: 189 :: 190 :: 191 :: 194 :: 195 :: 196 :: 198 :: 199 :: 201 :: 202 :: 203 :: 205 :: 206 :: 208 :: 209 :: 210 :: 213 :: 214 :: 215 :: 218 :: 219 :: 220 :: 223 :: 224 :: 225 :: 228 :: 229 :: 230 :: 233 :: 234 :: 235 :: 237 :: 238 :: 240 :: 241 :: []
abbrev rw0 : OpenLaw := PySem.Challenge.rw_oc0189_01
abbrev pw0 : Program := PySem.Challenge.pw_oc0189_01
theorem hdAs_ok (P : Params) : hdAs = (hd.heap_39 P).map (·.1) := by kernel_rfl
noncomputable abbrev hdH : Hook := kmHook hd.heap_39 hdAs hdAs_ok [226]
abbrev hdLoose : List Str := [Str.ofString "_NodeInfo"]
noncomputable abbrev hdXt : Shared → Bool := fun s => xlAt hd.view_39 [] s && recOk (RowW.records rw0.row.toRowW) s
theorem hdRun : ∀ (w : World) (os : OsState), Option.map (fun s => (openSeen hd.view_39 hdLoose (importedModules pw0.main.body) hdXt true s, Hook.obs hdH s)) (topFrom treeTable pw0 w 3220 ⟨boot_heap w.params, ⟨[]⟩, boot_drawn, boot_toks, os⟩) = some (openGood hd.view_39 hdLoose, Hook.val hdH w) := by
  unfold topFrom
  rw [PySem.W.Fast.te14364793385576792824, PySem.W.Fast.te4187177175401517315, PySem.W.Fast.te5923862056798008813, PySem.W.Fast.te14082659384304107361]
  intro w os
  kernel_rfl
theorem left_gen {p q : Program} {loose : List Str} {Xt : Shared → Bool} {α : Type} {Yf : Shared → α} {Ya : World → α} {N : Nat}
    (e : opening p = plainProg p.main.scope.names) (hN : Nat.ble 600 N = true) (f : ∀ s, fenceModules? p s = some s)
    (hr : ∀ (w : World) (os : OsState), Option.map (fun s => (openSeen q loose (importedModules p.main.body) Xt true s, Yf s)) (topFrom treeTable p w N ⟨boot_heap w.params, ⟨[]⟩, boot_drawn, boot_toks, os⟩) = some (openGood q loose, Ya w)) :
    LeftO p q loose Xt Yf Ya N true := by
  intro w
  obtain ⟨⟨h, gs, dr, k, os⟩, e, e'⟩ := Option.map_eq_some_iff.mp (boot_open (p := p) (N := N) e hN f w)
  obtain ⟨rfl, rfl, rfl, rfl⟩ : h = boot_heap w.params ∧ gs = ⟨[]⟩ ∧ dr = boot_drawn ∧ k = boot_toks := by simpa using e'
  unfold openEnds
  rw [e]
  exact hr w os
theorem hdLeft : LeftO pw0 hd.view_39 hdLoose hdXt (Hook.obs hdH) (Hook.val hdH) 3220 true :=
  left_gen (by kernel_rfl) (by decide +kernel) (fun s => by kernel_rfl) hdRun
theorem hdSaid : rw0.wellSaid = true := by
  rw [PySem.W.Fast.te9446332074065402090]
  kernel_rfl
theorem hd {d : DefRec} {kwd : List (Str × PySem.Expr)} (hdef : defOf hd.view_39 rw0.row.name = some (d, kwd)) (hp : rw0.row.prog.theDef rw0.row.name = some (d.params, d.body, d.scope)) (hk : kwWritten? d.params.kwonlyargs d.params.kw_defaults = some kwd)
    (hw : rw0.row.toRowW.promised) (call : WalkO hd.view_39 [Str.ofString "_NodeInfo"] (XL hd.view_39 []) (Hook.says (kmHook hd.heap_39 hdAs hdAs_ok [226])) rw0.row.toRowW d kwd fun f vs => PySem.call f vs) : rw0.Holds :=
  holds_law hdSaid fun said => PySem.W.holds_open (q := hd.view_39) (loose := hdLoose) (Xt := hdXt) (XP := XL hd.view_39 []) (Yf := Hook.obs hdH) (Ya := Hook.val hdH) (YP := Hook.says hdH) (N := 3220) hdLeft (Hook.of hdH) (Hook.keeps hdH)
    (fun s e => xl_of s (Bool.and_eq_true_iff.mp e).1) XL.keeps hdef hp hk (fun s e => recFacts_of (Bool.and_eq_true_iff.mp e).2) (by rfl) said (by decide +kernel) ⟨rfl, rfl, rfl, rfl, rfl, by decide +kernel⟩ hw call
end Mine

set_option compiler.extract_closed false
set_option genInjectivity false
set_option genSizeOfSpec false
set_option genSizeOf false
local macro_rules | `(tactic| omega) => `(tactic| lia)

open PySem PySem.W PyProof.Rows
set_option Elab.async false
set_option linter.unusedVariables false
set_option maxRecDepth 100000
set_option maxHeartbeats 4000000
set_option genInjectivity false
set_option genSizeOfSpec false
namespace Mine
/- chains of one link each: their proofs grow with their length, not with its square -/
inductive Ex2 {A0 A1 : Type} (P : A0 → A1 → Prop) : Prop
  | mk (a0 : A0) (a1 : A1) (h : P a0 a1) : Ex2 P
inductive Ex3 {A0 A1 A2 : Type} (P : A0 → A1 → A2 → Prop) : Prop
  | mk (a0 : A0) (a1 : A1) (a2 : A2) (h : P a0 a1 a2) : Ex3 P
inductive Ex4 {A0 A1 A2 A3 : Type} (P : A0 → A1 → A2 → A3 → Prop) : Prop
  | mk (a0 : A0) (a1 : A1) (a2 : A2) (a3 : A3) (h : P a0 a1 a2 a3) : Ex4 P
inductive Ex5 {A0 A1 A2 A3 A4 : Type} (P : A0 → A1 → A2 → A3 → A4 → Prop) : Prop
  | mk (a0 : A0) (a1 : A1) (a2 : A2) (a3 : A3) (a4 : A4) (h : P a0 a1 a2 a3 a4) : Ex5 P
inductive Ex6 {A0 A1 A2 A3 A4 A5 : Type} (P : A0 → A1 → A2 → A3 → A4 → A5 → Prop) : Prop
  | mk (a0 : A0) (a1 : A1) (a2 : A2) (a3 : A3) (a4 : A4) (a5 : A5) (h : P a0 a1 a2 a3 a4 a5) : Ex6 P
inductive Ex7 {A0 A1 A2 A3 A4 A5 A6 : Type} (P : A0 → A1 → A2 → A3 → A4 → A5 → A6 → Prop) : Prop
  | mk (a0 : A0) (a1 : A1) (a2 : A2) (a3 : A3) (a4 : A4) (a5 : A5) (a6 : A6) (h : P a0 a1 a2 a3 a4 a5 a6) : Ex7 P
inductive Ex8 {A0 A1 A2 A3 A4 A5 A6 A7 : Type} (P : A0 → A1 → A2 → A3 → A4 → A5 → A6 → A7 → Prop) : Prop
  | mk (a0 : A0) (a1 : A1) (a2 : A2) (a3 : A3) (a4 : A4) (a5 : A5) (a6 : A6) (a7 : A7) (h : P a0 a1 a2 a3 a4 a5 a6 a7) : Ex8 P
inductive Ex9 {A0 A1 A2 A3 A4 A5 A6 A7 A8 : Type} (P : A0 → A1 → A2 → A3 → A4 → A5 → A6 → A7 → A8 → Prop) : Prop
  | mk (a0 : A0) (a1 : A1) (a2 : A2) (a3 : A3) (a4 : A4) (a5 : A5) (a6 : A6) (a7 : A7) (a8 : A8) (h : P a0 a1 a2 a3 a4 a5 a6 a7 a8) : Ex9 P
inductive Ex10 {A0 A1 A2 A3 A4 A5 A6 A7 A8 A9 : Type} (P : A0 → A1 → A2 → A3 → A4 → A5 → A6 → A7 → A8 → A9 → Prop) : Prop
  | mk (a0 : A0) (a1 : A1) (a2 : A2) (a3 : A3) (a4 : A4) (a5 : A5) (a6 : A6) (a7 : A7) (a8 : A8) (a9 : A9) (h : P a0 a1 a2 a3 a4 a5 a6 a7 a8 a9) : Ex10 P
inductive Ex11 {A0 A1 A2 A3 A4 A5 A6 A7 A8 A9 A10 : Type} (P : A0 → A1 → A2 → A3 → A4 → A5 → A6 → A7 → A8 → A9 → A10 → Prop) : Prop
  | mk (a0 : A0) (a1 : A1) (a2 : A2) (a3 : A3) (a4 : A4) (a5 : A5) (a6 : A6) (a7 : A7) (a8 : A8) (a9 : A9) (a10 : A10) (h : P a0 a1 a2 a3 a4 a5 a6 a7 a8 a9 a10) : Ex11 P
inductive Ex12 {A0 A1 A2 A3 A4 A5 A6 A7 A8 A9 A10 A11 : Type} (P : A0 → A1 → A2 → A3 → A4 → A5 → A6 → A7 → A8 → A9 → A10 → A11 → Prop) : Prop
  | mk (a0 : A0) (a1 : A1) (a2 : A2) (a3 : A3) (a4 : A4) (a5 : A5) (a6 : A6) (a7 : A7) (a8 : A8) (a9 : A9) (a10 : A10) (a11 : A11) (h : P a0 a1 a2 a3 a4 a5 a6 a7 a8 a9 a10 a11) : Ex12 P
inductive And3 (p0 p1 p2 : Prop) : Prop
  | mk (h0 : p0) (h1 : p1) (h2 : p2) : And3 p0 p1 p2
inductive And4 (p0 p1 p2 p3 : Prop) : Prop
  | mk (h0 : p0) (h1 : p1) (h2 : p2) (h3 : p3) : And4 p0 p1 p2 p3
inductive And5 (p0 p1 p2 p3 p4 : Prop) : Prop
  | mk (h0 : p0) (h1 : p1) (h2 : p2) (h3 : p3) (h4 : p4) : And5 p0 p1 p2 p3 p4
inductive And6 (p0 p1 p2 p3 p4 p5 : Prop) : Prop
  | mk (h0 : p0) (h1 : p1) (h2 : p2) (h3 : p3) (h4 : p4) (h5 : p5) : And6 p0 p1 p2 p3 p4 p5
inductive And7 (p0 p1 p2 p3 p4 p5 p6 : Prop) : Prop
  | mk (h0 : p0) (h1 : p1) (h2 : p2) (h3 : p3) (h4 : p4) (h5 : p5) (h6 : p6) : And7 p0 p1 p2 p3 p4 p5 p6
inductive And11 (p0 p1 p2 p3 p4 p5 p6 p7 p8 p9 p10 : Prop) : Prop
  | mk (h0 : p0) (h1 : p1) (h2 : p2) (h3 : p3) (h4 : p4) (h5 : p5) (h6 : p6) (h7 : p7) (h8 : p8) (h9 : p9) (h10 : p10) : And11 p0 p1 p2 p3 p4 p5 p6 p7 p8 p9 p10
open PySem.Spec PySem.Calls

noncomputable abbrev Led := List (Addr × Obj)
noncomputable abbrev Loc := Str → Option Value
noncomputable abbrev PG : Program := PySem.Challenge.rw_oc0189_01.row.prog
noncomputable abbrev Up (m : Loc) (x : Str) (v : Value) : Loc := fun y => if y = x then some v else m y

noncomputable def NsObj (m : Loc) (o : Obj) : Prop := Ex2 fun es ep => And3 (o.data = .dict es ep) (StrKeys es) (∀ name, nsFind es name = m name)

noncomputable abbrev Hid := List (Addr × (Obj → Prop))
inductive HsOk : Hid → Led → Prop
  | nil : HsOk [] []
  | cons {a : Addr} {P : Obj → Prop} {o : Obj} {hid : Hid} {hs : Led} : P o → HsOk hid hs → HsOk ((a, P) :: hid) ((a, o) :: hs)
inductive FrOk : List (Addr × Loc) → Led → Prop
  | nil : FrOk [] []
  | cons {a : Addr} {m : Loc} {o : Obj} {fr : List (Addr × Loc)} {fs : Led} : NsObj m o → FrOk fr fs → FrOk ((a, m) :: fr) ((a, o) :: fs)
inductive FsOk (hid : Hid) (fr : List (Addr × Loc)) : Led → Prop
  | mk {hs ff : Led} : HsOk hid hs → FrOk fr ff → FsOk hid fr (hs ++ ff)

/- where a body runs: the base heap, the frame, what is hidden -/
structure Dy where
  w : World
  A : Around
  base : Heap
  L : Addr
  fr : List (Addr × Loc)
  hid : Hid
  gens : Array GenState
  drawn : Drawn
  os : OsState
  room : Nat
  envs : List Env
  K : (hd.heap_39 w.params).In base
  T : Ex4 fun loose mg mb mean => Top topProg loose mean mg mb base
  hroom : A.depth + room < recursionLimit ∧ A.units + 8 * room + 8 < cLine
  hfr : A.frames = some envs
  hfe : ∀ env ∈ envs, env.scope.kind ≠ .module ∧ ∃ a, env.frame = some a ∧ (a = L ∨ a ∈ fr.map (·.1))

structure St (d : Dy) (s : Shared) (m : Loc) (news : Led) : Prop where
  F : Fr d.base d.L s.heap m
  N : ∃ fs, And3 (FsOk d.hid d.fr fs) (News d.base d.L s.heap (news ++ fs)) (((news ++ fs).map (·.1)).Nodup)
  gens : s.gens = d.gens
  drawn : s.drawn = d.drawn
  os : s.os = d.os

structure W (d : Dy) {α : Type} (t : Sem α) (m : Loc) (news : Led) (Q : α → Loc → Led → Prop) (E : Value → Shared → Prop) : Prop where
  go : ∀ s, St d s m news → wpAny (model PG d.w) d.A t (fun a s' => Ex2 fun m' n' => St d s' m' n' ∧ Q a m' n') E s

section
variable {d : Dy} {α β : Type} {m m' : Loc} {news n' : Led} {E : Value → Shared → Prop} {s : Shared}

theorem St.toks (h : St d s m news) (tk : Nat) : St d { s with toks := tk } m news := ⟨h.F, h.N, h.gens, h.drawn, h.os⟩

/- a new heap: the ledger turned by a rule that is generic in it -/
theorem St.heap (h : St d s m news) {fs : Led} (hf : FsOk d.hid d.fr fs) {h' : Heap} (tk : Nat) (F : Fr d.base d.L h' m') (N : News d.base d.L h' (n' ++ fs)) (nd : ((n' ++ fs).map (·.1)).Nodup) :
    St d { s with heap := h', toks := tk } m' n' := ⟨F, ⟨fs, hf, N, nd⟩, h.gens, h.drawn, h.os⟩

/- everything stands, more may have come -/
theorem St.ext (h : St d s m news) {h' : Heap} (tk : Nat) (hk : ∀ b o, s.heap.get? b = some o → h'.get? b = some o) : St d { s with heap := h', toks := tk } m news := by
  obtain ⟨fs, hf, N, nd⟩ := h.N
  exact ⟨⟨h.F.ns.keeps hk, fun b o e => hk b o (h.F.keep b o e), h.F.above⟩, ⟨fs, hf, fun p hp => ⟨hk _ _ (N p hp).1, (N p hp).2⟩, nd⟩, h.gens, h.drawn, h.os⟩

/- a new object onto the ledger -/
theorem St.push (h : St d s m news) (o : Obj) (hfree : o.isFreed = false := by rfl) : St d { s with heap := s.heap.push o } m ((s.heap.objs.size, o) :: news) := by
  obtain ⟨fs, hf, N, nd⟩ := h.N
  refine ⟨h.F.push o, ⟨fs, hf, News.push h.F N o hfree, ?_⟩, h.gens, h.drawn, h.os⟩
  rw [List.cons_append, List.map_cons]
  refine List.nodup_cons.mpr ⟨fun hm => ?_, nd⟩
  obtain ⟨p, hp, e⟩ := List.mem_map.mp hm
  have := Heap.lt_size (N p hp).1
  rw [e] at this
  exact absurd this (Nat.lt_irrefl _)

theorem St.mem (h : St d s m news) {a : Addr} {o : Obj} (hm : (a, o) ∈ news) : s.heap.get? a = some o := by
  obtain ⟨fs, _, N, _⟩ := h.N
  exact (N _ (List.mem_append_left _ hm)).1
theorem St.nw (h : St d s m news) : News d.base d.L s.heap news := by
  obtain ⟨fs, _, N, _⟩ := h.N
  exact fun p hp => N p (List.mem_append_left _ hp)
theorem St.base (h : St d s m news) {a : Addr} {o : Obj} (e : d.base.get? a = some o) : s.heap.get? a = some o := h.F.keep a o e

theorem St.sub (h : St d s m news) (hs : n'.Sublist news) : St d s m n' := by
  obtain ⟨fs, hf, N, nd⟩ := h.N
  refine ⟨h.F, ⟨fs, hf, fun p hp => N p ?_, ?_⟩, h.gens, h.drawn, h.os⟩
  · rcases List.mem_append.mp hp with q | q
    · exact List.mem_append_left _ (hs.subset q)
    · exact List.mem_append_right _ q
  · exact nd.sublist ((hs.append (List.Sublist.refl fs)).map _)
theorem St.perm (h : St d s m news) (hs : n'.Perm news) : St d s m n' := by
  obtain ⟨fs, hf, N, nd⟩ := h.N
  refine ⟨h.F, ⟨fs, hf, fun p hp => N p ?_, ?_⟩, h.gens, h.drawn, h.os⟩
  · rcases List.mem_append.mp hp with q | q
    · exact List.mem_append_left _ (hs.mem_iff.mp q)
    · exact List.mem_append_right _ q
  · exact ((hs.append_right fs).map _).nodup_iff.mpr nd

/- one place of the ledger -/
inductive Sel (a : Addr) (o : Obj) : Led → (Obj → Led) → Prop
  | here {r : Led} : Sel a o ((a, o) :: r) (fun o' => (a, o') :: r)
  | there {p : Addr × Obj} {r : Led} {g : Obj → Led} : Sel a o r g → Sel a o (p :: r) (fun o' => p :: g o')
theorem Sel.split {a : Addr} {o : Obj} {l : Led} {g : Obj → Led} (h : Sel a o l g) : Ex2 fun pre post => l = pre ++ (a, o) :: post ∧ ∀ o', g o' = pre ++ (a, o') :: post := by
  induction h with
  | here => exact ⟨[], _, rfl, fun _ => rfl⟩
  | there _ ih =>
    obtain ⟨pre, post, e, h⟩ := ih
    exact ⟨_ :: pre, post, by rw [e]; rfl, fun o' => by show _ :: _ = _; rw [h]; rfl⟩
theorem Sel.mem {a : Addr} {o : Obj} {l : Led} {g : Obj → Led} (h : Sel a o l g) : (a, o) ∈ l := by
  obtain ⟨pre, post, rfl, _⟩ := h.split
  exact List.mem_append_right _ (.head _)
theorem Sel.updF {a : Addr} {o : Obj} {l : Led} {g : Obj → Led} (h : Sel a o l g) (hd : (l.map (·.1)).Nodup) : UpdF a o l g := by
  induction h with
  | here => exact .head fun p hp e => (List.nodup_cons.mp hd).1 (List.mem_map.mpr ⟨p, hp, e⟩)
  | there hs ih => exact .tail (fun e => (List.nodup_cons.mp hd).1 (List.mem_map.mpr ⟨_, hs.mem, e.symm⟩)) (ih (List.nodup_cons.mp hd).2)
theorem Sel.keys {a : Addr} {o : Obj} {l : Led} {g : Obj → Led} (h : Sel a o l g) (o' : Obj) : (g o').map (·.1) = l.map (·.1) := by
  obtain ⟨pre, post, rfl, e⟩ := h.split
  rw [e]; simp
theorem Sel.app {a : Addr} {o : Obj} {l : Led} {g : Obj → Led} (h : Sel a o l g) (fs : Led) : Sel a o (l ++ fs) (fun o' => g o' ++ fs) := by
  induction h with
  | here => exact .here
  | there _ ih => exact .there ih

/- an object of the ledger is turned -/
theorem St.update (h : St d s m news) {a : Addr} {o : Obj} {g : Obj → Led} {h' : Heap} {o' : Obj} (tk : Nat) (hs : Sel a o news g) (hb : Heap.SameBut a s.heap h') (ho : h'.get? a = some o') : St d { s with heap := h', toks := tk } m (g o') := by
  obtain ⟨fs, hf, N, nd⟩ := h.N
  have hN := N (a, o) (List.mem_append_left _ hs.mem)
  have U := (hs.app fs).updF nd
  obtain ⟨own, rest, e, hg, h1, h2⟩ := U.split
  refine ⟨⟨h.F.ns.sameBut hb (Ne.symm hN.2.1), fun b ob q => (hb.2 b fun z => ?_).trans (h.F.keep b ob q), h.F.above⟩, ⟨fs, hf, ?_, ?_⟩, h.gens, h.drawn, h.os⟩
  · rw [z, hN.2.2] at q; cases q
  · have := hg o'
    rw [this]
    rw [e] at N
    exact N.setAt h1 h2 hb ho
  · have := (hs.app fs).keys o'
    rw [this]; exact nd

theorem W.run {t : Sem α} {Q : α → Loc → Led → Prop} {P : α → Shared → Prop} (h : W d t m news Q E) (hs : St d s m news) (k : ∀ a s' m' n', St d s' m' n' → Q a m' n' → P a s') : wpAny (model PG d.w) d.A t P E s :=
  wpAny_mono (h.go s hs) (fun a s' ⟨m', n', h1, h2⟩ => k a s' m' n' h1 h2) fun _ _ x => x
theorem W.mono {t : Sem α} {Q Q' : α → Loc → Led → Prop} (h : W d t m news Q E) (hq : ∀ a m' n', Q a m' n' → Q' a m' n') : W d t m news Q' E :=
  .mk fun s hs => h.run hs fun _ _ m' n' a b => ⟨m', n', a, hq _ _ _ b⟩
theorem W.never {t : Sem α} {Q : α → Loc → Led → Prop} (h : W d t m news Q (fun _ _ => False)) : W d t m news Q E :=
  .mk fun s hs => wpAny_noRaise (h.go s hs)
theorem W.sub {t : Sem α} {Q : α → Loc → Led → Prop} (h : W d t m n' Q E) (hs : n'.Sublist news) : W d t m news Q E := .mk fun s h' => h.go s (h'.sub hs)
theorem W.perm {t : Sem α} {Q : α → Loc → Led → Prop} (h : W d t m n' Q E) (hs : n'.Perm news) : W d t m news Q E := .mk fun s h' => h.go s (h'.perm hs)

/- hide an object: it stands as it is -/
noncomputable def Dy.hide (d : Dy) (a : Addr) (P : Obj → Prop) : Dy := { d with hid := (a, P) :: d.hid }
theorem St.hide {a : Addr} {o : Obj} (h : St d s m ((a, o) :: news)) {P : Obj → Prop} (hp : P o) : St (d.hide a P) s m news := by
  obtain ⟨fs, hf, N, nd⟩ := h.N
  obtain ⟨hh, hff⟩ := hf
  rename_i hs ff
  have pm : (news ++ (a, o) :: (hs ++ ff)).Perm ((a, o) :: news ++ (hs ++ ff)) := List.perm_middle
  exact ⟨h.F, ⟨(a, o) :: (hs ++ ff), FsOk.mk (hs := (a, o) :: hs) (.cons hp hh) hff, fun p hp => N p (pm.mem_iff.mp hp), (pm.map _).nodup_iff.mpr nd⟩, h.gens, h.drawn, h.os⟩
theorem St.show' {a : Addr} {P : Obj → Prop} (h : St (d.hide a P) s m news) : ∃ o, P o ∧ St d s m ((a, o) :: news) := by
  obtain ⟨fs, hf, N, nd⟩ := h.N
  obtain ⟨hh, hff⟩ := hf
  rename_i hs ff
  obtain ⟨o, hs', rfl, hp, hf'⟩ : Ex2 fun o hs' => And3 (hs = (a, o) :: hs') (P o) (HsOk d.hid hs') := by cases hh with | cons hp hf' => exact ⟨_, _, rfl, hp, hf'⟩
  have pm : (news ++ (a, o) :: (hs' ++ ff)).Perm ((a, o) :: news ++ (hs' ++ ff)) := List.perm_middle
  exact ⟨o, hp, h.F, ⟨hs' ++ ff, .mk hf' hff, fun p hp => N p (pm.mem_iff.mpr hp), (pm.map _).nodup_iff.mp nd⟩, h.gens, h.drawn, h.os⟩
end
end Mine

open PySem PySem.W PyProof.Rows
set_option Elab.async false
set_option linter.unusedVariables false
set_option maxRecDepth 100000
set_option maxHeartbeats 4000000
namespace Mine
open PySem.Spec PySem.Calls
section
variable {d : Dy} {m : Loc} {news : Led} {E : Value → Shared → Prop} {env : Env} {pos : Pos}
variable {cn : Str} {cs : Scope} {a : Addr} {ccd : Value} {cl : List (Str × Addr)} {x : Str} {v : Value}

-- blocks
theorem W_nil {Q : Flow → Loc → Led → Prop} (h : Q .next m news) : W d (execs [] env) m news Q E := .mk fun _ hs => wpAny_execs_nil ⟨_, _, hs, h⟩
theorem W_cons {st : Stmt} {rest : List Stmt} {Q : Flow → Loc → Led → Prop}
    (h : W d (exec st env) m news (fun f m' n' => match f with | .next => W d (execs rest env) m' n' Q E | f => Q f m' n') E) : W d (execs (st :: rest) env) m news Q E :=
  .mk fun s hs => wpAny_execs_cons (h.run hs fun f s' m' n' hs' hq => by cases f with | next => exact hq.go s' hs' | _ => exact ⟨m', n', hs', hq⟩)
theorem W_Assign {p : Pos} {value : Expr} {Q : Flow → Loc → Led → Prop} (h : W d (eval value env) m news (fun v m1 n1 => W d (storeName env x v) m1 n1 (fun _ m2 n2 => Q .next m2 n2) E) E)
    (hsw : swapsWith value (some (.Name x p)) pos.line env = pure false := by with_unfolding_all rfl) : W d (exec (.Assign [.Name x p] value pos) env) m news Q E :=
  .mk fun s hs => wpAny_Assign_Name (h.run hs fun _ s' _ _ hs' hq => hq.go s' hs') hsw
theorem W_Aug {p : Pos} {op : Operator} {value : Expr} {Q : Flow → Loc → Led → Prop}
    (h : W d (loadName env x) m news (fun old m1 n1 => W d (eval value env) m1 n1 (fun v m2 n2 => W d (inplaceOp op old v) m2 n2 (fun r m3 n3 => W d (storeName env x r) m3 n3 (fun _ m4 n4 => Q .next m4 n4) E) E) E) E) :
    W d (exec (.AugAssign (.Name x p) op value pos) env) m news Q E :=
  .mk fun s hs => wpAny_AugAssign_Name (h.run hs fun _ s1 _ _ hs1 h1 => h1.run hs1 fun _ s2 _ _ hs2 h2 => h2.run hs2 fun _ s3 _ _ hs3 h3 => h3.go s3 hs3)
theorem W_If {test : Expr} {body orelse : List Stmt} {Q : Flow → Loc → Led → Prop}
    (h : W d (isTrue test env (eval test env)) m news (fun b m1 n1 => if b = true then W d (execs body env) m1 n1 Q E else W d (execs orelse env) m1 n1 Q E) E) : W d (exec (.If test body orelse pos) env) m news Q E :=
  .mk fun s hs => wpAny_If (h.run hs fun b s1 _ _ hs1 h1 => by cases b with | true => exact h1.go s1 hs1 | false => exact h1.go s1 hs1)
theorem W_Ret {e : Expr} {Q : Flow → Loc → Led → Prop} (h : W d (eval e env) m news (fun v m1 n1 => Q (.ret v) m1 n1) E) : W d (exec (.Return (some e) pos) env) m news Q E :=
  .mk fun s hs => wpAny_Return_some (h.go s hs)
theorem W_Expr {e : Expr} {Q : Flow → Loc → Led → Prop} (h : W d (eval e env) m news (fun v m1 n1 => v = .none ∧ Q .next m1 n1) E)
    (hi : interactive env = false := by with_unfolding_all rfl) (hsw : swapsWith e none pos.line env = pure false := by with_unfolding_all rfl) : W d (exec (.Expr e pos) env) m news Q E :=
  .mk fun s hs => wpAny_Expr (h.run hs fun v s1 m1 n1 hs1 h1 => by obtain ⟨rfl, h1⟩ := h1; exact ⟨m1, n1, hs1, h1⟩) hi hsw
theorem W_Break {Q : Flow → Loc → Led → Prop} (h : Q .brk m news) : W d (exec (.Break pos) env) m news Q E := .mk fun _ hs => wpAny_Break ⟨_, _, hs, h⟩
theorem W_Continue {Q : Flow → Loc → Led → Prop} (h : Q .cont m news) : W d (exec (.Continue pos) env) m news Q E := .mk fun _ hs => wpAny_Continue ⟨_, _, hs, h⟩

-- names
theorem W_nameL {Q : Value → Loc → Led → Prop} (hv : m x = some v) (h : Q v m news) (hk : cs.kind = .function := by rfl) (hx : (envX cn cs d.L a ccd cl).kindOf x = some .local := by rfl) (hb : (x == ("__debug__" : Str)) = false := by decide) :
    W d (eval (.Name x pos) (envX cn cs d.L a ccd cl)) m news Q E := .mk fun s hs => nameX_L hs.F hv ⟨_, _, hs, h⟩ hk hx hb
theorem W_loadL {Q : Value → Loc → Led → Prop} (hv : m x = some v) (h : Q v m news) (hk : cs.kind = .function := by rfl) (hx : (envX cn cs d.L a ccd cl).kindOf x = some .local := by rfl) :
    W d (loadName (envX cn cs d.L a ccd cl) x) m news Q E := .mk fun s hs => wpAny_loadName_local hk hx hs.F.ns hv ⟨_, _, hs, h⟩
theorem W_nameK {Q : Value → Loc → Led → Prop} (e : nsIn (hd.heap_39 d.w.params) mainGlobals x = some (some v)) (h : Q v m news) (hk : cs.kind = .function := by rfl)
    (hx : (envX cn cs d.L a ccd cl).kindOf x = some .globalImplicit := by rfl) (hb : (x == ("__debug__" : Str)) = false := by decide) : W d (eval (.Name x pos) (envX cn cs d.L a ccd cl)) m news Q E := .mk fun s hs => by
  obtain ⟨loose, mg, mb, mean, T⟩ := d.T
  exact nameX_K hs.F d.K (topRead_of T) e ⟨_, _, hs, h⟩ hk hx hb
theorem W_nameB {Q : Value → Loc → Led → Prop} (e : nsIn (hd.heap_39 d.w.params) mainGlobals x = some none) (hv : bootBuiltins x = some v) (h : Q v m news) (hn : x ≠ "__name__" := by decide +kernel) (hk : cs.kind = .function := by rfl)
    (hx : (envX cn cs d.L a ccd cl).kindOf x = some .globalImplicit := by rfl) (hb : (x == ("__debug__" : Str)) = false := by decide) : W d (eval (.Name x pos) (envX cn cs d.L a ccd cl)) m news Q E := .mk fun s hs => by
  obtain ⟨loose, mg, mb, mean, T⟩ := d.T
  exact nameX_B hs.F d.K (topRead_of T) e hv hn ⟨_, _, hs, h⟩ hk hx hb
theorem W_storeL {Q : Unit → Loc → Led → Prop} (h : Q () (Up m x v) news) (hk : cs.kind = .function := by rfl) (hx : (envX cn cs d.L a ccd cl).kindOf x = some .local := by rfl) :
    W d (storeName (envX cn cs d.L a ccd cl) x v) m news Q E := .mk fun s hs => by
  obtain ⟨fs, hf, N, nd⟩ := hs.N
  exact storeX_L hs.F N (fun h' F' N' => ⟨_, _, hs.heap hf _ F' N' nd, h⟩) hk hx

-- constants
theorem W_int {i : Int} {k : Nat} {Q : Value → Loc → Led → Prop} (h : ∀ t, Q (.int i t) m news) : W d (eval (.Constant (.int i) k pos) env) m news Q E :=
  .mk fun s hs => wpAny_Constant_int ⟨_, _, hs.toks _, h _⟩
theorem W_str {y : Str} {k : Nat} {Q : Value → Loc → Led → Prop} (h : ∀ t, Q (.str y t) m news) : W d (eval (.Constant (.str y) k pos) env) m news Q E :=
  .mk fun s hs => wpAny_Constant_str ⟨_, _, hs.toks _, h _⟩

-- operators
theorem W_BinOp {l r : Expr} {op : Operator} {Q : Value → Loc → Led → Prop} (h : W d (eval l env) m news (fun a m1 n1 => W d (eval r env) m1 n1 (fun b m2 n2 => W d (binaryOp op a b) m2 n2 Q E) E) E) :
    W d (eval (.BinOp l op r pos) env) m news Q E :=
  .mk fun s hs => wpAny_BinOp (h.run hs fun _ s1 _ _ hs1 h1 => h1.run hs1 fun _ s2 _ _ hs2 h2 => h2.go s2 hs2)
theorem W_Compare {l r : Expr} {op : CmpOp} {Q : Value → Loc → Led → Prop} (h : W d (eval l env) m news (fun a m1 n1 => W d (eval r env) m1 n1 (fun b m2 n2 => W d (compareOp op a b) m2 n2 Q E) E) E)
    (hb : behindInMarks op r = false := by with_unfolding_all rfl) : W d (eval (.Compare l [op] [r] pos) env) m news Q E :=
  .mk fun s hs => wpAny_Compare1 (h.run hs fun _ s1 _ _ hs1 h1 => h1.run hs1 fun _ s2 _ _ hs2 h2 => h2.go s2 hs2) hb
theorem W_isCompare {l r : Expr} {op : CmpOp} {whole : Sem Value} {Q : Bool → Loc → Led → Prop} (h : W d (eval l env) m news (fun a m1 n1 => W d (eval r env) m1 n1 (fun b m2 n2 => W d (compareOp op a b) m2 n2 (fun c m3 n3 => W d (truthy c) m3 n3 Q E) E) E) E)
    (hb : behindInMarks op r = false := by with_unfolding_all rfl) : W d (isTrue (.Compare l [op] [r] pos) env whole) m news Q E :=
  .mk fun s hs => wpAny_isTrue_Compare1 (h.run hs fun _ s1 _ _ hs1 h1 => h1.run hs1 fun _ s2 _ _ hs2 h2 => h2.run hs2 fun _ s3 _ _ hs3 h3 => h3.go s3 hs3) hb
theorem W_truthyB {b : Bool} {Q : Bool → Loc → Led → Prop} (h : Q b m news) : W d (truthy (.bool b)) m news Q E := .mk fun s hs => wpAny_truthy_bool ⟨_, _, hs, h⟩
theorem W_truthyI {i : Int} {t : Tok} {Q : Bool → Loc → Led → Prop} (h : Q (i != 0) m news) : W d (truthy (.int i t)) m news Q E := .mk fun s hs => by with_reducible exact truthy_int ⟨_, _, hs, h⟩

variable {i j : Int} {t u : Tok} {Q : Value → Loc → Led → Prop}
theorem W_add (h : ∀ t', Q (.int (i + j) t') m news) : W d (binaryOp .Add (.int i t) (.int j u)) m news Q E := .mk fun s hs => by with_reducible exact add_int ⟨_, _, hs.toks _, h _⟩
theorem W_sub (h : ∀ t', Q (.int (i - j) t') m news) : W d (binaryOp .Sub (.int i t) (.int j u)) m news Q E := .mk fun s hs => by with_reducible exact sub_int ⟨_, _, hs.toks _, h _⟩
theorem W_mul (h : ∀ t', Q (.int (i * j) t') m news) (ok : IntMulOk i j) : W d (binaryOp .Mult (.int i t) (.int j u)) m news Q E := .mk fun s hs => by with_reducible exact mul_int ⟨_, _, hs.toks _, h _⟩ ok
theorem W_pow (h0 : 0 ≤ j) (h1 : j ≤ 1000000) (h2 : i.natAbs < 2 ^ 64) (h : ∀ t', Q (.int (i ^ j.toNat) t') m news) : W d (binaryOp .Pow (.int i t) (.int j u)) m news Q E := .mk fun s hs => by with_reducible exact pow_int_small h0 h1 h2 ⟨_, _, hs.toks _, h _⟩
theorem W_mod (h0 : j ≠ 0) (h : ∀ t', Q (.int (i.fmod j) t') m news) : W d (binaryOp .Mod (.int i t) (.int j u)) m news Q E := .mk fun s hs => by with_reducible exact mod_int' h0 ⟨_, _, hs.toks _, h _⟩
theorem W_div (h0 : j ≠ 0) (ok : Builtin.divisionGoesByPylong i j = false) (h : ∀ t', Q (.int (i.fdiv j) t') m news) : W d (binaryOp .FloorDiv (.int i t) (.int j u)) m news Q E := .mk fun s hs => by with_reducible exact floordiv_int h0 ⟨_, _, hs.toks _, h _⟩ (.inl ok)
theorem W_xor (h : ∀ t', Q (.int (Builtin.bitXor i j) t') m news) : W d (binaryOp .BitXor (.int i t) (.int j u)) m news Q E := .mk fun s hs => by with_reducible exact xor_int ⟨_, _, hs.toks _, h _⟩
theorem W_iadd (h : ∀ t', Q (.int (i + j) t') m news) : W d (inplaceOp .Add (.int i t) (.int j u)) m news Q E := .mk fun s hs => by with_reducible exact iadd_int ⟨_, _, hs.toks _, h _⟩
theorem W_isub (h : ∀ t', Q (.int (i - j) t') m news) : W d (inplaceOp .Sub (.int i t) (.int j u)) m news Q E := .mk fun s hs => by with_reducible exact isub_int ⟨_, _, hs.toks _, h _⟩
theorem W_neg (h : ∀ t', Q (.int (-i) t') m news) : W d (unaryOp .USub (.int i t)) m news Q E := .mk fun s hs => by with_reducible exact neg_int ⟨_, _, hs.toks _, h _⟩
theorem W_eqI (h : Q (.bool (i == j)) m news) : W d (compareOp .Eq (.int i t) (.int j u)) m news Q E := .mk fun s hs => by with_reducible exact eq_int ⟨_, _, hs, h⟩
theorem W_neI (h : Q (.bool (i != j)) m news) : W d (compareOp .NotEq (.int i t) (.int j u)) m news Q E := .mk fun s hs => by with_reducible exact ne_int ⟨_, _, hs, h⟩
theorem W_ltI (h : Q (.bool (decide (i < j))) m news) : W d (compareOp .Lt (.int i t) (.int j u)) m news Q E := .mk fun s hs => by with_reducible exact lt_int ⟨_, _, hs, h⟩
theorem W_gtI (h : Q (.bool (decide (i > j))) m news) : W d (compareOp .Gt (.int i t) (.int j u)) m news Q E := .mk fun s hs => by with_reducible exact gt_int ⟨_, _, hs, h⟩
variable {y z : Str}
theorem W_eqS (h : Q (.bool (y == z)) m news) : W d (compareOp .Eq (.str y t) (.str z u)) m news Q E := .mk fun s hs => by with_reducible exact eq_str ⟨_, _, hs, h⟩
theorem W_neS (h : Q (.bool (y != z)) m news) : W d (compareOp .NotEq (.str y t) (.str z u)) m news Q E := .mk fun s hs => by with_reducible exact ne_str ⟨_, _, hs, h⟩
theorem W_addS (h : ∀ t', Q (.str (y ++ z) t') m news) (hz : y.length + z.length ≤ sizeLine) : W d (binaryOp .Add (.str y t) (.str z u)) m news Q E := .mk fun s hs => by with_reducible exact add_str (fun t' tk => ⟨_, _, hs.toks _, h _⟩) hz
theorem W_mulS (ok : MulOk y i) (h : ∀ t', Q (.str (Txt.mul y i) t') m news) : W d (binaryOp .Mult (.str y t) (.int i u)) m news Q E := .mk fun s hs => by with_reducible exact SB.mul ok fun t' tk => ⟨_, _, hs.toks _, h _⟩
theorem W_Unary {op : UnaryOp} {e : Expr} (h : W d (eval e env) m news (fun v m1 n1 => W d (unaryOp op v) m1 n1 Q E) E) : W d (eval (.UnaryOp op e pos) env) m news Q E :=
  .mk fun s hs => wpAny_UnaryOp (h.run hs fun _ s1 _ _ hs1 h1 => h1.go s1 hs1)
theorem W_Subscript {value slice : Expr} (h : W d (eval value env) m news (fun o m1 n1 => W d (eval slice env) m1 n1 (fun i m2 n2 => W d (subscriptTail value slice o i) m2 n2 Q E) E) E) :
    W d (eval (.Subscript value slice pos) env) m news Q E :=
  .mk fun s hs => Subscript_ (h.run hs fun _ s1 _ _ hs1 h1 => h1.run hs1 fun _ s2 _ _ hs2 h2 => h2.go s2 hs2)
theorem W_itemS {value slice : Expr} (hr : fitsSsize i = true) (h1 : -(y.length : Int) ≤ i) (h2 : i < y.length) (h : ∀ t', Q (.str (Txt.item y i) t') m news)
    (hs : subscripted slice false (.str y t) (.int i u) = operate [.str y t, .int i u] (getItem (.str y t) (.int i u)) := by rfl)
    (hl : ∀ r, letTemporaryGo value (.str y t) r = pure () := by intro _; rfl) : W d (subscriptTail value slice (.str y t) (.int i u)) m news Q E :=
  .mk fun s h' => item_str hr h1 h2 (fun _ => ⟨_, _, h'.toks _, h _⟩) hs hl
theorem W_lenS (hf : ¬ (y.length : Int) ≥ 2 ^ 63) (h : ∀ t', Q (.int y.length t') m news) : W d (call (.builtin "len") [.str y t]) m news Q E := .mk fun s hs => len_str hf ⟨_, _, hs.toks _, h _⟩
end
end Mine

open PySem PySem.W PyProof.Rows
set_option Elab.async false
set_option linter.unusedVariables false
set_option maxRecDepth 100000
set_option maxHeartbeats 4000000
namespace Mine
open PySem.Spec PySem.Calls
section
variable {d : Dy} {m : Loc} {news : Led} {E : Value → Shared → Prop} {env : Env} {pos : Pos} {s : Shared}
variable {cn : Str} {cs : Scope} {a : Addr} {ccd : Value} {cl : List (Str × Addr)} {x : Str} {v : Value}

theorem St.grown (h : St d s m news) {h' : Heap} (tk : Nat) {o : Obj} (hk : ∀ b o, s.heap.get? b = some o → h'.get? b = some o) (ho : h'.get? s.heap.objs.size = some o) : St d { s with heap := h', toks := tk } m ((s.heap.objs.size, o) :: news) := by
  have h2 := h.ext tk hk
  obtain ⟨fs, hf, N, nd⟩ := h.N
  obtain ⟨fs2, hf2, N2, nd2⟩ := h2.N
  refine ⟨h2.F, ⟨fs, hf, ?_, ?_⟩, h.gens, h.drawn, h.os⟩
  · intro p hp
    rcases List.mem_cons.mp hp with rfl | hp
    · refine ⟨ho, Nat.ne_of_gt h.F.ns.lt, ?_⟩
      cases hq : d.base.get? s.heap.objs.size with
      | none => rfl
      | some o' => exact absurd (Heap.lt_size (h.F.keep _ _ hq)) (Nat.lt_irrefl _)
    · exact ⟨hk _ _ (N p hp).1, (N p hp).2⟩
  · rw [List.cons_append, List.map_cons]
    refine List.nodup_cons.mpr ⟨fun hm => ?_, nd⟩
    obtain ⟨p, hp, e⟩ := List.mem_map.mp hm
    have := Heap.lt_size (N p hp).1
    rw [e] at this
    exact absurd this (Nat.lt_irrefl _)

/- an object of the ledger is let go; all else stands -/
theorem St.extBut {it : Addr} {o : Obj} (h : St d s m ((it, o) :: news)) {h' : Heap} (tk : Nat) (hb : Heap.ExtBut it s.heap h') : St d { s with heap := h', toks := tk } m news := by
  obtain ⟨fs, hf, N, nd⟩ := h.N
  have hN := N (it, o) (.head _)
  have hne : ∀ p ∈ news ++ fs, p.1 ≠ it := fun p hp e => (List.nodup_cons.mp nd).1 (List.mem_map.mpr ⟨p, hp, e⟩)
  obtain ⟨oL, es, ep, hL, r⟩ := h.F.ns
  exact ⟨⟨⟨oL, es, ep, hb _ _ (Ne.symm hN.2.1) hL, r⟩, fun b o' e => hb b o' (fun q => by rw [q, hN.2.2] at e; cases e) (h.F.keep b o' e), h.F.above⟩,
    ⟨fs, hf, fun p hp => ⟨hb _ _ (hne p hp) (N p (.tail _ hp)).1, (N p (.tail _ hp)).2⟩, (List.nodup_cons.mp nd).2⟩, h.gens, h.drawn, h.os⟩

theorem W_isAnd {e : Expr} {rest : List Expr} {whole : Sem Value} {Q : Bool → Loc → Led → Prop}
    (h : W d (isTrue e env (eval e env)) m news (fun c m1 n1 => if c = true then W d (isTrue (.BoolOp .And rest pos) env whole) m1 n1 Q E else Q false m1 n1) E) : W d (isTrue (.BoolOp .And (e :: rest) pos) env whole) m news Q E :=
  .mk fun s hs => isTrue_and (h.run hs fun c s1 m1 n1 hs1 h1 => by cases c with | true => exact h1.go s1 hs1 | false => exact ⟨m1, n1, hs1, h1⟩)
theorem W_isAnd0 {whole : Sem Value} {Q : Bool → Loc → Led → Prop} (h : Q true m news) : W d (isTrue (.BoolOp .And [] pos) env whole) m news Q E := .mk fun s hs => isTrue_and_nil ⟨_, _, hs, h⟩
theorem W_isOr {e : Expr} {rest : List Expr} {whole : Sem Value} {Q : Bool → Loc → Led → Prop}
    (h : W d (isTrue e env (eval e env)) m news (fun c m1 n1 => if c = true then Q true m1 n1 else W d (isTrue (.BoolOp .Or rest pos) env whole) m1 n1 Q E) E) : W d (isTrue (.BoolOp .Or (e :: rest) pos) env whole) m news Q E :=
  .mk fun s hs => isTrue_or (h.run hs fun c s1 m1 n1 hs1 h1 => by cases c with | false => exact h1.go s1 hs1 | true => exact ⟨m1, n1, hs1, h1⟩)
theorem W_isOr0 {whole : Sem Value} {Q : Bool → Loc → Led → Prop} (h : Q false m news) : W d (isTrue (.BoolOp .Or [] pos) env whole) m news Q E := .mk fun s hs => isTrue_or_nil ⟨_, _, hs, h⟩
theorem W_isNot {e : Expr} {whole : Sem Value} {Q : Bool → Loc → Led → Prop} (h : W d (isTrue e env (eval e env)) m news (fun c m1 n1 => Q (!c) m1 n1) E) : W d (isTrue (.UnaryOp .Not e pos) env whole) m news Q E :=
  .mk fun s hs => isTrue_not (h.run hs fun c s1 m1 n1 hs1 h1 => ⟨m1, n1, hs1, h1⟩)
theorem W_isPlain {e : Expr} {whole : Sem Value} {Q : Bool → Loc → Led → Prop} (h : W d whole m news (fun v m1 n1 => W d (truthy v) m1 n1 Q E) E)
    (he : isTrue e env whole = (do let v ← whole; standAt e.pos; holding [v] (truthy v)) := by with_unfolding_all rfl) : W d (isTrue e env whole) m news Q E :=
  .mk fun s hs => isTrue_plain (h.run hs fun _ s1 _ _ hs1 h1 => h1.go s1 hs1) he

-- loops
theorem W_While {test : Expr} {body orelse : List Stmt} {Q : Flow → Loc → Led → Prop} (J : Nat → Loc → Led → Prop) {n₀ : Nat} (hJ : J n₀ m news)
    (turn : ∀ n m₁ n₁, J n m₁ n₁ → W d (isTrue test env (eval test env)) m₁ n₁ (fun b m₂ n₂ => if b = true then W d (execs body env) m₂ n₂ (fun f m₃ n₃ => match f with
      | .next | .cont => ∃ n', n' < n ∧ J n' m₃ n₃
      | .brk => Q .next m₃ n₃
      | .ret v => Q (.ret v) m₃ n₃) E else W d (execs orelse env) m₂ n₂ Q E) E) (hE : PassesOwn (model PG d.w) d.A env E) : W d (exec (.While test body orelse pos) env) m news Q E := .mk fun s hs => by
  refine wpAny_While (codeAny_whileLoop (fun n s' => Ex2 fun m₁ n₁ => St d s' m₁ n₁ ∧ J n m₁ n₁) ?_ n₀ ⟨m, news, hs, hJ⟩)
  rintro n s' ⟨m₁, n₁, hs1, J1⟩
  refine wpAny_mono ((turn n m₁ n₁ J1).go s' hs1) (fun b s2 h2 => ?_) hE
  obtain ⟨m2, n2, hs2, h2⟩ := h2
  cases b with
  | false => exact wpAny_mono (h2.go s2 hs2) (fun f s3 h3 => h3) hE
  | true =>
    refine wpAny_mono (h2.go s2 hs2) (fun f s3 h3 => ?_) hE
    obtain ⟨m3, n3, hs3, h3⟩ := h3
    cases f with
    | next => obtain ⟨n', hn, hj⟩ := h3; exact ⟨n', hn, m3, n3, hs3, hj⟩
    | cont => obtain ⟨n', hn, hj⟩ := h3; exact ⟨n', hn, m3, n3, hs3, hj⟩
    | brk => exact ⟨m3, n3, hs3, h3⟩
    | ret v => exact ⟨m3, n3, hs3, h3⟩

/- a source that a for walks: at each number the iterator's object; an item or the end -/
structure Src (d : Dy) (it : Addr) (n : Nat) (I : Nat → Obj → Prop) (V : Nat → Value → Prop) (C : Led → Prop) : Prop where
  item : ∀ i m₁ n₁ o s, i < n → I i o → C n₁ → St d s m₁ ((it, o) :: n₁) → ∀ {Q' : Option Value → Shared → Prop} {E' : Value → Shared → Prop},
    (∀ v o' h' tk, V i v → I (i + 1) o' → St d { s with heap := h', toks := tk } m₁ ((it, o') :: n₁) → Q' (some v) { s with heap := h', toks := tk }) → wpAny (model PG d.w) d.A (pyNext (.ref it)) Q' E' s
  stop : ∀ m₁ n₁ o s, I n o → C n₁ → St d s m₁ ((it, o) :: n₁) → ∀ {Q' : Option Value → Shared → Prop} {E' : Value → Shared → Prop},
    (∀ h' tk, St d { s with heap := h', toks := tk } m₁ n₁ → Q' none { s with heap := h', toks := tk }) → wpAny (model PG d.w) d.A (pyNext (.ref it)) Q' E' s

theorem W_loop {x : Str} {px : Pos} {body : List Stmt} {Q : Flow → Loc → Led → Prop} {it : Addr} {n : Nat} {I : Nat → Obj → Prop} {V : Nat → Value → Prop} {C : Led → Prop} (S : Src d it n I V C) (J : Nat → Loc → Led → Prop)
    (hC : ∀ i m₁ n₁, J i m₁ n₁ → C n₁)
    (turn : ∀ i v m₁ n₁, i < n → V i v → J i m₁ n₁ → W (d.hide it (I (i + 1))) (storeName env x v) m₁ n₁ (fun _ m₂ n₂ => W (d.hide it (I (i + 1))) (execs body env) m₂ n₂ (fun f m₃ n₃ => match f with
      | .next | .cont => J (i + 1) m₃ n₃
      | .brk => Q .next m₃ n₃
      | .ret v => Q (.ret v) m₃ n₃) E) E)
    (done : ∀ m₁ n₁, J n m₁ n₁ → Q .next m₁ n₁) (hE : PassesOwn (model PG d.w) d.A env E) {o₀ : Obj} (hI : I 0 o₀) (hJ : J 0 m news) (hs : St d s m ((it, o₀) :: news)) :
    codeAny (model PG d.w) d.A (.forLoop (.Name x px) (.ref it) body [] env) (fun r s' => match r with | .ok f => Ex2 fun m' n' => St d s' m' n' ∧ Q f m' n' | .error e => cameBackBy (model PG d.w) d.A env E e s') s := by
  refine codeAny_forLoop (fun k s' => Ex4 fun i m₁ n₁ o => And5 (k = n - i) (i ≤ n) (I i o) (J i m₁ n₁) (St d s' m₁ ((it, o) :: n₁))) ?_ n ⟨0, m, news, o₀, by simp, Nat.zero_le _, hI, hJ, hs⟩
  rintro k s' ⟨i, m₁, n₁, o, rfl, hi, hIo, hJi, hs1⟩
  by_cases hlt : i < n
  · refine S.item i m₁ n₁ o s' hlt hIo (hC _ _ _ hJi) hs1 fun v o' h' tk hv hI' hs2 => ?_
    show wpAny _ _ (standAt px >>= fun _ => bindName env x v) _ _ _
    refine wpAny_bind (wpAny_standAt (wpAny_bindName (wpAny_mono ((turn i v m₁ n₁ hlt hv hJi).go _ (hs2.hide hI')) (fun _ s3 h3 => ?_) hE)))
    obtain ⟨m3, n3, hs3, h3⟩ := h3
    refine wpAny_mono (h3.go s3 hs3) (fun f s4 h4 => ?_) hE
    obtain ⟨m4, n4, hs4, h4⟩ := h4
    obtain ⟨o4, hI4, hs4'⟩ := hs4.show'
    cases f with
    | next => exact ⟨n - (i + 1), by omega, i + 1, m4, n4, o4, rfl, hlt, hI4, h4, hs4'⟩
    | cont => exact ⟨n - (i + 1), by omega, i + 1, m4, n4, o4, rfl, hlt, hI4, h4, hs4'⟩
    | brk => exact ⟨m4, n4, hs4'.sub (List.sublist_cons_self ..), h4⟩
    | ret v => exact ⟨m4, n4, hs4'.sub (List.sublist_cons_self ..), h4⟩
  · obtain rfl : i = n := by omega
    refine S.stop m₁ n₁ o s' hIo (hC _ _ _ hJi) hs1 fun h' tk hs2 => ?_
    exact wpAny_execs_nil ⟨m₁, n₁, hs2, done _ _ hJi⟩

/- for x in a range from nought -/
noncomputable def rangeIt (i : Nat) (n : Nat) (o : Obj) : Prop := o = { cls := .type "range_iterator", dict := none, data := .fields #[rawInt i, rawInt ((n : Int) - i), rawInt 1], slots := #[] }
theorem src_range {it : Addr} {n : Nat} (hh : d.A.handled = none) : Src d it n (fun i o => rangeIt i n o) (fun i v => ∃ t, v = .int i t) (fun _ => True) where
  item := by
    rintro i m₁ n₁ o s hi rfl _ hs Q' E' k
    refine wpAny_pyNext_range_item (x := i) (left := (n : Int) - i) (step := 1) (hs.mem (.head _)) (by omega) fun h' hit hb => ?_
    refine k _ _ h' (s.toks + 1) ⟨_, rfl⟩ rfl ?_
    refine hs.update (g := fun o' => (it, o') :: n₁) _ .here hb ?_
    have e : ((n : Int) - i - 1) = (n : Int) - ((i + 1 : Nat) : Int) := by omega
    have e2 : ((i : Int) + 1) = ((i + 1 : Nat) : Int) := by omega
    rw [e, e2] at hit
    exact hit
  stop := by
    rintro m₁ n₁ o s rfl _ hs Q' E' k
    refine wpAny_pyNext_range_end (x := n) (left := (n : Int) - n) (step := 1) hh (hs.mem (.head _)) (by omega) fun h' hb => ?_
    exact k h' s.toks (hs.extBut _ hb)
end
end Mine

open PySem PySem.W PyProof.Rows
set_option Elab.async false
set_option linter.unusedVariables false
set_option maxRecDepth 100000
set_option maxHeartbeats 4000000
namespace Mine
open PySem.Spec PySem.Calls
noncomputable abbrev listO (vs : List Value) (n : Nat) : Obj := { cls := .type "list", data := .seq vs.toArray n }
noncomputable abbrev tupO (vs : List Value) (n : Nat) : Obj := { cls := .type "tuple", data := .seq vs.toArray n }
noncomputable abbrev rangeO (n : Int) (t u v : Tok) : Obj := { cls := .type "range", dict := none, data := .fields #[.int 0 t, .int n u, .int 1 v], slots := #[] }
section
variable {d : Dy} {m : Loc} {news : Led} {E : Value → Shared → Prop} {env : Env} {pos : Pos} {s : Shared}
variable {cn : Str} {cs : Scope} {a : Addr} {ccd : Value} {cl : List (Str × Addr)} {x : Str} {v : Value}

-- calls
theorem W_Call {func : Expr} {args : List Expr} {Q : Value → Loc → Led → Prop} (h : W d (eval func env) m news (fun f m1 n1 => W d (callWith pos f [] (backTo pos (starEach args env)) []) m1 n1 Q E) E)
    (he : eval (.Call func args [] pos) env = (do let f ← eval func env; callWith pos f [] (backTo pos (starEach args env)) (backToKw pos (keywordEach [] env))) := by with_unfolding_all rfl) : W d (eval (.Call func args [] pos) env) m news Q E :=
  .mk fun s hs => Call_ (h.run hs fun _ s1 _ _ hs1 h1 => h1.go s1 hs1) he
theorem W_cwK {f : Value} {first : List Value} {e : Expr} {rest : List Expr} {Q : Value → Loc → Led → Prop} (hk : keepIn (hd.heap_39 d.w.params) f = true)
    (h : W d (spliced (backTo pos (starEach (e :: rest) env))) m news (fun vs m1 n1 => W d (call f (first ++ vs)) m1 n1 Q E) E)
    (he : starEach (e :: rest) env = (false, eval e env) :: starEach rest env := by with_unfolding_all rfl) (hp : (backTo pos (starEach rest env)).any (·.1) = false := by with_unfolding_all rfl) :
    W d (callWith pos f first (backTo pos (starEach (e :: rest) env)) []) m news Q E :=
  .mk fun s hs => callWith_K d.K hk (h.run hs fun _ s1 _ _ hs1 h1 => ⟨d.K.keeps hs1.F.keep, h1.go s1 hs1⟩) he hp
theorem W_cwK0 {f : Value} {first : List Value} {Q : Value → Loc → Led → Prop} (hk : keepIn (hd.heap_39 d.w.params) f = true) (h : W d (call f (first ++ [])) m news Q E) : W d (callWith pos f first (backTo pos (starEach [] env)) []) m news Q E :=
  .mk fun s hs => callWith_K0 (d.K.keeps hs.F.keep) hk (h.go s hs)
theorem W_cwB {id : String} {first : List Value} {e : Expr} {rest : List Expr} {Q : Value → Loc → Led → Prop} (h : W d (spliced (backTo pos (starEach (e :: rest) env))) m news (fun vs m1 n1 => W d (call (.builtin id) (first ++ vs)) m1 n1 Q E) E)
    (he : starEach (e :: rest) env = (false, eval e env) :: starEach rest env := by with_unfolding_all rfl) (hp : (backTo pos (starEach rest env)).any (·.1) = false := by with_unfolding_all rfl) :
    W d (callWith pos (.builtin id) first (backTo pos (starEach (e :: rest) env)) []) m news Q E :=
  .mk fun s hs => callWith_method1 (h.run hs fun _ s1 _ _ hs1 h1 => h1.go s1 hs1) he hp
theorem W_cwB0 {id : String} {first : List Value} {Q : Value → Loc → Led → Prop} (h : W d (call (.builtin id) first) m news Q E) : W d (callWith pos (.builtin id) first (backTo pos (starEach [] env)) []) m news Q E :=
  .mk fun s hs => callWith_method0 (h.go s hs)
theorem W_cwT {T : String} {e : Expr} {rest : List Expr} {Q : Value → Loc → Led → Prop} (h : W d (spliced (backTo pos (starEach (e :: rest) env))) m news (fun vs m1 n1 => W d (call (.type T) vs) m1 n1 Q E) E)
    (he : starEach (e :: rest) env = (false, eval e env) :: starEach rest env := by with_unfolding_all rfl) (hp : (backTo pos (starEach rest env)).any (·.1) = false := by with_unfolding_all rfl) :
    W d (callWith pos (.type T) [] (backTo pos (starEach (e :: rest) env)) []) m news Q E :=
  .mk fun s hs => PyProof.Rows.callWith_type1 (h.run hs fun _ s1 _ _ hs1 h1 => h1.go s1 hs1) he hp
theorem W_spl0 {Q : List Value → Loc → Led → Prop} (h : Q [] m news) : W d (spliced (backTo pos (starEach [] env))) m news Q E := .mk fun s hs => spliced_none ⟨_, _, hs, h⟩
theorem W_spl {e : Expr} {rest : List Expr} {Q : List Value → Loc → Led → Prop} (h : W d (eval e env) m news (fun v m1 n1 => W d (spliced (backTo pos (starEach rest env))) m1 n1 (fun vs m2 n2 => Q (v :: vs) m2 n2) E) E)
    (he : starEach (e :: rest) env = (false, eval e env) :: starEach rest env := by with_unfolding_all rfl) : W d (spliced (backTo pos (starEach (e :: rest) env))) m news Q E :=
  .mk fun s hs => spliced_more (h.run hs fun _ s1 _ _ hs1 h1 => h1.run hs1 fun _ s2 m2 n2 hs2 h2 => ⟨m2, n2, hs2, h2⟩) he

theorem W_range {n : Int} {t : Tok} {Q : Value → Loc → Led → Prop} (h : ∀ r t₁ u₁ v₁, Q (.ref r) m ((r, rangeO n t₁ u₁ v₁) :: news)) : W d (call (.type "range") [.int n t]) m news Q E := .mk fun s hs =>
  range1_rows hs.F hs.nw fun h' tk t₁ u₁ v₁ hr _ _ hk => ⟨_, _, hs.grown tk hk hr, h _ _ _ _⟩

/- a frame of its own, behind this one -/
noncomputable def Dy.callee (d : Dy) (env : Env) (L : Addr) (m : Loc) (hr : 0 < d.room) (hk : env.scope.kind = .function) (hf : env.frame = some L) : Dy :=
  { d with A := d.A.deeper env, L := L, fr := (d.L, m) :: d.fr, room := d.room - 1, envs := env :: d.envs,
           hroom := by have := d.hroom; constructor <;> simp only [Around.deeper] <;> omega,
           hfr := by simp only [Around.deeper, d.hfr]; rfl,
           hfe := fun e he => by
             rcases List.mem_cons.mp he with rfl | he
             · exact ⟨by rw [hk]; decide, _, hf, .inl rfl⟩
             · obtain ⟨k1, a, k2, k3⟩ := d.hfe e he
               exact ⟨k1, a, k2, .inr (by rcases k3 with rfl | k3; exact .head _; exact .tail _ k3)⟩ }
theorem St.enter {L : Addr} {hr : 0 < d.room} {hk : env.scope.kind = .function} {hf : env.frame = some L} {h₁ : Heap} {tk : Nat} {m₁ : Loc} (hs : St d s m news) (hL' : L = s.heap.objs.size) (hns : h₁.Ns L m₁) (hk₁ : ∀ b o, s.heap.get? b = some o → h₁.get? b = some o) :
    St (d.callee env L m hr hk hf) { s with heap := h₁, toks := tk } m₁ news := by
  subst hL'
  obtain ⟨fs, hf, N, nd⟩ := hs.N
  obtain ⟨oL, es, ep, hL, hLd, hLk, hLf⟩ := hs.F.ns
  obtain ⟨hh, hff⟩ := hf
  rename_i hs0 ff
  have lt : ∀ p ∈ news ++ (hs0 ++ ff), p.1 < s.heap.objs.size := fun p hp => Heap.lt_size (N p hp).1
  refine ⟨⟨hns, fun b o e => hk₁ b o (hs.F.keep b o e), Nat.le_trans hs.F.above (Nat.le_of_lt (Heap.lt_size hL))⟩, ⟨hs0 ++ (d.L, oL) :: ff, .mk hh (.cons ⟨es, ep, hLd, hLk, hLf⟩ hff), ?_, ?_⟩, hs.gens, hs.drawn, hs.os⟩
  · intro p hp
    have hp' : p = (d.L, oL) ∨ p ∈ news ++ (hs0 ++ ff) := by simpa [or_left_comm, or_assoc] using hp
    rcases hp' with rfl | hp'
    · exact ⟨hk₁ _ _ hL, Nat.ne_of_lt (Heap.lt_size hL), Heap.get?_none_of_le hs.F.above⟩
    · exact ⟨hk₁ _ _ (N p hp').1, Nat.ne_of_lt (lt p hp'), (N p hp').2.2⟩
  · have pm : (news ++ (hs0 ++ (d.L, oL) :: ff)).Perm ((d.L, oL) :: (news ++ (hs0 ++ ff))) := by
      rw [← List.append_assoc, ← List.append_assoc]; exact List.perm_middle
    refine (pm.map _).nodup_iff.mpr ?_
    rw [List.map_cons]
    refine List.nodup_cons.mpr ⟨fun hm => ?_, nd⟩
    obtain ⟨p, hp, e⟩ := List.mem_map.mp hm
    exact (N p hp).2.1 e
theorem St.leave {L : Addr} {hr : 0 < d.room} {hk : env.scope.kind = .function} {hf : env.frame = some L} {m' : Loc} {n' : Led} (hs' : St (d.callee env L m hr hk hf) s m' n') (above : d.base.objs.size ≤ d.L) : St d s m n' := by
  obtain ⟨fs', hf', N', nd'⟩ := hs'.N
  obtain ⟨hh', hff'⟩ := hf'
  rename_i hs1 ff'
  obtain ⟨oL', fs2, rfl, hoL, hf2⟩ : Ex2 fun oL' fs2 => And3 (ff' = (d.L, oL') :: fs2) (NsObj m oL') (FrOk d.fr fs2) := by cases hff' with | cons hp hf' => exact ⟨_, _, rfl, hp, hf'⟩
  have pm : (n' ++ (hs1 ++ (d.L, oL') :: fs2)).Perm ((d.L, oL') :: (n' ++ (hs1 ++ fs2))) := by
    rw [← List.append_assoc, ← List.append_assoc]; exact List.perm_middle
  have nd2 := (pm.map _).nodup_iff.mp nd'
  rw [List.map_cons] at nd2
  have hL' := (N' (d.L, oL') (pm.mem_iff.mpr (.head _))).1
  obtain ⟨es', ep', x1, x2, x3⟩ := hoL
  exact ⟨⟨⟨oL', es', ep', hL', x1, x2, x3⟩, hs'.F.keep, above⟩, ⟨hs1 ++ fs2, .mk hh' hf2, fun p hp => ⟨(N' p (pm.mem_iff.mpr (.tail _ hp))).1, fun e => (List.nodup_cons.mp nd2).1 (List.mem_map.mpr ⟨p, hp, e⟩), (N' p (pm.mem_iff.mpr (.tail _ hp))).2.2⟩, (List.nodup_cons.mp nd2).2⟩, hs'.gens, hs'.drawn, hs'.os⟩

/- entering a def of the text that has no cells; EX: what its raise comes to -/
theorem W_callG {f : Addr} {args : List Value} {binds : List (Str × Value)} {name qual : Str} {params : Arguments} {body : List Stmt} {scope : Scope} {dV kV doc pm cdv ct oc : Value} {an od : Option Addr} {osl : Array (Option Value)} {Q : Value → Loc → Led → Prop}
    (ho : (hd.heap_39 d.w.params).lookup f = some ⟨oc, od, .func (fnOf name qual params body scope dV kV doc pm an cdv ct), osl⟩) (hcd : codeIn (hd.heap_39 d.w.params) cdv qual = true) (hroom : 0 < d.room)
    (hbind : bindArgs (fnOf name qual params body scope dV kV doc pm an cdv ct) ⟨args, []⟩ = pure binds) (hloc : ∀ y ∈ binds, scope.names.lookup y.1 = some .local)
    (hcell : ∀ x ∈ scope.names, x.2 ≠ .cell) (hco : scope.isCoroutine = false) (hgen : scope.isGenerator = false) (hk : scope.kind = .function)
    (h : ∀ L, ∃ E', W (d.callee (envX qual scope L f cdv []) L m hroom hk rfl) (execs body (envX qual scope L f cdv [])) (fun y => binds.reverse.lookup y) news (fun fl m' n' => ∃ n'', n''.Sublist n' ∧ Q (match fl with | .ret v => v | _ => .none) m n'') E' ∧
      ∀ ev s, d.base.objs.size ≤ d.L → E' ev s → wpAny (model PG d.w) (d.A.deeper (envX qual scope L f cdv [])) (leaving (envX qual scope L f cdv []) ev) (fun _ s'' => E ev s'') E s) :
    W d (call (.ref f) args) m news Q E := .mk fun s hs => by
  obtain ⟨loose, mg, mb, mean, T⟩ := d.T
  have X := d.K.keeps hs.F.keep
  have hr := d.hroom
  refine wpAny_call (codeAny_call_def (fd := fnOf name qual params body scope dV kV doc pm an cdv ct) (body := body) (binds := binds) (by omega) (X _ _ ho) rfl (T.nolimit.keeps hs.F.keep) (codeRec_of X hcd) rfl (BindsTo.of_eq hbind) hcell hloc (fun h₁ hns hk₁ => ?_) hco hgen hk)
  obtain ⟨E', hW, hX⟩ := h s.heap.objs.size
  refine wpAny_mono (hW.go _ (St.enter (tk := s.toks + binds.length) hs rfl hns hk₁)) (fun fl s' hl => ?_) fun ev s' hx => hX ev s' hs.F.above hx
  obtain ⟨m', n', hs', n'', hsub, hq⟩ := hl
  exact ⟨m, n'', (hs'.leave hs.F.above).sub hsub, hq⟩

theorem W_call {f : Addr} {args : List Value} {binds : List (Str × Value)} {name qual : Str} {params : Arguments} {body : List Stmt} {scope : Scope} {dV kV doc pm cdv ct oc : Value} {an od : Option Addr} {osl : Array (Option Value)} {Q : Value → Loc → Led → Prop}
    (ho : (hd.heap_39 d.w.params).lookup f = some ⟨oc, od, .func (fnOf name qual params body scope dV kV doc pm an cdv ct), osl⟩) (hcd : codeIn (hd.heap_39 d.w.params) cdv qual = true) (hroom : 0 < d.room)
    (hbind : bindArgs (fnOf name qual params body scope dV kV doc pm an cdv ct) ⟨args, []⟩ = pure binds) (hloc : ∀ y ∈ binds, scope.names.lookup y.1 = some .local)
    (h : ∀ d' : Dy, d'.room + 1 = d.room → d'.A.handled = d.A.handled → (∃ outer, d'.envs = envX qual scope d'.L f cdv [] :: outer) → W d' (execs body (envX qual scope d'.L f cdv [])) (fun y => binds.reverse.lookup y) news (fun fl m' n' => ∃ n'', n''.Sublist n' ∧ Q (match fl with | .ret v => v | _ => .none) m n'') (fun _ _ => False))
    (hcell : ∀ x ∈ scope.names, x.2 ≠ .cell := by decide) (hco : scope.isCoroutine = false := by rfl) (hgen : scope.isGenerator = false := by rfl) (hk : scope.kind = .function := by rfl) :
    W d (call (.ref f) args) m news Q E :=
  W_callG ho hcd hroom hbind hloc hcell hco hgen hk fun L => ⟨fun _ _ => False, h (d.callee (envX qual scope L f cdv []) L m hroom hk rfl) (by show d.room - 1 + 1 = d.room; omega) rfl ⟨d.envs, rfl⟩, fun _ _ _ x => x.elim⟩

theorem small_nat {n : Nat} (h : n < 1000000) : Builtin.Range.small 0 n 1 = true ∧ Builtin.Range.rangeSize 0 n 1 = n := by
  refine ⟨small_one (by omega) (by omega) (by omega) (by omega), ?_⟩
  rw [rangeSize_one]
  split <;> omega

theorem W_ForRange {px : Pos} {iterE : Expr} {body : List Stmt} {Q : Flow → Loc → Led → Prop} {n : Nat} (J : Nat → Loc → Led → Prop) (hn : n < 1000000) (hh : d.A.handled = none)
    (h : W d (eval iterE env) m news (fun v m1 n1 => Ex4 fun r t₁ u₁ v₁ => And3 (v = .ref r) ((r, rangeO n t₁ u₁ v₁) ∈ n1) (J 0 m1 n1)) E)
    (turn : ∀ it i t m₁ n₁, i < n → J i m₁ n₁ → W (d.hide it (rangeIt (i + 1) n)) (storeName env x (.int i t)) m₁ n₁ (fun _ m₂ n₂ => W (d.hide it (rangeIt (i + 1) n)) (execs body env) m₂ n₂ (fun f m₃ n₃ => match f with
      | .next | .cont => J (i + 1) m₃ n₃
      | .brk => Q .next m₃ n₃
      | .ret v => Q (.ret v) m₃ n₃) E) E)
    (done : ∀ m₁ n₁, J n m₁ n₁ → Q .next m₁ n₁) (hE : PassesOwn (model PG d.w) d.A env E) (hi : ∀ v, foldedSetIterable iterE env v = pure v := by intro _; rfl) : W d (exec (.For (.Name x px) iterE body [] pos) env) m news Q E := .mk fun s hs => by
  refine wpAny_For (h.run hs fun v s1 m1 n1 hs1 h1 => ?_) hi
  obtain ⟨r, t₁, u₁, v₁, rfl, hr, hJ⟩ := h1
  refine wpAny_pyIter_range (hs1.mem hr) (small_nat hn).1 ?_
  rw [(small_nat hn).2]
  exact W_loop (src_range hh) J (fun _ _ _ _ => trivial) (fun i v m₁ n₁ hi hv hj => by obtain ⟨t, rfl⟩ := hv; exact turn _ i t m₁ n₁ hi hj) done hE (o₀ := { cls := .type "range_iterator", data := .fields #[rawInt 0, rawInt (n : Int), rawInt 1] }) (by simp [rangeIt]) hJ (hs1.push _)

theorem listO_isList {h : Heap} {l : Addr} {vs : List Value} {k : Nat} (e : h.get? l = some (listO vs k)) : h.IsList l vs.toArray := ⟨_, e, rfl, k, rfl⟩
noncomputable def listIt (l : Addr) (i : Nat) (o : Obj) : Prop := o.cls = .type "list_iterator" ∧ o.data = .fields #[.ref l, .int i 0]
theorem src_list {it l : Addr} {vs : List Value} {k : Nat} (hh : d.A.handled = none) : Src d it vs.length (fun i o => listIt l i o) (fun i v => vs[i]? = some v) (fun n₁ => (l, listO vs k) ∈ n₁) where
  item := by
    rintro i m₁ n₁ o s hi ⟨hc, hd⟩ hl hs Q' E' kk
    refine wpAny_pyNext_list_item (x := vs[i]) ⟨o, hs.mem (.head _), hc, hd⟩ (listO_isList (hs.mem (.tail _ hl))) (by simp [hi]) fun h' hit hb => ?_
    obtain ⟨o', ho', hc', hd'⟩ := hit
    exact kk _ o' h' s.toks (by simp [hi]) ⟨hc', hd'⟩ (hs.update (g := fun o' => (it, o') :: n₁) _ .here hb ho')
  stop := by
    rintro m₁ n₁ o s ⟨hc, hd⟩ hl hs Q' E' kk
    refine wpAny_pyNext_list_end (i := vs.length) hh ⟨o, hs.mem (.head _), hc, hd⟩ (listO_isList (hs.mem (.tail _ hl))) (by simp) fun h' hb => ?_
    exact kk h' s.toks (hs.extBut _ hb)

theorem W_ForList {px : Pos} {iterE : Expr} {body : List Stmt} {Q : Flow → Loc → Led → Prop} {l : Addr} {vs : List Value} {k : Nat} (J : Nat → Loc → Led → Prop) (hh : d.A.handled = none)
    (h : W d (eval iterE env) m news (fun v m1 n1 => v = .ref l ∧ J 0 m1 n1) E) (hl : ∀ i m₁ n₁, J i m₁ n₁ → (l, listO vs k) ∈ n₁)
    (turn : ∀ it i v m₁ n₁, i < vs.length → vs[i]? = some v → J i m₁ n₁ → W (d.hide it (listIt l (i + 1))) (storeName env x v) m₁ n₁ (fun _ m₂ n₂ => W (d.hide it (listIt l (i + 1))) (execs body env) m₂ n₂ (fun f m₃ n₃ => match f with
      | .next | .cont => J (i + 1) m₃ n₃
      | .brk => Q .next m₃ n₃
      | .ret v => Q (.ret v) m₃ n₃) E) E)
    (done : ∀ m₁ n₁, J vs.length m₁ n₁ → Q .next m₁ n₁) (hE : PassesOwn (model PG d.w) d.A env E) (hi : ∀ v, foldedSetIterable iterE env v = pure v := by intro _; rfl) : W d (exec (.For (.Name x px) iterE body [] pos) env) m news Q E := .mk fun s hs => by
  refine wpAny_For (h.run hs fun v s1 m1 n1 hs1 h1 => ?_) hi
  obtain ⟨rfl, hJ⟩ := h1
  refine wpAny_pyIter_list (listO_isList (hs1.mem (hl _ _ _ hJ))) ?_
  exact W_loop (src_list (k := k) hh) J hl (fun i v m₁ n₁ hi hv hj => turn _ i v m₁ n₁ hi hv hj) done hE (o₀ := { cls := .type "list_iterator", data := .fields #[.ref l, .int 0 0] }) ⟨rfl, rfl⟩ hJ (hs1.push _)
end
end Mine

open PySem PySem.W PyProof.Rows
set_option Elab.async false
set_option linter.unusedVariables false
set_option maxRecDepth 100000
set_option maxHeartbeats 4000000
namespace Mine
open PySem.Spec PySem.Calls
section
variable {d : Dy} {m : Loc} {news : Led} {E : Value → Shared → Prop} {env : Env} {pos : Pos} {s : Shared}
variable {cn : Str} {cs : Scope} {a : Addr} {ccd : Value} {cl : List (Str × Addr)} {x : Str} {v : Value}
variable {i j : Int} {t u : Tok} {Q : Value → Loc → Led → Prop} {y z : Str} {value slice : Expr} {vs : List Value} {k : Nat}

theorem tupO_isTup {h : Heap} {l : Addr} (e : h.get? l = some (tupO vs k)) : IsTup h l vs.toArray := ⟨_, e, rfl, k, rfl⟩
theorem W_itemL (hm : (a, listO vs k) ∈ news) (h0 : 0 ≤ i) (hx : vs[i.toNat]? = some v) (h : Q v m news) (hz : i < 2 ^ 63 := by omega)
    (hs : subscripted slice false (.ref a) (.int i u) = operate [.ref a, .int i u] (getItem (.ref a) (.int i u)) := by rfl) (hl : ∀ r, letTemporaryGo value (.ref a) r = pure () := by intro _; rfl) :
    W d (subscriptTail value slice (.ref a) (.int i u)) m news Q E := .mk fun s h' => item_listL (listO_isList (h'.mem hm)) h0 hz hx ⟨_, _, h', h⟩ hs hl
theorem W_itemT {n : Nat} (hm : (a, tupO vs k) ∈ news) (hi : seqIndex? i vs.length = some n) (hx : vs[n]? = some v) (h : Q v m news) (hz0 : -2 ^ 63 ≤ i := by omega) (hz : i < 2 ^ 63 := by omega)
    (hs : subscripted slice false (.ref a) (.int i u) = operate [.ref a, .int i u] (getItem (.ref a) (.int i u)) := by rfl) :
    W d (subscriptTail value slice (.ref a) (.int i u)) m news Q E := .mk fun s h' => item_tupleT (tupO_isTup (h'.mem hm)) hz0 hz hi hx ⟨_, _, h', h⟩ hs

theorem W_Tuple {elts : List Expr} {k : Nat} (h : W d (spliced (backTo pos (starEach elts env))) m news (fun vs m1 n1 => W d (newTuple vs) m1 n1 Q E) E) : W d (eval (.Tuple elts k pos) env) m news Q E :=
  .mk fun s hs => Tuple_ (h.run hs fun _ s1 _ _ hs1 h1 => h1.go s1 hs1)
theorem W_List {elts : List Expr} (h : W d (spliced (backTo pos (starEach elts env))) m news (fun vs m1 n1 => W d (newList vs) m1 n1 Q E) E) : W d (eval (.List elts pos) env) m news Q E :=
  .mk fun s hs => List_ (h.run hs fun _ s1 _ _ hs1 h1 => h1.go s1 hs1)
theorem W_newTuple (hz : vs.length ≤ sizeLine) (h : ∀ l, Q (.ref l) m ((l, tupO vs 0) :: news)) : W d (newTuple vs) m news Q E :=
  .mk fun s hs => wpAny_newObj_type ⟨_, _, hs.push _, h _⟩ (by show vs.toArray.size ≤ sizeLine; rw [List.size_toArray]; exact hz)
theorem W_newList (hz : vs.length ≤ sizeLine) (h : ∀ l, Q (.ref l) m ((l, listO vs 0) :: news)) : W d (newList vs) m news Q E :=
  .mk fun s hs => wpAny_newObj_type ⟨_, _, hs.push _, h _⟩ (by show vs.toArray.size ≤ sizeLine; rw [List.size_toArray]; exact hz)
theorem listO_push (vs : List Value) (v : Value) (k : Nat) : listOf (vs.toArray.push v) k = listO (vs ++ [v]) k := by simp
theorem W_append {g : Obj → Led} (hs : Sel a (listO vs k) news g) (hz : vs.length ≤ sizeLine) (h : Q .none m (g (listO (vs ++ [v]) (k + 1)))) : W d (call (.builtin "list.append") [.ref a, v]) m news Q E := .mk fun s h' => by
  obtain ⟨fs, hf, N, nd⟩ := h'.N
  have U := (hs.app fs).updF nd
  obtain ⟨own, rest, e, hg, h1, h2⟩ := U.split
  have U2 : Upd a (listOf vs.toArray k) (listOf (vs.toArray.push v) (k + 1)) (news ++ fs) (g (listO (vs ++ [v]) (k + 1)) ++ fs) := by
    rw [listO_push]
    have : ∀ {l : Led} {g : Obj → Led}, UpdF a (listO vs k) l g → Upd a (listO vs k) (listO (vs ++ [v]) (k + 1)) l (g (listO (vs ++ [v]) (k + 1))) := by
      intro l g u
      induction u with
      | head h => exact .head h
      | tail h _ ih => exact .tail h ih
    exact this U
  exact append_K h'.F N U2 (fun h'' F' N' => ⟨_, _, h'.heap hf _ F' N' (by rw [List.map_append, hs.keys, ← List.map_append]; exact nd), h⟩) (by simpa using hz)
theorem W_min (hh : d.A.handled = none) (h : ∀ t', Q (.int (if j < i then j else i) t') m news) : W d (call (.builtin "min") [.int i t, .int j u]) m news Q E := .mk fun s hs => by
  obtain ⟨fs, hf, N, nd⟩ := hs.N
  exact min_two_N hh hs.F N fun h' tk F' N' => ⟨_, _, hs.heap hf _ F' N' nd, h _⟩

theorem W_sliceS {lo hi : Expr} {p : Pos} (h : W d (eval value env) m news (fun o m1 n1 => W d (eval lo env) m1 n1 (fun vi m2 n2 => W d (eval hi env) m2 n2 (fun vj m3 n3 => Ex6 fun y t i ui j uj => And5 (o = .str y t) (vi = .int i ui) (vj = .int j uj) (y.length ≤ sizeLine) (∀ t', Q (.str (Txt.slice y (some i) (some j)) t') m3 n3)) E) E) E)
    (ht : ∀ o r, letTemporaryGo value o r = pure () := by intro _ _; with_unfolding_all rfl) : W d (eval (.Subscript value (.Slice (some lo) (some hi) none p) pos) env) m news Q E := .mk fun s hs => by
  refine Subscript_ (h.run hs fun o s1 m1 n1 hs1 h1 => wpAny_Slice (wpAny_evalPart_some (h1.run hs1 fun vi s2 m2 n2 hs2 h2 => wpAny_evalPart_some (h2.run hs2 fun vj s3 m3 n3 hs3 h3 => wpAny_pure ?_))))
  obtain ⟨y, t, i, ui, j, uj, rfl, rfl, rfl, hz, hq⟩ := h3
  obtain ⟨fs, hf, N, nd⟩ := hs3.N
  exact slice_strN_ss hs3.F N (fun h' t' k F' N' => ⟨_, _, hs3.heap hf _ F' N' nd, hq _⟩) (by rfl) (ht _) hz

theorem W_cut {st : Stmt} {rest : List Stmt} {Q : Flow → Loc → Led → Prop} (P : Loc → Led → Prop) (h1 : W d (exec st env) m news (fun f m' n' => f = .next ∧ P m' n') E) (h2 : ∀ m' n', P m' n' → W d (execs rest env) m' n' Q E) :
    W d (execs (st :: rest) env) m news Q E := W_cons (h1.mono fun f m' n' ⟨e, hp⟩ => by subst e; exact h2 m' n' hp)
theorem fits_small {i : Int} (h0 : -1000000000 ≤ i) (h1 : i < 1000000000) : fitsSsize i = true := by
  unfold fitsSsize
  simp
  omega
theorem ifT {P R : Prop} (h : P) : (if true = true then P else R) := by rw [if_pos rfl]; exact h
theorem ifF {P R : Prop} (h : R) : (if false = true then P else R) := by rw [if_neg (by decide)]; exact h
end
end Mine

open PySem PySem.W PyProof.Rows
set_option Elab.async false
set_option linter.unusedVariables false
set_option maxRecDepth 100000
set_option maxHeartbeats 4000000
namespace Mine
open PySem.Spec PySem.Calls
/- the locals by place -/
noncomputable def Lv : List Str → List (Option Value) → Loc
  | x :: xs, v :: vs => fun y => if y = x then v else Lv xs vs y
  | _, _ => fun _ => none
inductive At : List Str → List (Option Value) → Str → Value → Prop
  | here {x : Str} {v : Value} {xs : List Str} {vs : List (Option Value)} : At (x :: xs) (some v :: vs) x v
  | there {x y : Str} {v : Value} {w : Option Value} {xs : List Str} {vs : List (Option Value)} : At xs vs x v → At (y :: xs) (w :: vs) x v
inductive Put : List Str → List (Option Value) → Str → Value → List (Option Value) → Prop
  | here {x : Str} {v : Value} {w : Option Value} {xs : List Str} {vs : List (Option Value)} : Put (x :: xs) (w :: vs) x v (some v :: vs)
  | there {x y : Str} {v : Value} {w : Option Value} {xs : List Str} {vs vs' : List (Option Value)} : Put xs vs x v vs' → Put (y :: xs) (w :: vs) x v (w :: vs')
theorem At.mem {xs : List Str} {vs : List (Option Value)} {x : Str} {v : Value} (h : At xs vs x v) : x ∈ xs := by
  induction h with
  | here => exact .head _
  | there _ ih => exact .tail _ ih
theorem Put.mem {xs : List Str} {vs vs' : List (Option Value)} {x : Str} {v : Value} (h : Put xs vs x v vs') : x ∈ xs := by
  induction h with
  | here => exact .head _
  | there _ ih => exact .tail _ ih
theorem At.get {xs : List Str} {vs : List (Option Value)} {x : Str} {v : Value} (h : At xs vs x v) (nd : xs.Nodup) : Lv xs vs x = some v := by
  induction h with
  | here => simp [Lv]
  | @there x y v w xs vs h ih =>
    have hd := List.nodup_cons.mp nd
    have ne : y ≠ x := fun e => hd.1 (e ▸ h.mem)
    show (if x = y then w else Lv xs vs x) = some v
    rw [if_neg (Ne.symm ne)]
    exact ih hd.2
theorem Put.eq {xs : List Str} {vs vs' : List (Option Value)} {x : Str} {v : Value} (h : Put xs vs x v vs') (nd : xs.Nodup) : (fun y => if y = x then some v else Lv xs vs y) = Lv xs vs' := by
  induction h with
  | @here x v w xs vs =>
    funext y
    show (if y = x then some v else if y = x then w else Lv xs vs y) = if y = x then some v else Lv xs vs y
    by_cases e : y = x
    · rw [if_pos e, if_pos e]
    · rw [if_neg e, if_neg e, if_neg e]
  | @there x y v w xs vs vs' h ih =>
    have hd := List.nodup_cons.mp nd
    have ne : y ≠ x := fun e => hd.1 (e ▸ h.mem)
    funext z
    have i := congrFun (ih hd.2) z
    show (if z = x then some v else if z = y then w else Lv xs vs z) = if z = y then w else Lv xs vs' z
    by_cases e : z = y
    · subst e; rw [if_neg ne, if_pos rfl, if_pos rfl]
    · rw [if_neg e, if_neg e]; exact i

structure Nm (cs : Scope) (LN GN : List Str) : Prop where
  nd : LN.Nodup
  loc : ∀ x ∈ LN, cs.names.lookup x = some .local ∧ (x == ("__debug__" : Str)) = false
  glo : ∀ x ∈ GN, cs.names.lookup x = some .globalImplicit ∧ (x == ("__debug__" : Str)) = false
  fn : cs.kind = .function

noncomputable def nmOk (cs : Scope) (LN GN : List Str) : Bool := decide LN.Nodup && (LN.all fun x => cs.names.lookup x == some .local && (x == ("__debug__" : Str)) == false) && (GN.all fun x => cs.names.lookup x == some .globalImplicit && (x == ("__debug__" : Str)) == false) && cs.kind == .function
theorem Nm.of {cs : Scope} {LN GN : List Str} (h : nmOk cs LN GN = true) : Nm cs LN GN := by
  unfold nmOk at h
  simp only [Bool.and_eq_true, List.all_eq_true, beq_iff_eq, decide_eq_true_eq] at h
  exact ⟨h.1.1.1, h.1.1.2, h.1.2, h.2⟩

theorem Lv_none : ∀ (xs : List Str) (y : Str), Lv xs (xs.map fun _ => none) y = none
  | [], _ => rfl
  | x :: xs, y => by
    show (if y = x then none else Lv xs (xs.map fun _ => none) y) = none
    split
    · rfl
    · exact Lv_none xs y
theorem entry_eq : ∀ (ps : List Str) (as : List Value) (rest : List Str), ps.length = as.length → ps.Nodup → ∀ y, ((ps.zip as).reverse.lookup y) = Lv (ps ++ rest) (as.map some ++ rest.map fun _ => none) y
  | [], [], rest, _, _, y => by simp [Lv_none]
  | [], _ :: _, _, h, _, _ => by simp at h
  | _ :: _, [], _, h, _, _ => by simp at h
  | p :: ps, a :: as, rest, h, nd, y => by
    have hd := List.nodup_cons.mp nd
    have ih := entry_eq ps as rest (by simpa using h) hd.2 y
    show (((p, a) :: ps.zip as).reverse.lookup y) = if y = p then some a else Lv (ps ++ rest) _ y
    rw [List.reverse_cons, List.lookup_append, ih]
    by_cases e : y = p
    · subst e
      rw [if_pos rfl]
      have : Lv (ps ++ rest) (as.map some ++ rest.map fun _ => none) y = none := by
        rw [← ih]
        rw [List.lookup_eq_none_iff]
        intro q hq
        have hm : q ∈ ps.zip as := List.mem_reverse.mp hq
        have : q.1 ∈ ps := (List.of_mem_zip (show (q.1, q.2) ∈ ps.zip as from hm)).1
        have ne : y ≠ q.1 := fun e => hd.1 (e ▸ this)
        simpa using ne
      rw [this]; simp
    · rw [if_neg e]
      have : List.lookup y [(p, a)] = none := by
        have q : (y == p) = false := by simpa using e
        simp [List.lookup, q]
      rw [this]; simp

section
variable {d : Dy} {news : Led} {E : Value → Shared → Prop} {pos : Pos}
variable {cn : Str} {cs : Scope} {a : Addr} {ccd : Value} {cl : List (Str × Addr)} {x : Str} {v : Value} {LN GN : List Str} {vs vs' : List (Option Value)} {m : Loc}
theorem W_nameV {Q : Value → Loc → Led → Prop} (hN : Nm cs LN GN) (ha : At LN vs x v) (h : Q v (Lv LN vs) news) : W d (eval (.Name x pos) (envX cn cs d.L a ccd cl)) (Lv LN vs) news Q E :=
  W_nameL (ha.get hN.nd) h hN.fn (hN.loc x ha.mem).1 (hN.loc x ha.mem).2
theorem W_loadV {Q : Value → Loc → Led → Prop} (hN : Nm cs LN GN) (ha : At LN vs x v) (h : Q v (Lv LN vs) news) : W d (loadName (envX cn cs d.L a ccd cl) x) (Lv LN vs) news Q E :=
  W_loadL (ha.get hN.nd) h hN.fn (hN.loc x ha.mem).1
theorem W_storeV {Q : Unit → Loc → Led → Prop} (hN : Nm cs LN GN) (hp : Put LN vs x v vs') (h : Q () (Lv LN vs') news) : W d (storeName (envX cn cs d.L a ccd cl) x v) (Lv LN vs) news Q E := by
  refine W_storeL (x := x) (v := v) ?_ hN.fn (hN.loc x hp.mem).1
  rw [show Up (Lv LN vs) x v = Lv LN vs' from hp.eq hN.nd]; exact h
theorem W_gloK {Q : Value → Loc → Led → Prop} (hN : Nm cs LN GN) (hx : x ∈ GN) (e : nsIn (hd.heap_39 d.w.params) mainGlobals x = some (some v)) (h : Q v m news) : W d (eval (.Name x pos) (envX cn cs d.L a ccd cl)) m news Q E :=
  W_nameK e h hN.fn (hN.glo x hx).1 (hN.glo x hx).2
theorem W_gloB {Q : Value → Loc → Led → Prop} (hN : Nm cs LN GN) (hx : x ∈ GN) (e : nsIn (hd.heap_39 d.w.params) mainGlobals x = some none ∧ bootBuiltins x = some v ∧ x ≠ "__name__") (h : Q v m news) : W d (eval (.Name x pos) (envX cn cs d.L a ccd cl)) m news Q E :=
  W_nameB e.1 e.2.1 h e.2.2 hN.fn (hN.glo x hx).1 (hN.glo x hx).2

/- entering a def of the text, its locals by place -/
theorem W_def {f : Addr} {args : List Value} {ps LN GN : List Str} (all : List Str) {name qual : Str} {params : Arguments} {body : List Stmt} {scope : Scope} {dV kV doc pm cdv ct oc : Value} {an od : Option Addr} {osl : Array (Option Value)} {Q : Value → Loc → Led → Prop}
    (ho : (hd.heap_39 d.w.params).lookup f = some ⟨oc, od, .func (fnOf name qual params body scope dV kV doc pm an cdv ct), osl⟩) (hcd : codeIn (hd.heap_39 d.w.params) cdv qual = true) (hN : Nm scope all GN) (hall : ps ++ LN = all) (hroom : 0 < d.room)
    (hb : bindArgs (fnOf name qual params body scope dV kV doc pm an cdv ct) ⟨args, []⟩ = pure (ps.zip args)) (hl : args.length = ps.length)
    (h : ∀ d' : Dy, d'.room + 1 = d.room → d'.A.handled = d.A.handled → (∃ outer, d'.envs = envX qual scope d'.L f cdv [] :: outer) → Nm scope all GN →
      W d' (execs body (envX qual scope d'.L f cdv [])) (Lv all (args.map some ++ LN.map fun _ => none)) news (fun fl m' n' => ∃ n'', n''.Sublist n' ∧ Q (match fl with | .ret v => v | _ => .none) m n'') (fun _ _ => False))
    (hcell : ∀ x ∈ scope.names, x.2 ≠ .cell := by decide) (hco : scope.isCoroutine = false := by rfl) (hgen : scope.isGenerator = false := by rfl) : W d (call (.ref f) args) m news Q E := by
  subst hall
  have nd : ps.Nodup := (List.nodup_append.mp hN.nd).1
  refine W_call ho hcd hroom hb (fun y hy => (hN.loc y.1 (List.mem_append_left _ (List.of_mem_zip (show (y.1, y.2) ∈ ps.zip args from hy)).1)).1) (fun d' hr hh ho => ?_) hcell hco hgen hN.fn
  have e : (fun y => (ps.zip args).reverse.lookup y) = Lv (ps ++ LN) (args.map some ++ LN.map fun _ => none) := funext fun y => entry_eq ps args LN hl.symm nd y
  rw [e]
  exact h d' hr hh ho hN
end
end Mine

open PySem PySem.W PyProof.Rows
set_option Elab.async false
set_option maxRecDepth 100000
set_option maxHeartbeats 4000000
namespace Mine
open PySem.Spec PySem.Calls
example : PySem.Challenge.rw_oc0189_01.row.prog = PySem.Challenge.rw_oc0189_01.row.prog ∧ hd.heap_39 = hd.heap_39 := by k_fill; exact ⟨rfl, rfl⟩
theorem gk0 (P : Params) : nsIn (hd.heap_39 P) mainGlobals (Str.ofString "_strip_padding") = some (some (.ref 28)) := by k_is
theorem gk1 (P : Params) : nsIn (hd.heap_39 P) mainGlobals (Str.ofString "sorted_list_difference") = some (some (.ref 155)) := by k_is
theorem gk2 (P : Params) : nsIn (hd.heap_39 P) mainGlobals (Str.ofString "_law_cells") = some (some (.ref 162)) := by k_is
theorem gk3 (P : Params) : nsIn (hd.heap_39 P) mainGlobals (Str.ofString "_law_times") = some (some (.ref 169)) := by k_is
theorem gk4 (P : Params) : nsIn (hd.heap_39 P) mainGlobals (Str.ofString "_law_text") = some (some (.ref 176)) := by k_is
theorem gk5 (P : Params) : nsIn (hd.heap_39 P) mainGlobals (Str.ofString "_law_bare") = some (some (.ref 183)) := by k_is
theorem gk6 (P : Params) : nsIn (hd.heap_39 P) mainGlobals (Str.ofString "_law_blanks_go") = some (some (.ref 190)) := by k_is
theorem gk7 (P : Params) : nsIn (hd.heap_39 P) mainGlobals (Str.ofString "_law_sum") = some (some (.ref 195)) := by k_is
theorem gk8 (P : Params) : nsIn (hd.heap_39 P) mainGlobals (Str.ofString "_law_common") = some (some (.ref 202)) := by k_is
theorem gk9 (P : Params) : nsIn (hd.heap_39 P) mainGlobals (Str.ofString "_law_words") = some (some (.ref 209)) := by k_is
theorem gk10 (P : Params) : nsIn (hd.heap_39 P) mainGlobals (Str.ofString "_law_run") = some (some (.ref 214)) := by k_is
theorem gk11 (P : Params) : nsIn (hd.heap_39 P) mainGlobals (Str.ofString "_law_parts") = some (some (.ref 219)) := by k_is
theorem gk12 (P : Params) : nsIn (hd.heap_39 P) mainGlobals (Str.ofString "_law_ring_is_right") = some (some (.ref 224)) := by k_is
theorem gk13 (P : Params) : nsIn (hd.heap_39 P) mainGlobals (Str.ofString "_law_run_is_right") = some (some (.ref 229)) := by k_is
theorem gk14 (P : Params) : nsIn (hd.heap_39 P) mainGlobals (Str.ofString "_law_holds") = some (some (.ref 234)) := by k_is
theorem gk15 (P : Params) : nsIn (hd.heap_39 P) mainGlobals (Str.ofString "TopologicalSorter") = some (some (.ref 144)) := by k_is
theorem gk16 (P : Params) : nsIn (hd.heap_39 P) mainGlobals (Str.ofString "_NodeInfo") = some (some (.ref 47)) := by k_is
theorem gk17 (P : Params) : nsIn (hd.heap_39 P) mainGlobals (Str.ofString "CycleError") = some (some (.ref 62)) := by k_is
theorem gk18 (P : Params) : nsIn (hd.heap_39 P) mainGlobals (Str.ofString "_NODE_OUT") = some (some (.int (-1) 209)) := by k_is
theorem gk19 (P : Params) : nsIn (hd.heap_39 P) mainGlobals (Str.ofString "_NODE_DONE") = some (some (.int (-2) 212)) := by k_is
theorem gb0 (P : Params) : nsIn (hd.heap_39 P) mainGlobals (Str.ofString "range") = some none ∧ bootBuiltins (Str.ofString "range") = some (.type "range") ∧ Str.ofString "range" ≠ "__name__" := ⟨by k_is, boot_range, by decide⟩
theorem gb1 (P : Params) : nsIn (hd.heap_39 P) mainGlobals (Str.ofString "len") = some none ∧ bootBuiltins (Str.ofString "len") = some (.builtin "len") ∧ Str.ofString "len" ≠ "__name__" := ⟨by k_is, boot_len, by decide⟩
theorem gb2 (P : Params) : nsIn (hd.heap_39 P) mainGlobals (Str.ofString "min") = some none ∧ bootBuiltins (Str.ofString "min") = some (.builtin "min") ∧ Str.ofString "min" ≠ "__name__" := ⟨by k_is, boot_min, by decide⟩
theorem gb3 (P : Params) : nsIn (hd.heap_39 P) mainGlobals (Str.ofString "max") = some none ∧ bootBuiltins (Str.ofString "max") = some (.builtin "max") ∧ Str.ofString "max" ≠ "__name__" := ⟨by k_is, boot_max, by decide⟩
theorem gb4 (P : Params) : nsIn (hd.heap_39 P) mainGlobals (Str.ofString "sum") = some none ∧ bootBuiltins (Str.ofString "sum") = some (.builtin "sum") ∧ Str.ofString "sum" ≠ "__name__" := ⟨by k_is, boot_sum, by decide⟩
theorem gb5 (P : Params) : nsIn (hd.heap_39 P) mainGlobals (Str.ofString "sorted") = some none ∧ bootBuiltins (Str.ofString "sorted") = some (.builtin "sorted") ∧ Str.ofString "sorted" ≠ "__name__" := ⟨by k_is, boot_sorted, by decide⟩
theorem gb6 (P : Params) : nsIn (hd.heap_39 P) mainGlobals (Str.ofString "isinstance") = some none ∧ bootBuiltins (Str.ofString "isinstance") = some (.builtin "isinstance") ∧ Str.ofString "isinstance" ≠ "__name__" := ⟨by k_is, boot_isinstance, by decide⟩
theorem gb7 (P : Params) : nsIn (hd.heap_39 P) mainGlobals (Str.ofString "tuple") = some none ∧ bootBuiltins (Str.ofString "tuple") = some (.type "tuple") ∧ Str.ofString "tuple" ≠ "__name__" := ⟨by k_is, boot_tuple, by decide⟩
theorem gb8 (P : Params) : nsIn (hd.heap_39 P) mainGlobals (Str.ofString "list") = some none ∧ bootBuiltins (Str.ofString "list") = some (.type "list") ∧ Str.ofString "list" ≠ "__name__" := ⟨by k_is, boot_list, by decide⟩
theorem gb9 (P : Params) : nsIn (hd.heap_39 P) mainGlobals (Str.ofString "bool") = some none ∧ bootBuiltins (Str.ofString "bool") = some (.type "bool") ∧ Str.ofString "bool" ≠ "__name__" := ⟨by k_is, boot_bool, by decide⟩
theorem gb10 (P : Params) : nsIn (hd.heap_39 P) mainGlobals (Str.ofString "iter") = some none ∧ bootBuiltins (Str.ofString "iter") = some (.builtin "iter") ∧ Str.ofString "iter" ≠ "__name__" := ⟨by k_is, boot_iter, by decide⟩
theorem gb11 (P : Params) : nsIn (hd.heap_39 P) mainGlobals (Str.ofString "set") = some none ∧ bootBuiltins (Str.ofString "set") = some (.type "set") ∧ Str.ofString "set" ≠ "__name__" := ⟨by k_is, boot_set, by decide⟩
theorem ge0 (P : Params) : nsIn (hd.heap_39 P) mainGlobals (Str.ofString "IndexError") = some none ∧ bootBuiltins (Str.ofString "IndexError") = some (.type "IndexError") ∧ Str.ofString "IndexError" ≠ "__name__" := ⟨by k_is, PyProof.Rows.Boot.«IndexError», by decide⟩
theorem ge1 (P : Params) : nsIn (hd.heap_39 P) mainGlobals (Str.ofString "StopIteration") = some none ∧ bootBuiltins (Str.ofString "StopIteration") = some (.type "StopIteration") ∧ Str.ofString "StopIteration" ≠ "__name__" := ⟨by k_is, PyProof.Rows.Boot.«StopIteration», by decide⟩
theorem ge2 (P : Params) : nsIn (hd.heap_39 P) mainGlobals (Str.ofString "ValueError") = some none ∧ bootBuiltins (Str.ofString "ValueError") = some (.type "ValueError") ∧ Str.ofString "ValueError" ≠ "__name__" := ⟨by k_is, PyProof.Rows.Boot.«ValueError», by decide⟩
end Mine

open PySem PySem.W PyProof.Rows
set_option Elab.async false
set_option linter.unusedVariables false
set_option maxRecDepth 100000
set_option maxHeartbeats 4000000
namespace Mine
open PySem.Spec PySem.Calls
noncomputable abbrev Dy.fa (d : Dy) : List Addr := d.envs.filterMap (·.frame)
theorem Dy.fa_mem {d : Dy} {b : Addr} (h : b ∈ d.fa) : b = d.L ∨ b ∈ d.fr.map (·.1) := by
  obtain ⟨env, he, hf⟩ := List.mem_filterMap.mp h
  obtain ⟨_, a, ha, hx⟩ := d.hfe env he
  rw [ha] at hf
  cases hf
  exact hx
theorem FrOk.keys {fr : List (Addr × Loc)} {ff : Led} (h : FrOk fr ff) : ff.map (·.1) = fr.map (·.1) := by
  induction h with
  | nil => rfl
  | cons _ _ ih => simp [ih]
theorem FrOk.slots {h' : Heap} {fr : List (Addr × Loc)} {ff : Led} (hf : FrOk fr ff) : (∀ p ∈ ff, ∃ sl, h'.get? p.1 = some { p.2 with slots := sl }) → ∃ ff', And3 (FrOk fr ff') (ff'.map (·.1) = ff.map (·.1)) (∀ p ∈ ff', h'.get? p.1 = some p.2) := by
  induction hf with
  | nil => intro _; exact ⟨[], .nil, rfl, fun _ h => nomatch h⟩
  | @cons a m o fr fs hn _ ih =>
    intro hs
    obtain ⟨sl, hsl⟩ := hs (a, o) (.head _)
    obtain ⟨ff', h1, h2, h3⟩ := ih fun p hp => hs p (.tail _ hp)
    refine ⟨(a, { o with slots := sl }) :: ff', .cons ?_ h1, by simp [h2], fun p hp => ?_⟩
    · obtain ⟨es, ep, x⟩ := hn; exact ⟨es, ep, x⟩
    · rcases List.mem_cons.mp hp with rfl | hp
      · exact hsl
      · exact h3 p hp
theorem FrOk.dict {fr : List (Addr × Loc)} {ff : Led} (hf : FrOk fr ff) : ∀ p ∈ ff, ∀ vs, p.2.data ≠ .fields vs := by
  induction hf with
  | nil => intro p hp; exact nomatch hp
  | cons hn _ ih =>
    intro p hp vs q
    rcases List.mem_cons.mp hp with rfl | hp
    · obtain ⟨es, ep, x, _⟩ := hn; rw [x] at q; cases q
    · exact ih p hp vs q

/- a state while an exception is on its way: B holds what must stand to the letter -/
structure Fly (d : Dy) (s : Shared) (m : Loc) (news : Led) (B : Heap) : Prop where
  F : Fr d.base d.L s.heap m
  N : Ex2 fun hs ff => And5 (HsOk d.hid hs) (FrOk d.fr ff) (News d.base d.L s.heap (news ++ (hs ++ ff))) (((news ++ (hs ++ ff)).map (·.1)).Nodup) (∀ p ∈ news ++ hs, B.get? p.1 = some p.2)
  bs : d.base.StaysIn B
  gens : s.gens = d.gens
  drawn : s.drawn = d.drawn
  os : s.os = d.os
section
variable {d : Dy} {s : Shared} {m : Loc} {news : Led} {B : Heap}
theorem Fly.st (x : Fly d s m news B) : St d s m news := by
  obtain ⟨hs, ff, h1, h2, h3, h4, _⟩ := x.N
  exact ⟨x.F, ⟨hs ++ ff, .mk h1 h2, h3, h4⟩, x.gens, x.drawn, x.os⟩
theorem Fly.step (x : Fly d s m news B) {h' : Heap} (tk : Nat) (hb : B.StaysIn h') (hu : s.heap.UpToSlots h') : Fly d { s with heap := h', toks := tk } m news B := by
  obtain ⟨hs, ff, h1, h2, h3, h4, h5⟩ := x.N
  have hff : ∀ p ∈ ff, ∃ sl, h'.get? p.1 = some { p.2 with slots := sl } := fun p hp => hu _ _ (h3 p (List.mem_append_right _ (List.mem_append_right _ hp))).1 (h2.dict p hp)
  obtain ⟨ff', g1, g2, g3⟩ := h2.slots hff
  refine ⟨⟨hu.ns x.F.ns, fun b o e => hb b o (x.bs b o e), x.F.above⟩, ⟨hs, ff', h1, g1, ?_, ?_, h5⟩, x.bs, x.gens, x.drawn, x.os⟩
  · intro p hp
    rw [← List.append_assoc] at hp
    rcases List.mem_append.mp hp with hp | hp
    · refine ⟨hb _ _ (h5 p hp), (h3 p (by rw [← List.append_assoc]; exact List.mem_append_left _ hp)).2⟩
    · refine ⟨g3 p hp, ?_⟩
      have : p.1 ∈ ff.map (·.1) := g2 ▸ List.mem_map_of_mem hp
      obtain ⟨q, hq, e⟩ := List.mem_map.mp this
      have := (h3 q (List.mem_append_right _ (List.mem_append_right _ hq))).2
      rw [e] at this; exact this
  · rw [List.map_append, List.map_append, g2, ← List.map_append, ← List.map_append]; exact h4
theorem Fly.of (hs : St d s m news) : ∃ B, Fly d s m news B ∧ B.StaysIn s.heap ∧ s.heap.FunFrames B d.envs ∧ ∀ b, s.heap.get? b = none → B.get? b = none := by
  obtain ⟨fs, hf, N, nd⟩ := hs.N
  obtain ⟨h1, h2⟩ := hf
  rename_i hs0 ff
  have kn : ∀ p ∈ news ++ hs0, p.1 ∉ d.fa := fun p hp hm => by
    rcases Dy.fa_mem hm with e | e
    · exact (N p (by rw [← List.append_assoc]; exact List.mem_append_left _ hp)).2.1 e
    · rw [← h2.keys] at e
      rw [← List.append_assoc, List.map_append] at nd
      exact (List.nodup_append.mp nd).2.2 p.1 (List.mem_map_of_mem hp) p.1 e rfl
  have bn : ∀ b o, d.base.get? b = some o → b ∉ d.fa := fun b o e hm => by
    rcases Dy.fa_mem hm with q | q
    · have := hs.F.above
      have lt := Heap.lt_size e
      rw [q] at lt
      exact absurd lt (Nat.not_lt.mpr this)
    · rw [← h2.keys] at q
      obtain ⟨p, hp, e2⟩ := List.mem_map.mp q
      have := (N p (List.mem_append_right _ (List.mem_append_right _ hp))).2.2
      rw [e2, e] at this; cases this
  refine ⟨hideAll s.heap d.fa, ⟨hs.F, ⟨hs0, ff, h1, h2, N, nd, fun p hp => hideAll_get _ (N p (by rw [← List.append_assoc]; exact List.mem_append_left _ hp)).1 (kn p hp)⟩, fun b o e => hideAll_get _ (hs.F.keep b o e) (bn b o e), hs.gens, hs.drawn, hs.os⟩, fun b o e => of_hideAll _ e, ?_, fun b hb => ?_⟩
  · have : ∀ l : List Env, (∀ env ∈ l, env ∈ d.envs) → s.heap.FunFrames (hideAll s.heap d.fa) l := by
      intro l
      induction l with
      | nil => intro _; trivial
      | cons env l ih =>
        intro hl
        obtain ⟨k1, a, k2, k3⟩ := d.hfe env (hl _ (.head _))
        refine ⟨k1, ?_, ih fun e he => hl e (.tail _ he)⟩
        have hm : a ∈ d.fa := List.mem_filterMap.mpr ⟨env, hl _ (.head _), k2⟩
        rcases k3 with rfl | k3
        · obtain ⟨oL, es, ep, hL, hLd, _⟩ := hs.F.ns
          exact ⟨_, oL, k2, hideAll_none _ hm, hL, fun vs q => by rw [hLd] at q; cases q⟩
        · rw [← h2.keys] at k3
          obtain ⟨p, hp, rfl⟩ := List.mem_map.mp k3
          exact ⟨_, p.2, k2, hideAll_none _ hm, (N p (List.mem_append_right _ (List.mem_append_right _ hp))).1, h2.dict p hp⟩
    exact this d.envs fun _ h => h
  · cases q : (hideAll s.heap d.fa).get? b with
    | none => rfl
    | some o => have := of_hideAll _ q; rw [hb] at this; cases this

/- an exception of the class cls, its args a0, on its way in this frame -/
noncomputable def XF (d : Dy) (m : Loc) (news : Led) (cls a0 : Value) (ev : Value) (s : Shared) : Prop :=
  ∃ e, ev = .ref e ∧ ((∃ h₁, St d { s with heap := h₁ } m news ∧ (∀ b o, h₁.get? b = some o → s.heap.get? b = some o) ∧ h₁.get? e = none ∧ ∃ ob ws, s.heap.get? e = some ob ∧ ob.cls = cls ∧ ob.data = .fields ws ∧ ws[0]? = some a0 ∧ ws[1]? = some .none) ∨
    ∃ B, Fly d s m news B ∧ (Heap.HeldW B d.envs e cls a0 d.L s.heap ∨ Heap.FlyingW B d.envs e cls a0 s.heap))

section
variable {cls a0 : Value} {env : Env} {outer : List Env} {E : Value → Shared → Prop}
/- noting it in its own frame -/
theorem XF.noted {e : Addr} (hx : XF d m news cls a0 (.ref e) s) (hE : d.envs = env :: outer) (hf : env.frame = some d.L) {Q : Unit → Shared → Prop}
    (h : ∀ h' B, Fly d { s with heap := h' } m news B → Heap.HeldW B d.envs e cls a0 d.L h' → Q () { s with heap := h' }) : wpAny (model PG d.w) d.A (noteFrame (.ref e) env) Q E s := by
  obtain ⟨e', he', hx⟩ := hx
  cases he'
  have hfr := d.hfr
  rw [hE] at hfr
  rcases hx with ⟨h₁, hs, hk, hn, ob, ws, ho, hc, hd, h0, h1⟩ | ⟨B, hfl, hh | hh⟩
  · obtain ⟨B, hB, hst, hff, hno⟩ := Fly.of hs
    have hB' : Fly d s m news B := by
      have := hB.step (h' := s.heap) s.toks (fun b o q => hk b o (hst b o q)) (Heap.UpToSlots.of_keeps hk)
      exact this
    unfold noteFrame
    simp only [hf]
    refine wpAny_bind (wpAny_field ho hd h1 ?_)
    rw [if_neg (by decide)]
    rw [hE] at hff
    subst hc
    refine wpAny_entryW hfr (hff.of_keeps fun b o hb _ => ⟨o, hk b o hb, rfl⟩) hf ho (fun b o q => hk b o (hst b o q)) (hno e hn) hd (Array.getElem?_eq_some_iff.mp h1).1 h0 fun h' hN => ?_
    obtain ⟨k1, k2, k3, k4⟩ := hN
    exact h h' B (hB'.step _ k1 k4) (by rw [hE]; exact ⟨k1, hno e hn, k2, k3⟩)
  · exact wpAny_noteFrame_againW hf hh.2.2.2 (h s.heap B hfl hh)
  · rw [hE] at hh
    exact wpAny_looks_onW hfr hf hh fun h' hh' hu => h h' B (hfl.step _ hh'.1 hu) (by rw [hE]; exact hh')
theorem Held.xf {e : Addr} (hfl : Fly d s m news B) (hh : Heap.HeldW B d.envs e cls a0 d.L s.heap) : XF d m news cls a0 (.ref e) s := ⟨e, rfl, .inr ⟨B, hfl, .inl hh⟩⟩

theorem setFlight_held {M : Model} {A : Around} {l : List Env} {e L : Addr} {Q : Unit → Shared → Prop} (hh : Heap.HeldW B l e cls a0 L s.heap)
    (h : ∀ h', Heap.HeldW B l e cls a0 L h' → s.heap.UpToSlots h' → Q () { s with heap := h' }) : wpAny M A (setFlight (.ref e) (some L)) Q E s := by
  obtain ⟨f1, f2, f3, oe, vs, T, oT, ts, he, hc, hd, h1, hnT, hTe, hT, hdT, h3⟩ := hh
  have sz : 3 < ts.size := (Array.getElem?_eq_some_iff.mp h3).1
  unfold setFlight
  refine wpAny_bind (wpAny_field he hd h1 ?_)
  rw [if_pos (show (Value.ref T != Value.none) = true from by simp)]
  have other : ∀ b, b ≠ T → (s.heap.update T (Obj.mapFields (·.setIfInBounds 3 ((some L : Option Addr).elim Value.none fun f => rawInt f)))).get? b = s.heap.get? b := fun b hb => Heap.get?_update_other _ _ (Ne.symm hb)
  have recd : ∀ b o, s.heap.get? b = some o → (∀ vs, o.data ≠ .fields vs) → b ≠ T := fun b o hb hnf q => by
    rw [q, hT] at hb; cases hb; exact hnf ts hdT
  refine wpAny_setField hT hdT sz (h _ ⟨fun b o hb => (other b fun q => by rw [q, hnT] at hb; cases hb).trans (f1 b o hb), f2, f3.of_keeps fun b o hb hnf => ⟨o, (other b (recd b o hb hnf)).trans hb, rfl⟩, ?_⟩ fun b o hb hnf => ⟨o.slots, (other b (recd b o hb hnf)).trans hb⟩)
  exact ⟨oe, vs, T, _, _, (other e (Ne.symm hTe)).trans he, hc, hd, h1, hnT, hTe, Heap.get?_update_self _ hT (Obj.isFreed_of_fields (Obj.data_mapFields hdT _)), Obj.data_mapFields hdT _, by simp [sz]⟩

/- what may be raised: its locals, its ledger, its class, its args -/
noncomputable def XE (d : Dy) (R : Loc → Led → Value → Value → Prop) : Value → Shared → Prop := fun ev s => Ex4 fun m news cls a0 => XF d m news cls a0 ev s ∧ R m news cls a0
theorem XE.passes (hE : d.envs = env :: outer) (hf : env.frame = some d.L) (R : Loc → Led → Value → Value → Prop) : PassesOwn (model PG d.w) d.A env (XE d R) := by
  rintro ev s ⟨m, news, cls, a0, hx, hR⟩
  obtain ⟨e, rfl, _⟩ := id hx
  refine XF.noted hx hE hf fun h' B hfl hh => ?_
  unfold cameBackBy
  obtain ⟨oe, vs, T, oT, ts, he, hc, hd, h1, r⟩ := id hh.2.2.2
  refine wpAny_bind (wpAny_field he hd h1 ?_)
  rw [if_neg (show ¬ ((Value.ref T == Value.none) = true) from by simp)]
  rw [hf]
  exact setFlight_held hh fun h'' hh' hu => ⟨m, news, cls, a0, Held.xf (hfl.step _ hh'.1 hu) hh', hR⟩
noncomputable def Dy.mark (d : Dy) (e : Addr) : Dy := { d with A := d.A.mark (some (.ref e)) }
theorem St.mark {e : Addr} (h : St d s m news) : St (d.mark e) s m news := ⟨h.F, h.N, h.gens, h.drawn, h.os⟩
theorem St.unmark {e : Addr} (h : St (d.mark e) s m news) : St d s m news := ⟨h.F, h.N, h.gens, h.drawn, h.os⟩
/- an expression that is a value as it stands -/
noncomputable def Pe (d : Dy) (env : Env) (x : Expr) (v : Value) : Prop := ∀ s m news A, St d s m news → ∀ (Q E : Value → Shared → Prop), Q v s → wpAny (model PG d.w) A (eval x env) Q E s
theorem Pe.glo {cn : Str} {cs : Scope} {a : Addr} {ccd v : Value} {cl : List (Str × Addr)} {x : Str} {LN GN : List Str} {pos : Pos} (hN : Nm cs LN GN) (hx : x ∈ GN)
    (e : nsIn (hd.heap_39 d.w.params) mainGlobals x = some none ∧ bootBuiltins x = some v ∧ x ≠ "__name__") : Pe d (envX cn cs d.L a ccd cl) (.Name x pos) v := fun s m news A hs Q E h => by
  obtain ⟨loose, mg, mb, mean, T⟩ := d.T
  exact nameX_B hs.F d.K (topRead_of T) e.1 e.2.1 e.2.2 h hN.fn (hN.glo x hx).1 (hN.glo x hx).2

/- try: .. except T: .., what is raised is of the class -/
theorem W_Try {body orelse suite : List Stmt} {b₀ : Stmt} {x : Str} {np hp pos : Pos} {T : String} {Q : Flow → Loc → Led → Prop} (R : Loc → Led → Value → Value → Prop)
    (hexc : isSubtype (.type T) (.type "BaseException") = pure true) (hnt : isSubtype (.type ((Manifest.find? T).elim "type" fun x => x.metatype)) (.type "tuple") = pure false)
    (hE : d.envs = env :: outer) (hf : env.frame = some d.L) (hnm : Pe d env (.Name x np) (.type T))
    (h : W d (execs body env) m news (fun f m' n' => match f with | .next => W d (execs orelse env) m' n' Q E | f => Q f m' n') (XE d R))
    (hx : ∀ e m' n' cls a0, R m' n' cls a0 → ∃ X, And3 (cls = .type X) (isSubtype (.type X) (.type T) = pure true) (W (d.mark e) (execs (b₀ :: suite) env) m' n' Q (fun _ _ => False))) :
    W d (exec (.Try body [.ExceptHandler (some (.Name x np)) none (b₀ :: suite) hp] orelse [] pos) env) m news Q E := .mk fun s hs => by
  refine wpAny_Try_except (wpAny_mono (h.go s hs) (fun f s' hq => ?_) fun ev s' hxe => ?_)
  · obtain ⟨m', n', hs', hq⟩ := hq
    cases f with
    | next => exact hq.go s' hs'
    | _ => exact ⟨m', n', hs', hq⟩
  · obtain ⟨m', n', cls, a0, hxf, hR⟩ := hxe
    obtain ⟨e, rfl, _⟩ := id hxf
    obtain ⟨X, rfl, hsub, hW⟩ := hx e m' n' _ a0 hR
    refine XF.noted hxf hE hf fun h' B hfl hh => ?_
    refine wpAny_landsW hh fun h2 hfly hu => ?_
    have hfl2 := hfl.step s'.toks hfly.1 hu
    obtain ⟨ob, hob, hoc⟩ := hfly.there
    refine wpAny_handleBy_builtin (X := X) (T := T) (b := true) hexc hnt hsub ?_
    refine hnm _ m' n' _ hfl2.st _ _ ⟨rfl, ⟨ob, hob, hoc⟩, ?_⟩
    rw [if_pos rfl]
    obtain ⟨y1, y2, y3, y4⟩ := id hfly
    refine wpAny_setFlight_noneW y1 y3 y4 fun h3 k1 k2 k3 k4 => ?_
    have hfl3 := hfl2.step s'.toks k1 (fun b o hb hn => ⟨o.slots, k4 b o hb hn⟩)
    exact wpAny_mono (hW.go _ (St.mark (e := e) hfl3.st)) (fun f s4 ⟨m4, n4, hs4, hq⟩ => ⟨m4, n4, hs4.unmark, hq⟩) fun _ _ q => q.elim
end
theorem Fly.sub {n' : Led} (x : Fly d s m news B) (hs : n'.Sublist news) : Fly d s m n' B := by
  obtain ⟨hs0, ff, h1, h2, h3, h4, h5⟩ := x.N
  refine ⟨x.F, ⟨hs0, ff, h1, h2, fun p hp => h3 p ?_, h4.sublist ((hs.append (List.Sublist.refl _)).map _), fun p hp => h5 p ?_⟩, x.bs, x.gens, x.drawn, x.os⟩
  · rcases List.mem_append.mp hp with q | q
    · exact List.mem_append_left _ (hs.subset q)
    · exact List.mem_append_right _ q
  · rcases List.mem_append.mp hp with q | q
    · exact List.mem_append_left _ (hs.subset q)
    · exact List.mem_append_right _ q
theorem Fly.leave {L : Addr} {hr : 0 < d.room} {hk : env.scope.kind = .function} {hf : env.frame = some L} {m' : Loc} {n' : Led} (x : Fly (d.callee env L m hr hk hf) s m' n' B) (above : d.base.objs.size ≤ d.L) : Fly d s m n' B := by
  obtain ⟨hs1, ff', h1, h2, N', nd', h5⟩ := x.N
  obtain ⟨oL', fs2, rfl, hoL, hf2⟩ : Ex2 fun oL' fs2 => And3 (ff' = (d.L, oL') :: fs2) (NsObj m oL') (FrOk d.fr fs2) := by cases h2 with | cons hp hf' => exact ⟨_, _, rfl, hp, hf'⟩
  have pm : (n' ++ (hs1 ++ (d.L, oL') :: fs2)).Perm ((d.L, oL') :: (n' ++ (hs1 ++ fs2))) := by
    rw [← List.append_assoc, ← List.append_assoc]; exact List.perm_middle
  have nd2 := (pm.map _).nodup_iff.mp nd'
  rw [List.map_cons] at nd2
  have hL' := (N' (d.L, oL') (pm.mem_iff.mpr (.head _))).1
  obtain ⟨es', ep', x1, x2, x3⟩ := hoL
  exact ⟨⟨⟨oL', es', ep', hL', x1, x2, x3⟩, x.F.keep, above⟩, ⟨hs1, fs2, h1, hf2, fun p hp => ⟨(N' p (pm.mem_iff.mpr (.tail _ hp))).1, fun e => (List.nodup_cons.mp nd2).1 (List.mem_map.mpr ⟨p, hp, e⟩), (N' p (pm.mem_iff.mpr (.tail _ hp))).2.2⟩, (List.nodup_cons.mp nd2).2, h5⟩, x.bs, x.gens, x.drawn, x.os⟩

/- entering a def that may raise -/
theorem W_defX {f : Addr} {args : List Value} {ps LN GN : List Str} (all : List Str) {name qual : Str} {params : Arguments} {body : List Stmt} {scope : Scope} {dV kV doc pm cdv ct oc : Value} {an od : Option Addr} {osl : Array (Option Value)} {Q : Value → Loc → Led → Prop}
    (R : Loc → Led → Value → Value → Prop)
    (ho : (hd.heap_39 d.w.params).lookup f = some ⟨oc, od, .func (fnOf name qual params body scope dV kV doc pm an cdv ct), osl⟩) (hcd : codeIn (hd.heap_39 d.w.params) cdv qual = true) (hN : Nm scope all GN) (hall : ps ++ LN = all) (hroom : 0 < d.room)
    (hb : bindArgs (fnOf name qual params body scope dV kV doc pm an cdv ct) ⟨args, []⟩ = pure (ps.zip args)) (hl : args.length = ps.length)
    (hx : ∀ m' n' cls a0, R m' n' cls a0 → ∃ n'', n''.Sublist n' ∧ ∀ ev s, XF d m n'' cls a0 ev s → E ev s)
    (h : ∀ d' : Dy, d'.room + 1 = d.room → d'.A.handled = d.A.handled → (∃ outer, d'.envs = envX qual scope d'.L f cdv [] :: outer) → Nm scope all GN →
      W d' (execs body (envX qual scope d'.L f cdv [])) (Lv all (args.map some ++ LN.map fun _ => none)) news (fun fl m' n' => ∃ n'', n''.Sublist n' ∧ Q (match fl with | .ret v => v | _ => .none) m n'') (XE d' R))
    (hcell : ∀ x ∈ scope.names, x.2 ≠ .cell := by decide) (hco : scope.isCoroutine = false := by rfl) (hgen : scope.isGenerator = false := by rfl) : W d (call (.ref f) args) m news Q E := by
  subst hall
  have nd : ps.Nodup := (List.nodup_append.mp hN.nd).1
  refine W_callG ho hcd hroom hb (fun y hy => (hN.loc y.1 (List.mem_append_left _ (List.of_mem_zip (show (y.1, y.2) ∈ ps.zip args from hy)).1)).1) hcell hco hgen hN.fn fun L => ⟨XE (d.callee (envX qual scope L f cdv []) L m hroom hN.fn rfl) R, ?_, ?_⟩
  · have e : (fun y => (ps.zip args).reverse.lookup y) = Lv (ps ++ LN) (args.map some ++ LN.map fun _ => none) := funext fun y => entry_eq ps args LN hl.symm nd y
    rw [e]
    exact h (d.callee (envX qual scope L f cdv []) L m hroom hN.fn rfl) (by show d.room - 1 + 1 = d.room; omega) rfl ⟨d.envs, rfl⟩ hN
  · rintro ev s above ⟨m', n', cls, a0, hxf, hR⟩
    obtain ⟨e, rfl, _⟩ := id hxf
    obtain ⟨n'', hsub, hk⟩ := hx m' n' cls a0 hR
    unfold leaving
    refine wpAny_bind (XF.noted hxf rfl rfl fun h' B hfl hh => wpAny_landsW hh fun h2 hfly hu => hk _ _ ⟨e, rfl, .inr ⟨B, ((hfl.step s.toks hfly.1 hu).leave above).sub hsub, .inr ?_⟩⟩)
    obtain ⟨y1, y2, ⟨_, _, y3⟩, y4⟩ := hfly
    exact ⟨y1, y2, y3, y4⟩
end
end Mine

open PySem PySem.W PyProof.Rows
set_option Elab.async false
set_option linter.unusedVariables false
set_option maxRecDepth 100000
set_option maxHeartbeats 4000000
namespace Mine
open PySem.Spec PySem.Calls
section
variable {d : Dy} {m : Loc} {news : Led} {E : Value → Shared → Prop} {env : Env} {pos : Pos} {s : Shared}
variable {i j : Int} {t u : Tok} {Q : Value → Loc → Led → Prop} {y z : Str} {value slice : Expr} {vs : List Value} {k : Nat} {a : Addr}
theorem xf_new {h' : Heap} {tk : Nat} {e : Addr} {cls : String} (hs : St d s m news) (hx : Heap.NewExc s.heap h' e cls) : ∃ a0, XF d m news (.type cls) a0 (.ref e) { s with heap := h', toks := tk } := by
  obtain ⟨ob, t, ho, hc, hd⟩ := hx.there
  exact ⟨t, e, rfl, .inl ⟨s.heap, ⟨hs.F, hs.N, hs.gens, hs.drawn, hs.os⟩, hx.keeps, hx.new, ob, _, ho, hc, hd, rfl, rfl⟩⟩
theorem W_itemS_out (hA : d.A.handled = none) (hr : fitsSsize i = true) (hout : (y.length : Int) ≤ i) (hx : ∀ ev s a0, XF d m news (.type "IndexError") a0 ev s → E ev s)
    (hs : subscripted slice false (.str y t) (.int i u) = operate [.str y t, .int i u] (getItem (.str y t) (.int i u)) := by rfl) (hl : ∀ r, letTemporaryGo value (.str y t) r = pure () := by intro _; rfl) :
    W d (subscriptTail value slice (.str y t) (.int i u)) m news Q E := .mk fun s h' => by
  refine item_str_or hA hr (fun _ h2 tk e hn => ?_) (fun h1 h2 => absurd h2 (by omega)) hs hl
  obtain ⟨a0, q⟩ := xf_new (tk := tk) h' hn
  exact hx _ _ a0 q
theorem W_itemL_out (hA : d.A.handled = none) (hm : (a, listO vs k) ∈ news) (hout : (vs.length : Int) ≤ i) (hz : i < 2 ^ 63) (hx : ∀ ev s a0, XF d m news (.type "IndexError") a0 ev s → E ev s)
    (hs : subscripted slice false (.ref a) (.int i u) = operate [.ref a, .int i u] (getItem (.ref a) (.int i u)) := by rfl) :
    W d (subscriptTail value slice (.ref a) (.int i u)) m news Q E := .mk fun s h' => by
  have hl := listO_isList (h'.mem hm)
  refine tail_any hl.typeIs slot_list_getitem.lookup (wpAny_getItem_list_out hA hl (.inr (by simpa using hout)) (by omega) hz fun h2 tk e hn => ?_) hs
  obtain ⟨a0, q⟩ := xf_new (tk := tk) h' hn
  exact hx _ _ a0 q
theorem W_bool {b : Bool} {k : Nat} (h : Q (.bool b) m news) : W d (eval (.Constant (.bool b) k pos) env) m news Q E := .mk fun s hs => wpAny_pure ⟨_, _, hs, h⟩
theorem W_none {k : Nat} (h : Q .none m news) : W d (eval (.Constant .none k pos) env) m news Q E := .mk fun s hs => wpAny_pure ⟨_, _, hs, h⟩
theorem seqIndex_in {i : Int} {n : Nat} (h0 : 0 ≤ i) (h1 : i < n) : seqIndex? i n = some i.toNat := by
  unfold seqIndex?
  have a : ¬ i < 0 := by omega
  simp [a, h0, h1]
noncomputable def IsSeqO (o : Obj) (vs : List Value) : Prop := (∃ k, o = listO vs k) ∨ ∃ k, o = tupO vs k
theorem W_itemQ {o : Obj} {v : Value} (ho : IsSeqO o vs) (hm : (a, o) ∈ news) (h0 : 0 ≤ i) (hz : i < 2 ^ 62) (hx : vs[i.toNat]? = some v) (h : Q v m news)
    (hs : subscripted slice false (.ref a) (.int i u) = operate [.ref a, .int i u] (getItem (.ref a) (.int i u)) := by rfl) (hl : ∀ r, letTemporaryGo value (.ref a) r = pure () := by intro _; rfl) :
    W d (subscriptTail value slice (.ref a) (.int i u)) m news Q E := by
  have lt : i.toNat < vs.length := (List.getElem?_eq_some_iff.mp hx).1
  rcases ho with ⟨k, rfl⟩ | ⟨k, rfl⟩
  · exact W_itemL hm h0 hx h (by omega) hs hl
  · exact W_itemT hm (seqIndex_in h0 (by omega)) hx h (by omega) (by omega) hs
end
end Mine

open PySem PySem.W PyProof.Rows
set_option Elab.async false
set_option linter.unusedVariables false
set_option maxRecDepth 100000
set_option maxHeartbeats 4000000
namespace Mine
open PySem.Spec PySem.Calls
section
variable {M : Model} {A : Around} {E : Value → Shared → Prop} {s : Shared}
/- the first note: what becomes of the exception itself is told too -/
theorem note_new {B : Heap} {env : Env} {outer : List Env} {L e : Addr} {oe : Obj} {ws : Array Value} {a0 : Value} {Q : Unit → Shared → Prop}
    (hfr : A.frames = some (env :: outer)) (hl : s.heap.FunFrames B (env :: outer)) (hf : env.frame = some L) (he : s.heap.get? e = some oe) (hB : B.StaysIn s.heap) (hen : B.get? e = none)
    (hd : oe.data = .fields ws) (h0 : ws[0]? = some a0) (h1 : ws[1]? = some .none)
    (h : ∀ h' T oT ts, B.StaysIn h' → h'.FunFrames B (env :: outer) → s.heap.UpToSlots h' → h'.get? e = some (Obj.mapFields (·.setIfInBounds 1 (.ref T)) oe) → B.get? T = none → T ≠ e → h'.get? T = some oT → oT.data = .fields ts → ts[3]? = some (rawInt L) → Q () { s with heap := h' }) :
    wpAny M A (noteFrame (.ref e) env) Q E s := by
  have sz : 1 < ws.size := (Array.getElem?_eq_some_iff.mp h1).1
  have nfa : e ∉ (env :: outer).filterMap (·.frame) := fun hm => by
    obtain ⟨_, o, ho, hn⟩ := hl.mem hm
    rw [he] at ho
    cases ho
    exact hn ws hd
  unfold noteFrame
  simp only [hf]
  refine wpAny_bind (wpAny_field he hd h1 ?_)
  rw [if_neg (by decide)]
  refine wpAny_bind (wpAny_frameOf_fun hfr hl hf fun g hg => wpAny_bind (wpAny_entryPlaceOf fun pl hpl => ?_))
  unfold EntryCells.newEntry newFields
  refine wpAny_bind (wpAny_newObj_type ?_ (hpl.sizeOk5 _ _ _ _ _))
  have ge : g.get? e = some oe := (hg.2.1 e nfa).trans he
  have ne : g.objs.size ≠ e := Nat.ne_of_gt (Heap.lt_size ge)
  have gB : B.StaysIn g := fun b o hb => (hg.2.1 b fun hm => by rw [(hl.mem hm).1] at hb; cases hb).trans (hB b o hb)
  have hd2 := Obj.data_mapFields hd (·.setIfInBounds 1 (Value.ref g.objs.size))
  refine wpAny_setField (Heap.get?_push_of_some _ ge) hd sz (h _ g.objs.size _ _ ?_ ?_ ?_ (Heap.get?_update_self _ (Heap.get?_push_of_some _ ge) (Obj.isFreed_of_fields hd2)) gB.fresh ne ((Heap.get?_update_other _ _ (Ne.symm ne)).trans (Heap.get?_push_size _ rfl)) rfl ?_)
  · exact fun b o hb => (Heap.get?_update_other _ _ fun q => by rw [← q, hen] at hb; cases hb).trans (Heap.get?_push_of_some _ (gB b o hb))
  · refine hl.of_keeps fun b o hb hn => ?_
    obtain ⟨sl, hs⟩ := hg.2.2 b o hb
    exact ⟨_, (Heap.get?_update_other _ _ fun q => by rw [← q, he] at hb; cases hb; exact hn ws hd).trans (Heap.get?_push_of_some _ hs), rfl⟩
  · intro b o hb hn
    obtain ⟨sl, hs⟩ := hg.2.2 b o hb
    exact ⟨sl, (Heap.get?_update_other _ _ fun q => by rw [← q, he] at hb; cases hb; exact hn ws hd).trans (Heap.get?_push_of_some _ hs)⟩
  · first | (simp; done) | (rcases hpl with rfl | ⟨_, _, _, _, _, _, _, rfl⟩ <;> simp)
noncomputable def Ctx (e : Addr) (h : Heap) : Prop := Ex2 fun o ws => And3 (h.get? e = some o) (o.data = .fields ws) (ws[2]? = some .none)
/- the mark of flight is set anew -/
theorem setFlight_any {B : Heap} {l : List Env} {e : Addr} {cls a0 fl : Value} {fr : Option Addr} {Q : Unit → Shared → Prop} (hB : B.StaysIn s.heap) (hl : s.heap.FunFrames B l) (ht : s.heap.TracedAtW B e cls a0 fl)
    (h : ∀ h', B.StaysIn h' → h'.FunFrames B l → h'.TracedAtW B e cls a0 (fr.elim .none fun f => rawInt f) → s.heap.UpToSlots h' → h'.get? e = s.heap.get? e → Q () { s with heap := h' }) : wpAny M A (setFlight (.ref e) fr) Q E s := by
  obtain ⟨oe, vs, T, oT, ts, he, hc, hd, h1, hnT, hTe, hT, hdT, h3⟩ := ht
  have sz : 3 < ts.size := (Array.getElem?_eq_some_iff.mp h3).1
  unfold setFlight
  refine wpAny_bind (wpAny_field he hd h1 ?_)
  rw [if_pos (show (Value.ref T != Value.none) = true from by simp)]
  have nT : ∀ b o, s.heap.get? b = some o → (∀ vs, o.data ≠ .fields vs) → T ≠ b := fun b o hb hn q => by
    rw [← q, hT] at hb; cases hb; exact hn ts hdT
  have eq : ∀ b, T ≠ b → (s.heap.update T (Obj.mapFields (·.setIfInBounds 3 (fr.elim Value.none fun f => rawInt f)))).get? b = s.heap.get? b := fun b hb => Heap.get?_update_other _ _ hb
  refine wpAny_setField hT hdT sz (h _ (fun b o hb => (eq b fun q => by rw [← q, hnT] at hb; cases hb).trans (hB b o hb)) (hl.of_keeps fun b o hb hn => ⟨o, (eq b (nT b o hb hn)).trans hb, rfl⟩) ?_ (fun b o hb hn => ⟨o.slots, (eq b (nT b o hb hn)).trans hb⟩) (eq e hTe))
  exact ⟨oe, vs, T, _, _, (eq e hTe).trans he, hc, hd, h1, hnT, hTe, Heap.get?_update_self _ hT (Obj.isFreed_of_fields (Obj.data_mapFields hdT _)), Obj.data_mapFields hdT _, by simp [sz]⟩
end

section
variable {d : Dy} {s : Shared} {m : Loc} {news : Led} {B : Heap} {cls a0 : Value} {env : Env} {outer : List Env} {E : Value → Shared → Prop}
/- an exception made in this very frame, without a context -/
noncomputable def XG (d : Dy) (m : Loc) (news : Led) (cls a0 : Value) (ev : Value) (s : Shared) : Prop :=
  ∃ e, And3 (ev = .ref e) (Ctx e s.heap) ((∃ h₁, St d { s with heap := h₁ } m news ∧ (∀ b o, h₁.get? b = some o → s.heap.get? b = some o) ∧ h₁.get? e = none ∧ ∃ ob ws, s.heap.get? e = some ob ∧ ob.cls = cls ∧ ob.data = .fields ws ∧ ws[0]? = some a0 ∧ ws[1]? = some .none) ∨
    ∃ B, Fly d s m news B ∧ Heap.HeldW B d.envs e cls a0 d.L s.heap)
theorem xg_new {h' : Heap} {tk : Nat} {e : Addr} {cls : String} (hs : St d s m news) (hx : Heap.NewExc s.heap h' e cls) : ∃ a0, XG d m news (.type cls) a0 (.ref e) { s with heap := h', toks := tk } := by
  obtain ⟨ob, t, ho, hc, hd⟩ := hx.there
  exact ⟨t, e, rfl, ⟨ob, _, ho, hd, rfl⟩, .inl ⟨s.heap, ⟨hs.F, hs.N, hs.gens, hs.drawn, hs.os⟩, hx.keeps, hx.new, ob, _, ho, hc, hd, rfl, rfl⟩⟩
theorem XG.noted {e : Addr} (hx : XG d m news cls a0 (.ref e) s) (hE : d.envs = env :: outer) (hf : env.frame = some d.L) {Q : Unit → Shared → Prop}
    (h : ∀ h' B, Fly d { s with heap := h' } m news B → Heap.HeldW B d.envs e cls a0 d.L h' → Ctx e h' → Q () { s with heap := h' }) : wpAny (model PG d.w) d.A (noteFrame (.ref e) env) Q E s := by
  obtain ⟨e', he', hctx, hx⟩ := hx
  cases he'
  have hfr := d.hfr
  rw [hE] at hfr
  rcases hx with ⟨h₁, hs, hk, hn, ob, ws, ho, hc, hd, h0, h1⟩ | ⟨B, hfl, hh⟩
  · obtain ⟨B, hB, hst, hff, hno⟩ := Fly.of hs
    have hB' : Fly d s m news B := hB.step (h' := s.heap) s.toks (fun b o q => hk b o (hst b o q)) (Heap.UpToSlots.of_keeps hk)
    rw [hE] at hff
    subst hc
    refine note_new hfr (hff.of_keeps fun b o hb _ => ⟨o, hk b o hb, rfl⟩) hf ho (fun b o q => hk b o (hst b o q)) (hno e hn) hd h0 h1 fun h' T oT ts k1 k2 k3 k4 k5 k6 k7 k8 k9 => ?_
    have sz : 1 < ws.size := (Array.getElem?_eq_some_iff.mp h1).1
    have hd2 := Obj.data_mapFields hd (·.setIfInBounds 1 (Value.ref T))
    refine h h' B (hB'.step _ k1 k3) (by rw [hE]; exact ⟨k1, hno e hn, k2, _, _, T, oT, ts, k4, ⟨Obj.cls_mapFields _ _, by rw [Array.getElem?_setIfInBounds_ne (by decide)]; exact h0⟩, hd2, by simp [sz], k5, k6, k7, k8, k9⟩) ?_
    obtain ⟨o2, ws2, g1, g2, g3⟩ := hctx
    rw [ho] at g1
    cases g1
    rw [hd] at g2
    cases g2
    exact ⟨_, _, k4, hd2, by rw [Array.getElem?_setIfInBounds_ne (by decide)]; exact g3⟩
  · exact wpAny_noteFrame_againW hf hh.2.2.2 (h s.heap B hfl hh hctx)
noncomputable def XGE (d : Dy) (R : Loc → Led → Value → Value → Prop) : Value → Shared → Prop := fun ev s => Ex4 fun m news cls a0 => XG d m news cls a0 ev s ∧ R m news cls a0
theorem XGE.passes (hE : d.envs = env :: outer) (hf : env.frame = some d.L) (R : Loc → Led → Value → Value → Prop) : PassesOwn (model PG d.w) d.A env (XGE d R) := by
  rintro ev s ⟨m, news, cls, a0, hx, hR⟩
  obtain ⟨e, rfl, _⟩ := id hx
  refine XG.noted hx hE hf fun h' B hfl hh hctx => ?_
  unfold cameBackBy
  obtain ⟨oe, vs, T, oT, ts, he, hc, hd, h1, r⟩ := id hh.2.2.2
  refine wpAny_bind (wpAny_field he hd h1 ?_)
  rw [if_neg (show ¬ ((Value.ref T == Value.none) = true) from by simp), hf]
  refine setFlight_any hh.1 hh.2.2.1 hh.2.2.2 fun h2 k1 k2 k3 k4 k5 => ⟨m, news, cls, a0, ⟨e, rfl, ?_, .inr ⟨B, hfl.step _ k1 k4, k1, hh.2.1, k2, k3⟩⟩, hR⟩
  obtain ⟨o2, ws2, g1, g2, g3⟩ := hctx
  exact ⟨o2, ws2, k5.trans g1, g2, g3⟩
theorem Fly.show2 {e T : Addr} {oe oT : Obj} {ws ts : Array Value} (x : Fly d s m news B) (he : s.heap.get? e = some oe) (hde : oe.data = .fields ws) (hBe : B.get? e = none)
    (hT : s.heap.get? T = some oT) (hdT : oT.data = .fields ts) (hBT : B.get? T = none) (ne : T ≠ e) : St d s m ((e, oe) :: (T, oT) :: news) := by
  obtain ⟨hs, ff, h1, h2, N, nd, h5⟩ := x.N
  obtain ⟨oL, es, ep, hL, hLd, _⟩ := id x.F.ns
  have nb : ∀ a, B.get? a = none → d.base.get? a = none := fun a ha => by
    cases q : d.base.get? a with
    | none => rfl
    | some o => have := x.bs a o q; rw [ha] at this; cases this
  have nL : ∀ a o vs, s.heap.get? a = some o → o.data = .fields vs → a ≠ d.L := fun a o vs ha hd q => by
    rw [q, hL] at ha; cases ha; rw [hLd] at hd; cases hd
  have nk : ∀ a o vs, s.heap.get? a = some o → o.data = .fields vs → B.get? a = none → a ∉ (news ++ (hs ++ ff)).map (·.1) := fun a o vs ha hd hB hm => by
    obtain ⟨p, hp, rfl⟩ := List.mem_map.mp hm
    rw [← List.append_assoc] at hp
    rcases List.mem_append.mp hp with hp | hp
    · have := h5 p hp; rw [hB] at this; cases this
    · have := (N p (List.mem_append_right _ (List.mem_append_right _ hp))).1
      rw [ha] at this; cases this
      exact h2.dict p hp vs hd
  refine ⟨x.F, ⟨hs ++ ff, .mk h1 h2, ?_, ?_⟩, x.gens, x.drawn, x.os⟩
  · intro p hp
    rcases List.mem_cons.mp hp with rfl | hp
    · exact ⟨he, nL _ _ _ he hde, nb _ hBe⟩
    · rcases List.mem_cons.mp hp with rfl | hp
      · exact ⟨hT, nL _ _ _ hT hdT, nb _ hBT⟩
      · exact N p hp
  · show (e :: T :: (news ++ (hs ++ ff)).map (·.1)).Nodup
    refine List.nodup_cons.mpr ⟨fun hm => ?_, List.nodup_cons.mpr ⟨nk _ _ _ hT hdT hBT, nd⟩⟩
    rcases List.mem_cons.mp hm with q | q
    · exact ne q.symm
    · exact nk _ _ _ he hde hBe q
theorem Fly.of2 {e T : Addr} {oe oT : Obj} (hs : St d s m ((e, oe) :: (T, oT) :: news)) : ∃ B, And5 (Fly d s m news B) (B.StaysIn s.heap) (s.heap.FunFrames B d.envs) (B.get? e = none) (B.get? T = none) := by
  obtain ⟨B, hB, hst, hff, _⟩ := Fly.of hs
  obtain ⟨hs0, ff, h1, h2, N, nd, h5⟩ := hB.N
  have nd1 := List.nodup_cons.mp nd
  have nd2 := List.nodup_cons.mp nd1.2
  have ke : ∀ p ∈ news ++ (hs0 ++ ff), p.1 ∉ [e, T] := fun p hp hm => by
    rcases List.mem_cons.mp hm with q | hm
    · exact nd1.1 (.tail _ (List.mem_map.mpr ⟨p, hp, q⟩))
    · exact nd2.1 (List.mem_map.mpr ⟨p, hp, List.mem_singleton.mp hm⟩)
  have be : ∀ b o, d.base.get? b = some o → b ∉ [e, T] := fun b o hb hm => by
    rcases List.mem_cons.mp hm with q | hm
    · have := (N (e, oe) (.head _)).2.2; rw [q] at hb; rw [hb] at this; cases this
    · have := (N (T, oT) (.tail _ (.head _))).2.2; rw [List.mem_singleton.mp hm] at hb; rw [hb] at this; cases this
  refine ⟨hideAll B [e, T], ⟨hB.F, ⟨hs0, ff, h1, h2, fun p hp => N p (.tail _ (.tail _ hp)), nd2.2, fun p hp => ?_⟩, fun b o hb => hideAll_get _ (hB.bs b o hb) (be b o hb), hB.gens, hB.drawn, hB.os⟩, fun b o hb => hst b o (of_hideAll _ hb), ?_, hideAll_none _ (.head _), hideAll_none _ (.tail _ (.head _))⟩
  · have hp2 : p ∈ news ++ (hs0 ++ ff) := by rw [← List.append_assoc]; exact List.mem_append_left _ hp
    exact hideAll_get _ (h5 p (.tail _ (.tail _ hp))) (ke p hp2)
  · have : ∀ l : List Env, s.heap.FunFrames B l → s.heap.FunFrames (hideAll B [e, T]) l := by
      intro l
      induction l with
      | nil => intro _; trivial
      | cons x l ih =>
        rintro ⟨k1, ⟨L, o, k2, k3, k4, k5⟩, k6⟩
        refine ⟨k1, ⟨L, o, k2, ?_, k4, k5⟩, ih k6⟩
        cases q : (hideAll B [e, T]).get? L with
        | none => rfl
        | some o' => have := of_hideAll _ q; rw [k3] at this; cases this
    exact this _ hff
theorem Fly.unhide {a : Addr} {P : Obj → Prop} (x : Fly (d.hide a P) s m news B) : Fly d s m news B := by
  obtain ⟨hs, ff, h1, h2, N, nd, h5⟩ := x.N
  obtain ⟨o, hs', rfl, hp, h1'⟩ : Ex2 fun o hs' => And3 (hs = (a, o) :: hs') (P o) (HsOk d.hid hs') := by cases h1 with | cons hp hf' => exact ⟨_, _, rfl, hp, hf'⟩
  have pm : (news ++ ((a, o) :: hs' ++ ff)).Perm ((a, o) :: (news ++ (hs' ++ ff))) := List.perm_middle
  have nd2 := (pm.map _).nodup_iff.mp nd
  refine ⟨x.F, ⟨hs', ff, h1', h2, fun p hp => N p (pm.mem_iff.mpr (.tail _ hp)), (List.nodup_cons.mp nd2).2, fun p hp => h5 p ?_⟩, x.bs, x.gens, x.drawn, x.os⟩
  rcases List.mem_append.mp hp with q | q
  · exact List.mem_append_left _ q
  · exact List.mem_append_right _ (.tail _ q)
theorem Fly.unmark {e : Addr} (x : Fly (d.mark e) s m news B) : Fly d s m news B := ⟨x.F, x.N, x.bs, x.gens, x.drawn, x.os⟩

/- try: .. finally: .., the body may raise without a context -/
theorem W_TryFin {body fin : List Stmt} {f₀ : Stmt} {pos : Pos} {Q : Flow → Loc → Led → Prop} (R R₂ : Loc → Led → Value → Value → Prop) (hE : d.envs = env :: outer) (hf : env.frame = some d.L)
    (hb : W d (execs body env) m news (fun f m' n' => f = .next ∧ W d (execs (f₀ :: fin) env) m' n' (fun g m2 n2 => g = .next ∧ Q .next m2 n2) (XE d R₂)) (XGE d R))
    (hfin : ∀ e T oe oT m' n' cls a0, R m' n' cls a0 → (∃ ws, oe.data = .fields ws ∧ ws[2]? = some .none) →
      W (((d.hide e (· = oe)).hide T (· = oT)).mark e) (execs (f₀ :: fin) env) m' n' (fun g m2 n2 => g = .next ∧ R₂ m2 n2 cls a0) (XE (((d.hide e (· = oe)).hide T (· = oT)).mark e) R₂)) :
    W d (exec (.Try body [] [] (f₀ :: fin) pos) env) m news Q (XE d R₂) := .mk fun s hs => by
  refine wpAny_Try_finally (wpAny_mono (hb.go s hs) (fun f s1 hq => ?_) fun ev s1 hx => ?_)
  · obtain ⟨m1, n1, hs1, rfl, hW⟩ := hq
    refine wpAny_execs_nil (wpAny_mono (hW.go s1 hs1) (fun g s2 hg => ?_) (XE.passes hE hf R₂))
    obtain ⟨m2, n2, hs2, rfl, hQ⟩ := hg
    exact ⟨m2, n2, hs2, hQ⟩
  · obtain ⟨m1, n1, cls, a0, hxg, hR⟩ := hx
    obtain ⟨e, rfl, _⟩ := id hxg
    refine XG.noted hxg hE hf fun h1 B hfl hh hctx => ?_
    refine ⟨ref_ne_byPass e, wpAny_noteFrame_againW hf hh.2.2.2 (setFlight_any hh.1 hh.2.2.1 hh.2.2.2 fun h2 k1 k2 k3 k4 k5 => ?_)⟩
    have hfl2 := hfl.step s1.toks k1 k4
    obtain ⟨oe, vs, T, oT, ts, he, hc, hd, hv1, hnT, hTe, hT, hdT, h3⟩ := k3
    have hst := hfl2.show2 (s := { s1 with heap := h2, toks := s1.toks }) he hd hh.2.1 hT hdT hnT hTe
    have hst2 : St (((d.hide e (· = oe)).hide T (· = oT)).mark e) { s1 with heap := h2, toks := s1.toks } m1 n1 := St.mark (St.hide (P := (· = oT)) (St.hide (P := (· = oe)) hst rfl) rfl)
    refine wpAny_mono ((hfin e T oe oT m1 n1 cls a0 hR ?_).go _ hst2) (fun g s2 hg => ?_) fun ev s2 hx2 => ?_
    · obtain ⟨o2, ws2, g1, g2, g3⟩ := hctx
      have : h2.get? e = some o2 := k5.trans g1
      rw [he] at this; cases this
      rw [hd] at g2; cases g2
      exact ⟨_, hd, g3⟩
    · obtain ⟨m2, n2, hs2, rfl, hR2⟩ := hg
      obtain ⟨oT', rfl, hs3⟩ := (St.unmark hs2).show'
      obtain ⟨oe', rfl, hs4⟩ := hs3.show'
      have he2 := hs4.mem (.head _)
      have hT2 := hs4.mem (.tail _ (.head _))
      obtain ⟨B2, hB2, q1, q2, q3, q4⟩ := Fly.of2 hs4
      show wpAny _ _ (PySem.passOn "try.finally" (.ref e) env) _ _ _
      unfold PySem.passOn
      refine wpAny_bind (wpAny_field he2 hd hv1 ?_)
      rw [if_neg (show ¬ ((Value.ref T == Value.none) = true) from by simp), hf]
      refine wpAny_bind (setFlight_any (fl := .none) q1 q2 ⟨oe', vs, T, oT', ts, he2, hc, hd, hv1, q4, hTe, hT2, hdT, h3⟩ fun h5 j1 j2 j3 j4 j5 => wpAny_throw ⟨m2, n2, cls, a0, ⟨e, rfl, .inr ⟨B2, hB2.step _ j1 j4, .inl ⟨j1, q3, j2, j3⟩⟩⟩, hR2⟩)
    · obtain ⟨m2, n2, cls2, a2, hxf, hR2⟩ := hx2
      obtain ⟨e2, rfl, _⟩ := id hxf
      refine XF.noted hxf hE hf fun h5 B5 hfl5 hh5 => ?_
      unfold cameBackBy
      obtain ⟨oe5, vs5, T5, oT5, ts5, he5, hc5, hd5, hv5, r⟩ := id hh5.2.2.2
      refine wpAny_bind (wpAny_field he5 hd5 hv5 ?_)
      rw [if_neg (show ¬ ((Value.ref T5 == Value.none) = true) from by simp), hf]
      exact setFlight_any hh5.1 hh5.2.2.1 hh5.2.2.2 fun h6 j1 j2 j3 j4 j5 => ⟨m2, n2, cls2, a2, ⟨e2, rfl, .inr ⟨B5, (((Fly.unmark hfl5).unhide).unhide).step _ j1 j4, .inl ⟨j1, hh5.2.1, j2, j3⟩⟩⟩, hR2⟩
end
end Mine

open PySem PySem.W PyProof.Rows
set_option Elab.async false
set_option linter.unusedVariables false
set_option maxRecDepth 100000
set_option maxHeartbeats 4000000
namespace Mine
open PySem.Spec PySem.Calls
theorem entry_unchain : entryFor table "proto.unchain" = some Builtin.«proto.unchain» := entryFor_of_fast (by kernel_rfl)
section
variable {prog : Program} {w : World} {A : Around} {E : Value → Shared → Prop} {s : Shared}
/- a raise while another one, without a context of its own, is handled -/
theorem raise_under {α : Type} {cls msg : String} {Q : α → Shared → Prop} {e₁ : Addr} {o₁ : Obj} {ws : Array Value} (hp : PlainExc cls) (hh : A.handled = some (.ref e₁)) (ho : s.heap.get? e₁ = some o₁) (hd : o₁.data = .fields ws) (h2 : ws[2]? = some .none)
    (h : ∀ h' tk e a0, (∀ b o, s.heap.get? b = some o → h'.get? b = some o) → s.heap.get? e = none → (Ex2 fun ob vs => And5 (h'.get? e = some ob) (ob.cls = .type cls) (ob.data = .fields vs) (vs[0]? = some a0) (vs[1]? = some .none)) → E (.ref e) { s with heap := h', toks := tk }) :
    wpAny (model prog w) A (raiseErrorWords cls msg : Sem α) Q E s := by
  unfold raiseErrorWords
  refine wpAny_bind (wpAny_mkText (wpAny_bind ?_))
  unfold newExc newTuple
  refine wpAny_bind (wpAny_newObj_type ?_)
  refine wpAny_bind (m := firstArgMember _ _) (wpAny_of_eq (a := Value.none) (by simp only [firstArgMember, hp.first]; rfl) ?_)
  rw [hp.own]
  refine wpAny_newObj_type ?_
  unfold raiseNew
  refine wpAny_bind (wpAny_handled ?_)
  rw [hh]
  have lt := Heap.lt_size ho
  dsimp only
  generalize hT : s.heap.push { cls := Value.type "tuple", data := Data.seq #[Value.str (Str.ofString msg) s.toks] } = h₁
  have kT : ∀ b o, s.heap.get? b = some o → h₁.get? b = some o := fun b o q => by rw [← hT]; exact Heap.get?_push_of_some _ q
  have sT : h₁.objs.size = s.heap.objs.size + 1 := by rw [← hT, Heap.size_push]
  have ne : e₁ ≠ h₁.objs.size := by rw [sT]; exact Nat.ne_of_lt (Nat.lt_succ_of_lt lt)
  rw [if_pos (by simpa using ne)]
  generalize hX : h₁.push _ = h₂
  have kX : ∀ b o, h₁.get? b = some o → h₂.get? b = some o := fun b o q => by rw [← hX]; exact Heap.get?_push_of_some _ q
  have nX := Heap.get?_push_size h₁ (o := { cls := Value.type cls, data := Data.fields (#[Value.ref s.heap.objs.size, Value.none, Value.none, Value.none, Value.bool false, Value.none] ++ #[]) }) rfl
  rw [hX] at nX
  refine wpAny_bind (wpAny_holding (wpAny_runValue (codeAny_builtin entry_unchain ?_)))
  unfold Builtin.«proto.unchain»
  dsimp only
  refine wpAny_bind (wpAny_field (kX _ _ (kT _ _ ho)) hd h2 ?_)
  rw [if_pos (by rfl)]
  refine wpAny_pure ?_
  dsimp only
  refine wpAny_bind ?_
  unfold updateField
  refine wpAny_bind (wpAny_load nX ?_)
  dsimp only
  rw [if_pos (by simp)]
  refine wpAny_update nX (wpAny_throw (h _ _ _ (.ref s.heap.objs.size) (fun b o q => ?_) ?_ ⟨_, _, Heap.get?_update_self _ nX rfl, rfl, rfl, by simp, by simp⟩))
  · refine (Heap.get?_update_other _ _ fun z => ?_).trans (kX _ _ (kT _ _ q))
    have := Heap.lt_size q
    rw [← z, sT] at this
    exact absurd this (Nat.not_lt.mpr (Nat.le_succ _))
  · exact Heap.get?_none_of_le (by rw [sT]; exact Nat.le_succ _)
theorem getItem_out_under {l : Addr} {items : Array Value} {k : Int} {t : Tok} {Q : Value → Shared → Prop} {e₁ : Addr} {o₁ : Obj} {ws : Array Value} (hh : A.handled = some (.ref e₁)) (ho : s.heap.get? e₁ = some o₁) (hd : o₁.data = .fields ws) (h2 : ws[2]? = some .none)
    (hl : s.heap.IsList l items) (hout : (items.size : Int) ≤ k) (hz : k < 2 ^ 62)
    (h : ∀ h' tk e a0, (∀ b o, s.heap.get? b = some o → h'.get? b = some o) → s.heap.get? e = none → (Ex2 fun ob vs => And5 (h'.get? e = some ob) (ob.cls = .type "IndexError") (ob.data = .fields vs) (vs[0]? = some a0) (vs[1]? = some .none)) → E (.ref e) { s with heap := h', toks := tk }) :
    wpAny (model prog w) A (getItem (.ref l) (.int k t)) Q E s := by
  obtain ⟨o, ho', hc, n, hdl⟩ := id hl
  unfold getItem
  try with_reducible refine wpAny_holding ?_
  refine wpAny_bind (wpAny_sequenceKey hl.typeIs (by decide) ?_)
  refine wpAny_bind (wpAny_callSpecial?_slot (name := Str.ofString "__getitem__") hl.typeIs slot_list_getitem (wpAny_call_entry slot_list_getitem hl.typeIs entry_list_getitem ?_ (args_list_getitem _ _)))
  show wpAny _ _ (Builtin.List.listSubscript? (.int k t) >>= _) _ _ s
  refine wpAny_bind (wpAny_listSubscript_int (fitsIndex_both (by omega) (by omega)) ?_)
  clear hz
  cases k with
  | negSucc j => exact absurd hout (by have := Int.negSucc_lt_zero j; omega)
  | ofNat j =>
    show wpAny _ _ ((seqItemAt l j >>= fun r => pure (r.map (j, ·))) >>= _) _ _ s
    refine wpAny_bind (wpAny_bind (wpAny_seqItemAt ho' hdl (wpAny_pure ?_)))
    rw [Array.getElem?_eq_none (Int.ofNat_le.mp hout)]
    exact wpAny_bind (wpAny_rule (wpAny_bind (raise_under plainExc_IndexError hh ho hd h2 h)))
end
section
variable {d : Dy} {m : Loc} {news : Led} {E : Value → Shared → Prop} {env : Env} {s : Shared} {u : Tok} {Q : Value → Loc → Led → Prop} {value slice : Expr} {vs : List Value} {k : Nat} {a : Addr}
theorem HsOk.get {hid : Hid} {hs : Led} (h : HsOk hid hs) {e : Addr} {P : Obj → Prop} (hm : (e, P) ∈ hid) : ∃ o, (e, o) ∈ hs ∧ P o := by
  induction h with
  | nil => exact nomatch hm
  | cons hp _ ih =>
    rcases List.mem_cons.mp hm with q | q
    · cases q; exact ⟨_, .head _, hp⟩
    · obtain ⟨o, h1, h2⟩ := ih q
      exact ⟨o, .tail _ h1, h2⟩
theorem St.hid (h : St d s m news) {e : Addr} {P : Obj → Prop} (hm : (e, P) ∈ d.hid) : ∃ o, s.heap.get? e = some o ∧ P o := by
  obtain ⟨fs, hf, N, nd⟩ := h.N
  obtain ⟨h1, h2⟩ := hf
  obtain ⟨o, q1, q2⟩ := h1.get hm
  exact ⟨o, (N _ (List.mem_append_right _ (List.mem_append_left _ q1))).1, q2⟩
theorem W_itemL_outH {e₁ : Addr} {j : Int} {P : Obj → Prop} (hA : d.A.handled = some (.ref e₁)) (hP : (e₁, P) ∈ d.hid) (hP2 : ∀ o, P o → ∃ ws, o.data = .fields ws ∧ ws[2]? = some .none) (hm : (a, listO vs k) ∈ news) (hout : (vs.length : Int) ≤ j) (hz : j < 2 ^ 62)
    (hx : ∀ ev s a0, XF d m news (.type "IndexError") a0 ev s → E ev s)
    (hs : subscripted slice false (.ref a) (.int j u) = operate [.ref a, .int (j : Int) u] (getItem (.ref a) (.int j u)) := by rfl) : W d (subscriptTail value slice (.ref a) (.int j u)) m news Q E := .mk fun s h' => by
  have hl := listO_isList (h'.mem hm)
  obtain ⟨o, ho, hp⟩ := h'.hid hP
  obtain ⟨ws, hd, h2⟩ := hP2 o hp
  refine tail_any hl.typeIs slot_list_getitem.lookup (getItem_out_under hA ho hd h2 hl (by simpa using hout) hz fun h3 tk e a0 k1 k2 k3 => ?_) hs
  obtain ⟨ob, vs2, q1, q2, q3, q4, q5⟩ := k3
  exact hx _ _ a0 ⟨e, rfl, .inl ⟨s.heap, ⟨h'.F, h'.N, h'.gens, h'.drawn, h'.os⟩, k1, k2, ob, vs2, q1, q2, q3, q4, q5⟩⟩
theorem W_itemL_outG {i : Int} (hA : d.A.handled = none) (hm : (a, listO vs k) ∈ news) (hout : (vs.length : Int) ≤ i) (hz : i < 2 ^ 63) (hx : ∀ ev s a0, XG d m news (.type "IndexError") a0 ev s → E ev s)
    (hs : subscripted slice false (.ref a) (.int i u) = operate [.ref a, .int i u] (getItem (.ref a) (.int i u)) := by rfl) :
    W d (subscriptTail value slice (.ref a) (.int i u)) m news Q E := .mk fun s h' => by
  have hl := listO_isList (h'.mem hm)
  refine tail_any hl.typeIs slot_list_getitem.lookup (wpAny_getItem_list_out hA hl (.inr (by simpa using hout)) (by omega) hz fun h2 tk e hn => ?_) hs
  obtain ⟨a0, q⟩ := xg_new (tk := tk) h' hn
  exact hx _ _ a0 q
end
end Mine

open PySem PySem.W PyProof.Rows
set_option Elab.async false
set_option linter.unusedVariables false
set_option maxRecDepth 100000
set_option maxHeartbeats 4000000
namespace Mine
open PySem.Spec PySem.Calls
section
variable {d : Dy} {m : Loc} {news : Led} {E : Value → Shared → Prop} {env : Env} {pos : Pos} {s : Shared}
variable {cn : Str} {cs : Scope} {a : Addr} {ccd : Value} {cl : List (Str × Addr)} {x : Str} {v : Value}
variable {i j : Int} {t u : Tok} {Q : Value → Loc → Led → Prop} {y z : Str} {value slice : Expr} {vs : List Value} {k : Nat}
theorem W_Meth {o : Expr} {name : Str} {apos : Pos} {args : List Expr} {pl : Sem Bool}
    (h : W d (eval o env) m news (fun ov m1 n1 => W d (getMethod ov name pl) m1 n1 (fun fx m2 n2 => W d (callWith pos fx.1 fx.2 (backTo pos (starEach args env)) []) m2 n2 Q E) E) E)
    (he : eval (.Call (.Attribute o name apos) args [] pos) env = (do
      let ov ← eval o env
      standAt apos.atName
      let (f, first) ← holding [ov] (getMethod ov name pl)
      callWith pos f first (backTo pos (starEach args env)) []) := by with_unfolding_all rfl) : W d (eval (.Call (.Attribute o name apos) args [] pos) env) m news Q E :=
  .mk fun s hs => MethodCall_ (h.run hs fun _ s1 _ _ hs1 h1 => h1.run hs1 fun _ s2 _ _ hs2 h2 => h2.go s2 hs2) he
theorem W_getL {name : Str} {id : String} {pl : Sem Bool} {Q : Value × List Value → Loc → Led → Prop} (slot : Slot "list" name id) (hty : typeOf (.builtin id) = pure (.type "method_descriptor")) (hm : (a, listO vs k) ∈ news)
    (h : Q (.builtin id, [.ref a]) m news) : W d (getMethod (.ref a) name pl) m news Q E :=
  .mk fun s hs => getMethod_list_of slot hty (listO_isList (hs.mem hm)) ⟨_, hs.mem hm, rfl⟩ ⟨_, _, hs, h⟩
theorem W_extend {g : Obj → Led} {b : Addr} {ws : List Value} {k2 : Nat} (hs : Sel a (listO vs k) news g) (hb : (b, listO ws k2) ∈ news) (hz : vs.length + ws.length ≤ sizeLine) (h : ∀ k', Q .none m (g (listO (vs ++ ws) k'))) :
    W d (call (.builtin "list.extend") [.ref a, .ref b]) m news Q E := .mk fun s h' => by
  have hm := h'.mem hs.mem
  have hsz' : vs.toArray.size + ws.toArray.size ≤ sizeLine := by simpa using hz
  refine call_meets PySem.F.slot_list_extend ⟨_, hm, rfl⟩ PySem.F.entry_list_extend (PySem.F.args_list_extend_2 _ _) (AutoSeq1.list_extend_list_list_0 a vs.toArray k b ws.toArray k2 (extend_door hsz') (Nat.le_trans (Nat.le_add_right _ _) hsz')) ⟨hm, h'.mem hb, ?_⟩
  have e : vs.toArray ++ ws.toArray = (vs ++ ws).toArray := by simp
  have ho' : (s.heap.update a (Obj.mapSeq fun x => x ++ ws.toArray)).get? a = some (listO (vs ++ ws) (if (vs.toArray ++ ws.toArray).size == vs.toArray.size then k else k + 1)) := by
    rw [Heap.get?_update_self _ hm (by rw [mapSeq_app]; rfl), mapSeq_app, e]
  exact ⟨_, _, h'.update s.toks hs (Heap.SameBut.update ..) ho', h _⟩
theorem W_sliceFrom {lo : Expr} {p : Pos} (h : W d (eval value env) m news (fun o m1 n1 => W d (eval lo env) m1 n1 (fun vi m2 n2 => Ex5 fun l vs k i ui => And6 (o = .ref l) ((l, listO vs k) ∈ n2) (vi = .int i ui) (0 ≤ i) (vs.length ≤ sizeLine) (∀ l', Q (.ref l') m2 ((l', listO (vs.drop i.toNat) 0) :: n2))) E) E)
    (ht : ∀ l r, letTemporaryGo value (.ref l) r = pure () := by intro _ _; with_unfolding_all rfl) : W d (eval (.Subscript value (.Slice (some lo) none none p) pos) env) m news Q E := .mk fun s hs => by
  refine Subscript_ (h.run hs fun o s1 m1 n1 hs1 h1 => wpAny_Slice (wpAny_evalPart_some (h1.run hs1 fun vi s2 m2 n2 hs2 h2 => wpAny_evalPart_none (wpAny_pure ?_))))
  obtain ⟨l, vs, k, i, ui, rfl, hm, rfl, h0, hz, hq⟩ := h2
  have hl := listO_isList (hs2.mem hm)
  refine subscriptTail_ops (Heap.IsList.typeIs (s := { s2 with heap := s2.heap.push { cls := .type "slice", data := .fields #[.int i ui, .none, .none] } }) (hl.push _)) list_getitem_lookup
    (wpAny_getItem_list_slice (hl.push _) (Heap.IsSliceOf.new ..) (.int i ui) .none .none (by simp) ?_ (by simpa using hz)) (by with_unfolding_all rfl) (ht _)
  have e : slicePick vs.toArray (some i) none none = (vs.drop i.toNat).toArray := by
    obtain ⟨n, rfl⟩ : ∃ n : Nat, i = (n : Int) := ⟨i.toNat, by omega⟩
    rw [slicePick_from' vs.toArray n]
    simp
  rw [e]
  have h3 := (hs2.ext (h' := s2.heap.push { cls := .type "slice", data := .fields #[.int i ui, .none, .none] }) s2.toks fun _ _ q => Heap.get?_push_of_some _ q).push (listO (vs.drop i.toNat) 0)
  exact ⟨_, _, h3, hq _⟩
theorem W_Assign2 {t₁ t₂ value : Expr} {Q : Flow → Loc → Led → Prop} (h : W d (eval value env) m news (fun v m1 n1 => W d (assign t₁ env v) m1 n1 (fun _ m2 n2 => W d (assign t₂ env v) m2 n2 (fun _ m3 n3 => Q .next m3 n3) E) E) E)
    (he : (assignEach [t₁, t₂] env).map (·.2) = [assign t₁ env, assign t₂ env] := by with_unfolding_all rfl) (hw : swappedStores [t₁, t₂] value env = pure none := by with_unfolding_all rfl) : W d (exec (.Assign [t₁, t₂] value pos) env) m news Q E :=
  .mk fun s hs => wpAny_Assign_two (h.run hs fun _ s1 _ _ hs1 h1 => h1.run hs1 fun _ s2 _ _ hs2 h2 => h2.go s2 hs2) he hw
theorem W_asgName {px : Pos} {Q : Unit → Loc → Led → Prop} (h : W d (storeName env x v) m news Q E) : W d (assign (.Name x px) env v) m news Q E := .mk fun s hs => by
  show wpAny _ _ (standAt px >>= fun _ => bindName env x v) _ _ _
  exact wpAny_bind (wpAny_standAt (wpAny_bindName (h.go s hs)))
/- a while whose test is false at once, or raises -/
theorem W_While0 {test : Expr} {body : List Stmt} {Q : Flow → Loc → Led → Prop} (h : W d (isTrue test env (eval test env)) m news (fun b m' n' => b = false ∧ Q .next m' n') E) (hE : PassesOwn (model PG d.w) d.A env E) :
    W d (exec (.While test body [] pos) env) m news Q E := by
  refine W_While (fun n m1 n1 => m1 = m ∧ n1 = news) (n₀ := 0) ⟨rfl, rfl⟩ ?_ hE
  rintro n m1 n1 ⟨rfl, rfl⟩
  refine h.mono fun b m' n' hb => ?_
  obtain ⟨rfl, hq⟩ := hb
  rw [if_neg (by decide)]
  exact W_nil hq
end
end Mine

open PySem PySem.W PyProof.Rows
set_option Elab.async false
set_option linter.unusedVariables false
set_option maxRecDepth 100000
set_option maxHeartbeats 4000000
namespace Mine
open PySem.Spec PySem.Calls
/- an env's names: locals by place, globals, cells -/
structure Ev (env : Env) (L : Addr) (LN GN : List Str) (CN : List (Str × Addr)) : Prop where
  fn : env.scope.kind = .function
  hL : env.locals = L
  hG : env.globals = mainGlobals
  hB : env.builtins = builtinsNs
  nd : LN.Nodup
  loc : ∀ x ∈ LN, env.kindOf x = some .local ∧ (x == ("__debug__" : Str)) = false
  glo : ∀ x ∈ GN, env.kindOf x = some .globalImplicit ∧ (x == ("__debug__" : Str)) = false
  cel : ∀ x c, (x, c) ∈ CN → (env.kindOf x = some .cell ∨ env.kindOf x = some .free) ∧ env.cells.lookup x = some c ∧ (x == ("__debug__" : Str)) = false ∧ (x == ("__classdict__" : Str)) = false
section
variable {d : Dy} {m : Loc} {news : Led} {E : Value → Shared → Prop} {env : Env} {pos : Pos} {s : Shared} {x : Str} {v : Value} {LN GN : List Str} {CN : List (Str × Addr)} {vs vs' : List (Option Value)}
theorem W_nameE {Q : Value → Loc → Led → Prop} (hN : Ev env d.L LN GN CN) (ha : At LN vs x v) (h : Q v (Lv LN vs) news) : W d (eval (.Name x pos) env) (Lv LN vs) news Q E :=
  .mk fun s hs => wpAny_Name (wpAny_loadName_local hN.fn (hN.loc x ha.mem).1 (hN.hL ▸ hs.F.ns) (ha.get hN.nd) ⟨_, _, hs, h⟩) (hN.loc x ha.mem).2
theorem W_gloKE {Q : Value → Loc → Led → Prop} (hN : Ev env d.L LN GN CN) (hx : x ∈ GN) (e : nsIn (hd.heap_39 d.w.params) mainGlobals x = some (some v)) (h : Q v m news) : W d (eval (.Name x pos) env) m news Q E := .mk fun s hs => by
  obtain ⟨loose, mg, mb, mean, T⟩ := d.T
  have T' := topRead_of T
  exact Name_function_global hN.fn (hN.glo x hx).1 (loadGlobal_global (hN.hG ▸ T'.g.keeps hs.F.keep) (mg_of d.K T'.g e) ⟨_, _, hs, h⟩) (hN.glo x hx).2
theorem W_gloBE {Q : Value → Loc → Led → Prop} (hN : Ev env d.L LN GN CN) (hx : x ∈ GN) (e : nsIn (hd.heap_39 d.w.params) mainGlobals x = some none ∧ bootBuiltins x = some v ∧ x ≠ "__name__") (h : Q v m news) : W d (eval (.Name x pos) env) m news Q E := .mk fun s hs => by
  obtain ⟨loose, mg, mb, mean, T⟩ := d.T
  have T' := topRead_of T
  exact Name_function_global hN.fn (hN.glo x hx).1 (loadGlobal_builtin (hN.hG ▸ T'.g.keeps hs.F.keep) (mg_none_of d.K T'.g e.1) (hN.hB ▸ T'.b.keeps hs.F.keep) ((T'.builtins x e.2.2).trans e.2.1) ⟨_, _, hs, h⟩) (hN.glo x hx).2
theorem W_loadC {Q : Value → Loc → Led → Prop} {c : Addr} {o : Obj} (hN : Ev env d.L LN GN CN) (hc : (x, c) ∈ CN) (hm : (c, o) ∈ news) (hd : o.data = .cell (some v)) (h : Q v m news) : W d (loadName env x) m news Q E := .mk fun s hs => by
  obtain ⟨hk, hl, _, hn⟩ := hN.cel x c hc
  rcases hk with hk | hk
  · exact wpAny_loadName_cell hN.fn hk hl ⟨o, hs.mem hm, hd⟩ ⟨_, _, hs, h⟩
  · exact wpAny_loadName_free hN.fn hk hl ⟨o, hs.mem hm, hd⟩ ⟨_, _, hs, h⟩ hn
theorem W_nameC {Q : Value → Loc → Led → Prop} {c : Addr} {o : Obj} (hN : Ev env d.L LN GN CN) (hc : (x, c) ∈ CN) (hm : (c, o) ∈ news) (hd : o.data = .cell (some v)) (h : Q v m news) : W d (eval (.Name x pos) env) m news Q E :=
  .mk fun s hs => wpAny_Name ((W_loadC (E := E) hN hc hm hd h).go s hs) (hN.cel x c hc).2.2.1
theorem W_storeE {Q : Unit → Loc → Led → Prop} (hN : Ev env d.L LN GN CN) (hp : Put LN vs x v vs') (h : Q () (Lv LN vs') news) : W d (storeName env x v) (Lv LN vs) news Q E := .mk fun s hs => by
  obtain ⟨fs, hf, N, nd⟩ := hs.N
  have hL := hN.hL
  refine wpAny_storeName_local (m := Lv LN vs) (hN.loc x hp.mem).1 (hL ▸ hs.F.ns) (fun h' hn hsb => ?_) (by rw [hN.fn]; rfl)
  rw [hL] at hn hsb
  rw [show (fun y => if y = x then some v else Lv LN vs y) = Lv LN vs' from hp.eq hN.nd] at hn
  exact ⟨_, _, hs.heap hf _ (hs.F.set hn hsb) (N.set hsb) nd, h⟩
theorem W_storeC {Q : Unit → Loc → Led → Prop} {c : Addr} {o : Obj} {v₀ : Option Value} {g : Obj → Led} (hN : Ev env d.L LN GN CN) (hc : (x, c) ∈ CN) (hk : env.kindOf x = some .cell) (hs : Sel c o news g) (hd : o.data = .cell v₀)
    (h : ∀ o', o'.data = .cell (some v) → Q () m (g o')) : W d (storeName env x v) m news Q E := .mk fun s h' => by
  obtain ⟨_, hl, _, hn⟩ := hN.cel x c hc
  refine wpAny_storeName_cell hN.fn hk hl ⟨o, h'.mem hs.mem, hd⟩ fun h2 hv hsb => ?_
  obtain ⟨o', ho', hd'⟩ := hv
  exact ⟨_, _, h'.update s.toks hs hsb ho', h o' hd'⟩
end
end Mine

open PySem PySem.W PyProof.Rows
set_option Elab.async false
set_option linter.unusedVariables false
set_option maxRecDepth 100000
set_option maxHeartbeats 4000000
namespace Mine
open PySem.Spec PySem.Calls
section
variable {d : Dy} {m : Loc} {news : Led} {E : Value → Shared → Prop} {env : Env} {pos : Pos} {s : Shared} {x : Str} {v : Value} {LN GN : List Str} {CN : List (Str × Addr)} {vs vs' : List (Option Value)}
/- a comprehension's names, within this frame -/
noncomputable def Dy.comp (d : Dy) (C : Addr) (m : Loc) : Dy :=
  { d with L := C, fr := (d.L, m) :: d.fr,
           hfe := fun e he => by
             obtain ⟨k1, a, k2, k3⟩ := d.hfe e he
             exact ⟨k1, a, k2, .inr (by rcases k3 with rfl | k3; exact .head _; exact .tail _ k3)⟩ }
theorem St.enterC {C : Addr} {h₁ : Heap} {tk : Nat} {m₁ : Loc} (hs : St d s m news) (hC : C = s.heap.objs.size) (hns : h₁.Ns C m₁) (hk₁ : ∀ b o, s.heap.get? b = some o → h₁.get? b = some o) :
    St (d.comp C m) { s with heap := h₁, toks := tk } m₁ news := by
  subst hC
  obtain ⟨fs, hf, N, nd⟩ := hs.N
  obtain ⟨oL, es, ep, hL, hLd, hLk, hLf⟩ := hs.F.ns
  obtain ⟨hh, hff⟩ := hf
  rename_i hs0 ff
  have lt : ∀ p ∈ news ++ (hs0 ++ ff), p.1 < s.heap.objs.size := fun p hp => Heap.lt_size (N p hp).1
  refine ⟨⟨hns, fun b o e => hk₁ b o (hs.F.keep b o e), Nat.le_trans hs.F.above (Nat.le_of_lt (Heap.lt_size hL))⟩, ⟨hs0 ++ (d.L, oL) :: ff, .mk hh (.cons ⟨es, ep, hLd, hLk, hLf⟩ hff), ?_, ?_⟩, hs.gens, hs.drawn, hs.os⟩
  · intro p hp
    have hp' : p = (d.L, oL) ∨ p ∈ news ++ (hs0 ++ ff) := by simpa [or_left_comm, or_assoc] using hp
    rcases hp' with rfl | hp'
    · exact ⟨hk₁ _ _ hL, Nat.ne_of_lt (Heap.lt_size hL), Heap.get?_none_of_le hs.F.above⟩
    · exact ⟨hk₁ _ _ (N p hp').1, Nat.ne_of_lt (lt p hp'), (N p hp').2.2⟩
  · have pm : (news ++ (hs0 ++ (d.L, oL) :: ff)).Perm ((d.L, oL) :: (news ++ (hs0 ++ ff))) := by
      rw [← List.append_assoc, ← List.append_assoc]; exact List.perm_middle
    refine (pm.map _).nodup_iff.mpr ?_
    rw [List.map_cons]
    refine List.nodup_cons.mpr ⟨fun hm => ?_, nd⟩
    obtain ⟨p, hp, e⟩ := List.mem_map.mp hm
    exact (N p hp).2.1 e
noncomputable def IsNs (o : Obj) : Prop := ∃ m, NsObj m o
theorem St.leaveC {C : Addr} {m' : Loc} {n' : Led} (hs' : St (d.comp C m) s m' n') (above : d.base.objs.size ≤ d.L) : ∃ oC, IsNs oC ∧ St d s m ((C, oC) :: n') := by
  obtain ⟨fs', hf', N', nd'⟩ := hs'.N
  obtain ⟨hh', hff'⟩ := hf'
  rename_i hs1 ff'
  obtain ⟨oL', fs2, rfl, hoL, hf2⟩ : Ex2 fun oL' fs2 => And3 (ff' = (d.L, oL') :: fs2) (NsObj m oL') (FrOk d.fr fs2) := by cases hff' with | cons hp hf' => exact ⟨_, _, rfl, hp, hf'⟩
  obtain ⟨oC, esC, epC, hC, hCd, hCk, hCf⟩ := hs'.F.ns
  have pm : (n' ++ (hs1 ++ (d.L, oL') :: fs2)).Perm ((d.L, oL') :: (n' ++ (hs1 ++ fs2))) := by
    rw [← List.append_assoc, ← List.append_assoc]; exact List.perm_middle
  have nd2 := (pm.map _).nodup_iff.mp nd'
  rw [List.map_cons] at nd2
  have hL' := N' (d.L, oL') (pm.mem_iff.mpr (.head _))
  obtain ⟨es', ep', x1, x2, x3⟩ := hoL
  refine ⟨oC, ⟨m', esC, epC, hCd, hCk, hCf⟩, ⟨⟨oL', es', ep', hL'.1, x1, x2, x3⟩, hs'.F.keep, above⟩, ⟨hs1 ++ fs2, .mk hh' hf2, fun p hp => ?_, ?_⟩, hs'.gens, hs'.drawn, hs'.os⟩
  · rcases List.mem_cons.mp hp with rfl | hp
    · exact ⟨hC, Ne.symm hL'.2.1, Heap.get?_none_of_le hs'.F.above⟩
    · exact ⟨(N' p (pm.mem_iff.mpr (.tail _ hp))).1, fun e => (List.nodup_cons.mp nd2).1 (List.mem_map.mpr ⟨p, hp, e⟩), (N' p (pm.mem_iff.mpr (.tail _ hp))).2.2⟩
  · show (C :: (n' ++ (hs1 ++ fs2)).map (·.1)).Nodup
    refine List.nodup_cons.mpr ⟨fun hm => ?_, (List.nodup_cons.mp nd2).2⟩
    obtain ⟨p, hp, e⟩ := List.mem_map.mp hm
    exact (N' p (pm.mem_iff.mpr (.tail _ hp))).2.1 e

/- what closureFor gives -/
noncomputable def cloE (cells : List (Str × Addr)) : List (Str × NameKind) → List (Str × Addr) → List (Str × Addr)
  | [], acc => acc
  | (n, k) :: r, acc => if k == .free then cloE cells r ((n, (cells.lookup n).getD 0) :: acc) else cloE cells r acc
theorem closureFor_eq {scope : Scope} (h : ∀ y ∈ scope.names, y.2 = .free → (env.cells.lookup y.1).isSome = true) : closureFor scope env = pure (cloE env.cells scope.names []) := by
  have key : ∀ (names : List (Str × NameKind)) (acc : List (Str × Addr)), (∀ y ∈ names, y.2 = .free → (env.cells.lookup y.1).isSome = true) →
      (forIn names acc fun (y : Str × NameKind) cs => if (y.2 == .free) = true then (do let c ← cellOf env y.1; pure (ForInStep.yield ((y.1, c) :: cs))) else pure (ForInStep.yield cs) : Sem (List (Str × Addr))) = pure (cloE env.cells names acc) := by
    intro names
    induction names with
    | nil => intro acc _; rfl
    | cons y r ih =>
      intro acc hy
      obtain ⟨n, k⟩ := y
      rw [List.forIn_cons]
      have ihr := fun acc => ih acc fun y hm => hy y (.tail _ hm)
      by_cases hk : k = .free
      · subst hk
        obtain ⟨c, hc⟩ := Option.isSome_iff_exists.mp (hy (n, .free) (.head _) rfl)
        have hcell : cellOf env n = pure c := by unfold cellOf; simp only at hc; rw [hc]
        simp only [beq_self_eq_true, if_true, cloE]
        simp only at hc
        rw [hcell, hc]
        exact ihr _
      · have hb : (k == NameKind.free) = false := by simpa using hk
        simp only [hb, Bool.false_eq_true, if_false, cloE]
        exact ihr _
  unfold closureFor
  have := key scope.names [] h
  simp only [bind_pure]
  exact this
end
end Mine

open PySem PySem.W PyProof.Rows
set_option Elab.async false
set_option linter.unusedVariables false
set_option maxRecDepth 100000
set_option maxHeartbeats 4000000
namespace Mine
open PySem.Spec PySem.Calls
/- a value that a for or a comprehension walks -/
structure Iter (w : World) (v : Value) (n : Nat) (I : Addr → Nat → Obj → Prop) (V : Nat → Value → Prop) (C₀ C : Led → Prop) : Prop where
  start : ∀ (d : Dy) s m news, d.w = w → d.A.handled = none → St d s m news → C₀ news → ∀ {Q' : Value → Shared → Prop} {E' : Value → Shared → Prop},
    (∀ it o h' tk, I it 0 o → St d { s with heap := h', toks := tk } m ((it, o) :: news) → Q' (.ref it) { s with heap := h', toks := tk }) → wpAny (model PG d.w) d.A (pyIter v) Q' E' s
  self : ∀ (d : Dy) it o s m news, d.w = w → d.A.handled = none → I it 0 o → St d s m ((it, o) :: news) → ∀ {Q' : Value → Shared → Prop} {E' : Value → Shared → Prop}, Q' (.ref it) s → wpAny (model PG d.w) d.A (pyIter (.ref it)) Q' E' s
  src : ∀ (d : Dy) it, d.w = w → d.A.handled = none → Src d it n (I it) V C
theorem iter_list {w : World} {l : Addr} {vs : List Value} {k : Nat} : Iter w (.ref l) vs.length (fun _ => listIt l) (fun i v => vs[i]? = some v) (fun n₁ => (l, listO vs k) ∈ n₁) (fun n₁ => (l, listO vs k) ∈ n₁) where
  start := fun d s m news _ hh hs hl Q' E' h => wpAny_pyIter_list (listO_isList (hs.mem hl)) (h _ _ _ s.toks ⟨rfl, rfl⟩ (hs.push { cls := .type "list_iterator", data := .fields #[.ref l, .int 0 0] }))
  self := fun d it o s m news _ hh hI hs Q' E' h => wpAny_pyIter_listiter (i := 0) ⟨o, hs.mem (.head _), hI.1, hI.2⟩ h
  src := fun d it _ hh => src_list hh
theorem iter_range {w : World} {r : Addr} {n : Nat} {t u v : Tok} (hn : n < 1000000) : Iter w (.ref r) n (fun _ i => rangeIt i n) (fun i v => ∃ t, v = .int i t) (fun n₁ => (r, rangeO n t u v) ∈ n₁) (fun _ => True) where
  start := fun d s m news _ hh hs hl Q' E' h => by
    refine wpAny_pyIter_range (hs.mem hl) (small_nat hn).1 ?_
    rw [(small_nat hn).2]
    exact h _ _ _ s.toks (by simp [rangeIt]) (hs.push { cls := .type "range_iterator", data := .fields #[rawInt 0, rawInt (n : Int), rawInt 1] })
  self := fun d it o s m news _ hh hI hs Q' E' h => by
    subst hI
    exact wpAny_pyIter_rangeiter (hs.mem (.head _)) h
  src := fun d it _ hh => src_range hh
section
variable {d : Dy} {m : Loc} {news : Led} {E : Value → Shared → Prop} {env : Env} {pos : Pos} {s : Shared} {x : Str} {v : Value} {LN GN : List Str} {CN : List (Str × Addr)} {vs vs' : List (Option Value)}
theorem lookup_relabel : ∀ {names : List (Str × NameKind)} {y : Str} {k : NameKind}, names.lookup y = some k →
    (names.map fun (n, k) => if (k == NameKind.free && env.scope.kind == .function && env.kindOf n == some .cell) then (n, NameKind.cell) else (n, k)).lookup y = some (if (k == NameKind.free && env.scope.kind == .function && env.kindOf y == some .cell) then .cell else k)
  | [], _, _, h => by simp at h
  | (n, k') :: r, y, k, h => by
    have ih := @lookup_relabel r y k
    rw [List.map_cons]
    cases hx : y == n with
    | true =>
      simp only [List.lookup_cons, hx] at h
      cases h
      have e : y = n := by simpa using hx
      subst e
      dsimp only
      split <;> simp [List.lookup_cons]
    | false =>
      simp only [List.lookup_cons, hx] at h
      dsimp only
      split <;> (simp only [List.lookup_cons, hx]; exact ih h)
theorem cloE_lookup (cells : List (Str × Addr)) : ∀ (names : List (Str × NameKind)) (acc : List (Str × Addr)) (y : Str) (c : Addr), cells.lookup y = some c → (y, NameKind.free) ∈ names ∨ acc.lookup y = some c → (cloE cells names acc).lookup y = some c
  | [], acc, y, c, hc, h => by rcases h with h | h; exact nomatch h; exact h
  | (n, k) :: r, acc, y, c, hc, h => by
    unfold cloE
    by_cases hk : k = .free
    · subst hk
      simp only [beq_self_eq_true, if_true]
      refine cloE_lookup cells r _ y c hc ?_
      by_cases e : y = n
      · subst e; right; simp [List.lookup_cons, hc]
      · have eb : (y == n) = false := by simpa using e
        rcases h with h | h
        · rcases List.mem_cons.mp h with q | q
          · cases q; exact absurd rfl e
          · exact .inl q
        · right; simp only [List.lookup_cons, eb]; exact h
    · have hb : (k == NameKind.free) = false := by simpa using hk
      simp only [hb, Bool.false_eq_true, if_false]
      refine cloE_lookup cells r acc y c hc ?_
      rcases h with h | h
      · rcases List.mem_cons.mp h with q | q
        · cases q; exact absurd rfl hk
        · exact .inl q
      · exact .inr h
noncomputable def compOk (scope : Scope) (LN GN CNn : List Str) : Bool := scope.kind == .function && decide LN.Nodup && (LN.all fun x => scope.names.lookup x == some .local && (x == ("__debug__" : Str)) == false) && (GN.all fun x => scope.names.lookup x == some .globalImplicit && (x == ("__debug__" : Str)) == false)
  && (CNn.all fun x => scope.names.lookup x == some .free && (x == ("__debug__" : Str)) == false && (x == ("__classdict__" : Str)) == false) && (scope.names.all fun y => (y.2 != .free || CNn.contains y.1) && (y.2 != .local || scope.names.lookup y.1 == some .local))
structure CompOk (scope : Scope) (LN GN CNn : List Str) : Prop where
  fn : scope.kind = .function
  nd : LN.Nodup
  loc : ∀ x ∈ LN, scope.names.lookup x = some .local ∧ (x == ("__debug__" : Str)) = false
  glo : ∀ x ∈ GN, scope.names.lookup x = some .globalImplicit ∧ (x == ("__debug__" : Str)) = false
  cel : ∀ x ∈ CNn, scope.names.lookup x = some .free ∧ (x == ("__debug__" : Str)) = false ∧ (x == ("__classdict__" : Str)) = false
  fre : ∀ y ∈ scope.names, y.2 = .free → y.1 ∈ CNn
  nms : ∀ y ∈ scope.names, y.2 = .local → scope.names.lookup y.1 = some .local
theorem CompOk.of {scope : Scope} {LN GN CNn : List Str} (h : compOk scope LN GN CNn = true) : CompOk scope LN GN CNn := by
  unfold compOk at h
  simp only [Bool.and_eq_true, List.all_eq_true, beq_iff_eq, decide_eq_true_eq] at h
  obtain ⟨⟨⟨⟨⟨h1, h2⟩, h3⟩, h4⟩, h5⟩, h6⟩ := h
  refine ⟨h1, h2, h3, h4, fun x hx => ⟨(h5 x hx).1.1, (h5 x hx).1.2, (h5 x hx).2⟩, fun y hy hf => ?_, fun y hy hf => ?_⟩
  · have := (h6 y hy).1
    rw [hf] at this
    simpa using this
  · have := (h6 y hy).2
    rw [hf] at this
    simpa using this
theorem mem_of_lookup' {names : List (Str × NameKind)} {y : Str} {k : NameKind} (h : names.lookup y = some k) : (y, k) ∈ names := by
  induction names with
  | nil => simp at h
  | cons p r ih =>
    obtain ⟨n, k'⟩ := p
    cases hx : y == n with
    | true =>
      simp only [List.lookup_cons, hx] at h
      cases h
      have e : y = n := by simpa using hx
      subst e; exact .head _
    | false =>
      simp only [List.lookup_cons, hx] at h
      exact .tail _ (ih h)
theorem Ev.clos {scope : Scope} {LN' GN' : List Str} {CN' : List (Str × Addr)} {L : Addr} (hE : Ev env L LN GN CN) (ok : CompOk scope LN' GN' (CN'.map (·.1))) (hsub : ∀ p ∈ CN', p ∈ CN) : closureFor scope env = pure (cloE env.cells scope.names []) := by
  refine closureFor_eq fun y hy hf => ?_
  obtain ⟨p, hp, e⟩ := List.mem_map.mp (ok.fre y hy hf)
  have := (hE.cel p.1 p.2 (hsub p hp)).2.1
  rw [e] at this
  rw [this]; rfl
theorem Ev.comp {scope : Scope} {LN' GN' : List Str} {CN' : List (Str × Addr)} {L : Addr} (hE : Ev env L LN GN CN) (ok : CompOk scope LN' GN' (CN'.map (·.1))) (hsub : ∀ p ∈ CN', p ∈ CN) (C : Addr) : Ev (compEnvC scope (cloE env.cells scope.names []) C env) C LN' GN' CN' where
  fn := ok.fn
  hL := rfl
  hG := hE.hG
  hB := hE.hB
  nd := ok.nd
  loc := fun x hx => ⟨lookup_relabel (ok.loc x hx).1, (ok.loc x hx).2⟩
  glo := fun x hx => ⟨lookup_relabel (ok.glo x hx).1, (ok.glo x hx).2⟩
  cel := fun x c hc => by
    obtain ⟨k1, k2, k3⟩ := ok.cel x (List.mem_map.mpr ⟨_, hc, rfl⟩)
    have := hE.cel x c (hsub _ hc)
    refine ⟨?_, cloE_lookup _ _ _ _ _ this.2.1 (.inl (mem_of_lookup' k1)), k2, k3⟩
    have e := lookup_relabel (env := env) k1
    by_cases hb : (NameKind.free == NameKind.free && env.scope.kind == .function && env.kindOf x == some .cell) = true
    · rw [if_pos hb] at e; exact .inl e
    · rw [if_neg hb] at e; exact .inr e
theorem Ev.ofNm {cn : Str} {cs : Scope} {L a : Addr} {ccd : Value} {cl : List (Str × Addr)} (h : Nm cs LN GN) : Ev (envX cn cs L a ccd cl) L LN GN [] :=
  ⟨h.fn, rfl, rfl, rfl, h.nd, h.loc, h.glo, fun _ _ q => nomatch q⟩
end
end Mine

open PySem PySem.W PyProof.Rows
set_option Elab.async false
set_option linter.unusedVariables false
set_option linter.unusedSimpArgs false
set_option maxRecDepth 100000
set_option maxHeartbeats 4000000
namespace Mine
open PySem.Spec PySem.Calls
section
variable {d : Dy} {m : Loc} {news : Led} {E : Value → Shared → Prop} {env : Env} {pos : Pos} {s : Shared} {x : Str} {v : Value} {LN GN : List Str} {CN : List (Str × Addr)} {vs vs' : List (Option Value)}
noncomputable abbrev testsOf (ifs : List Expr) (env : Env) : Sem Bool := forIn ifs true fun c r => if r = true then do let ok ← isTrue c env (eval c env); pure (ForInStep.yield ok) else pure (ForInStep.yield r)
theorem W_tests0 {Q : Bool → Loc → Led → Prop} (h : Q true m news) : W d (testsOf [] env) m news Q E := .mk fun s hs => by
  show wpAny _ _ (forIn [] true _) _ _ _
  simp only [List.forIn_nil]
  exact wpAny_pure ⟨_, _, hs, h⟩
theorem W_tests1 {c : Expr} {Q : Bool → Loc → Led → Prop} (h : W d (isTrue c env (eval c env)) m news Q E) : W d (testsOf [c] env) m news Q E := .mk fun s hs => wpAny_tests_one (h.go s hs)

/- the state of a comprehension between two turns -/
theorem comp_loop {elt iter : Expr} {px : Pos} {ifs : List Expr} {scope : Scope} {n : Nat} {I : Addr → Nat → Obj → Prop} {V : Nat → Value → Prop} {C₀ C : Led → Prop} {vv : Value} (It : Iter d.w vv n I V C₀ C) (hh : d.A.handled = none) (hsz : n ≤ sizeLine)
    {cenv : Env} {Ca it D : Addr} {GN' : List Str} {CN' : List (Str × Addr)} (hcE : Ev cenv Ca [x] GN' CN') {R : Result → Shared → Prop}
    (J : Nat → List Value → Led → Prop) (hC : ∀ i ys n₁, J i ys n₁ → C n₁)
    (turn : ∀ k i v ys n₁, i < n → V i v → J i ys n₁ → W (((d.comp Ca m).hide it (I it (i + 1))).hide D (· = listO ys k)) (testsOf ifs cenv) (Lv [x] [some v]) n₁ (fun ok m₃ n₃ =>
      if ok = true then W (((d.comp Ca m).hide it (I it (i + 1))).hide D (· = listO ys k)) (eval elt cenv) m₃ n₃ (fun y m₄ n₄ => (∃ o, m₄ = Lv [x] [o]) ∧ J (i + 1) (ys ++ [y]) n₄) (fun _ _ => False)
      else (∃ o, m₃ = Lv [x] [o]) ∧ J (i + 1) ys n₃) (fun _ _ => False))
    (done : ∀ s' k ys n₁ o, J n ys n₁ → St (d.comp Ca m) s' (Lv [x] [o]) ((D, listO ys k) :: n₁) → R (.ok .next) s')
    {o₀ : Obj} {n₀ : Led} {k₀ : Nat} (hI : I it 0 o₀) (hJ : J 0 [] n₀) (hs : St (d.comp Ca m) s (Lv [x] [none]) ((it, o₀) :: (D, listO [] k₀) :: n₀)) :
    codeAny (model PG d.w) d.A (.compLoop (.ListComp elt [⟨.Name x px, iter, ifs, 0⟩] scope pos) 0 (.ref it) (.ref D) cenv) R s := by
  obtain ⟨P9, p9⟩ : ∃ P9 : Nat → Shared → Prop, ∀ kk s', P9 kk s' ↔ Ex6 fun i ys k o n₁ o1 => And6 (kk = n - i) (i ≤ n) (ys.length ≤ i) (I it i o) (J i ys n₁) (St (d.comp Ca m) s' (Lv [x] [o1]) ((it, o) :: (D, listO ys k) :: n₁)) := ⟨_, fun _ _ => Iff.rfl⟩
  refine codeAny_compLoop_tests P9 ?_ n ((p9 _ _).mpr ⟨0, [], k₀, o₀, n₀, none, by simp, Nat.zero_le _, Nat.le_refl _, hI, hJ, hs⟩)
  intro kk s' hP
  obtain ⟨i, ys, k, o, n₁, o1, rfl, hi, hlen, hIo, hJi, hs1⟩ := (p9 _ _).mp hP
  have hsw : ∀ {s' : Shared} {mm : Loc} {p q : Addr × Obj} {r : Led}, St (d.comp Ca m) s' mm (p :: q :: r) → St (d.comp Ca m) s' mm (q :: p :: r) := fun h => h.perm (List.Perm.swap ..)
  have hhD : St ((d.comp Ca m).hide D (· = listO ys k)) s' (Lv [x] [o1]) ((it, o) :: n₁) := St.hide (hsw hs1) rfl
  by_cases hlt : i < n
  · refine (It.src ((d.comp Ca m).hide D (· = listO ys k)) it rfl hh).item i _ n₁ o s' hlt hIo (hC _ _ _ hJi) hhD fun v o' h' tk hv hI' hs2 => ?_
    obtain ⟨oD, rfl, hs3⟩ := hs2.show'
    have hs4 : St (((d.comp Ca m).hide it (I it (i + 1))).hide D (· = listO ys k)) { s' with heap := h', toks := tk } (Lv [x] [o1]) n₁ := St.hide (St.hide (hsw hs3) hI') rfl
    have st : W (((d.comp Ca m).hide it (I it (i + 1))).hide D (· = listO ys k)) (storeName cenv x v) (Lv [x] [o1]) n₁ (fun _ m' n' => m' = Lv [x] [some v] ∧ n' = n₁) (fun _ _ => False) := W_storeE hcE .here ⟨rfl, rfl⟩
    show wpAny _ _ (standAt px >>= fun _ => bindName cenv x v) _ _ _
    refine wpAny_bind (wpAny_standAt (wpAny_bindName (wpAny_mono (st.go _ hs4) (fun _ s5 h5 => ?_) fun _ _ q => q.elim)))
    obtain ⟨m5, n5, hs5, rfl, rfl⟩ := h5
    refine wpAny_mono ((turn k i v ys _ hlt hv hJi).go s5 hs5) (fun ok s6 h6 => ?_) fun _ _ q => q.elim
    obtain ⟨m6, n6, hs6, h6⟩ := h6
    cases ok with
    | false =>
      rw [if_neg (by decide)] at h6
      obtain ⟨⟨o2, rfl⟩, hJ6⟩ := h6
      obtain ⟨oD, rfl, hs7⟩ := hs6.show'
      obtain ⟨oI, hI7, hs8⟩ := hs7.show'
      exact ⟨n - (i + 1), by omega, (p9 _ _).mpr ⟨i + 1, ys, k, oI, n6, o2, rfl, hlt, by omega, hI7, hJ6, hs8⟩⟩
    | true =>
      rw [if_pos rfl] at h6
      refine wpAny_mono (h6.go s6 hs6) (fun y s7 h7 => ?_) fun _ _ q => q.elim
      obtain ⟨m7, n7, hs7, ⟨o2, rfl⟩, hJ7⟩ := h7
      obtain ⟨oD, rfl, hs8⟩ := hs7.show'
      have ap : W ((d.comp Ca m).hide it (I it (i + 1))) (call (.builtin "list.append") [.ref D, y]) (Lv [x] [o2]) ((D, listO ys k) :: n7) (fun _ m' n' => m' = Lv [x] [o2] ∧ n' = (D, listO (ys ++ [y]) (k + 1)) :: n7) (fun _ _ => False) :=
        W_append .here (by omega) ⟨rfl, rfl⟩
      refine wpAny_mono (ap.go s7 hs8) (fun _ s9 h9 => ?_) fun _ _ q => q.elim
      obtain ⟨m9, n9, hs9, rfl, rfl⟩ := h9
      obtain ⟨oI, hI9, hs10⟩ := hs9.show'
      exact ⟨n - (i + 1), by omega, (p9 _ _).mpr ⟨i + 1, ys ++ [y], k + 1, oI, n7, o2, rfl, hlt, by simp; omega, hI9, hJ7, hs10⟩⟩
  · obtain rfl : i = n := by omega
    refine (It.src ((d.comp Ca m).hide D (· = listO ys k)) it rfl hh).stop _ n₁ o s' hIo (hC _ _ _ hJi) hhD fun h' tk hs2 => ?_
    obtain ⟨oD, rfl, hs3⟩ := hs2.show'
    exact done _ k ys n₁ o1 hJi hs3

theorem IsNs.at {h : Heap} {C : Addr} {o : Obj} (hn : IsNs o) (ho : h.get? C = some o) : ∃ m, h.Ns C m := by
  obtain ⟨m, es, ep, a, b, c⟩ := hn
  exact ⟨m, o, es, ep, ho, a, b, c⟩
/- the blocks that a comprehension lays, and its loop -/
theorem comp_block {elt iter : Expr} {px : Pos} {ifs : List Expr} {scope : Scope} {n : Nat} {I : Addr → Nat → Obj → Prop} {V : Nat → Value → Prop} {C₀ C : Led → Prop} {vv : Value} (It : Iter d.w vv n I V C₀ C) (hh : d.A.handled = none) (hsz : n ≤ sizeLine)
    {cl : List (Str × Addr)} {GN' : List Str} {CN' : List (Str × Addr)} (hcE : ∀ Ca, Ev (compEnvC scope cl Ca env) Ca [x] GN' CN') (hcell : ∀ y ∈ scope.names, y.2 ≠ .cell) {RR : Value → Addr → Result → Shared → Prop}
    (J : Nat → List Value → Led → Prop) (hC : ∀ i ys n₁, J i ys n₁ → C n₁)
    (turn : ∀ Ca it D k i v ys n₁, i < n → V i v → J i ys n₁ → Ev (compEnvC scope cl Ca env) Ca [x] GN' CN' → W (((d.comp Ca m).hide it (I it (i + 1))).hide D (· = listO ys k)) (testsOf ifs (compEnvC scope cl Ca env)) (Lv [x] [some v]) n₁ (fun ok m₃ n₃ =>
      if ok = true then W (((d.comp Ca m).hide it (I it (i + 1))).hide D (· = listO ys k)) (eval elt (compEnvC scope cl Ca env)) m₃ n₃ (fun y m₄ n₄ => (∃ o, m₄ = Lv [x] [o]) ∧ J (i + 1) (ys ++ [y]) n₄) (fun _ _ => False)
      else (∃ o, m₃ = Lv [x] [o]) ∧ J (i + 1) ys n₃) (fun _ _ => False))
    (done : ∀ s' Ca D k ys n₁ oC, J n ys n₁ → IsNs oC → St d s' m ((Ca, oC) :: (D, listO ys k) :: n₁) → RR (.ref D) Ca (.ok .next) s')
    {it : Addr} {o₀ : Obj} {n₀ : Led} (hI : I it 0 o₀) (hJ : J 0 [] n₀) (hs : St d s m ((it, o₀) :: n₀)) :
    wpAny (model PG d.w) d.A (newList []) (fun acc s₃ => wpAny (model PG d.w) d.A (newFunctionEnv scope env.globals cl [] env.qual none .none (some env)) (fun cenv s₄ =>
      codeAny (model PG d.w) d.A (.compStart (.ListComp elt [⟨.Name x px, iter, ifs, 0⟩] scope pos) 0 (.ref it) acc { cenv with scope := relabel scope env }) (RR acc cenv.locals) s₄) E s₃) E s := by
  have hkind : scope.kind = .function := (hcE 0).fn
  have h1 := hs.push (listO [] 0)
  refine wpAny_newObj_type ?_
  show wpAny _ _ _ _ _ { s with heap := s.heap.push (listO [] 0) }
  generalize hS : ({ s with heap := s.heap.push (listO [] 0) } : Shared) = S at h1 ⊢
  refine wpAny_newFunctionEnv hcell (by intro y hy; simp at hy) (fun h' hns hsb => ?_) hkind
  have hk : ∀ b o, S.heap.get? b = some o → h'.get? b = some o := fun b o e => (hsb.2 b (Nat.ne_of_lt (Heap.lt_size e))).trans (Heap.get?_push_of_some _ e)
  have e0 : (fun y => List.lookup y ([] : List (Str × Value)).reverse) = Lv [x] [none] := by
    funext y
    show none = if y = x then none else none
    split <;> rfl
  rw [e0] at hns
  have h2 := St.enterC (tk := S.toks + ([] : List (Str × Value)).length) h1 rfl hns hk
  have h3 := h2.perm (n' := (it, o₀) :: (s.heap.objs.size, listO [] 0) :: n₀) (List.Perm.swap ..)
  have loop := fun (s' : Shared) (hs' : St (d.comp S.heap.objs.size m) s' (Lv [x] [none]) ((it, o₀) :: (s.heap.objs.size, listO [] 0) :: n₀)) =>
    comp_loop (pos := pos) (iter := iter) (px := px) (scope := scope) (R := RR (.ref s.heap.objs.size) S.heap.objs.size) It hh hsz (hcE S.heap.objs.size) J hC (fun k i v ys n₁ a b c => turn _ _ _ k i v ys n₁ a b c (hcE _))
      (fun s' k ys n₁ o hj hs' => by
        obtain ⟨oC, hn, hs2⟩ := hs'.leaveC hs.F.above
        exact done s' _ _ k ys n₁ oC hj hn hs2) hI hJ hs'
  exact codeAny_compStart_list (loop _ h3) (It.self (d.comp S.heap.objs.size m) it o₀ _ _ _ rfl hh hI h3 (loop _ h3))

/- [elt for x in iter ..], its target a local of its own -/
theorem W_ListComp {elt iter : Expr} {px : Pos} {ifs : List Expr} {scope : Scope} {Q : Value → Loc → Led → Prop} (hE : Ev env d.L LN GN CN) (hh : d.A.handled = none) (GN' : List Str) (CN' : List (Str × Addr)) (ok : CompOk scope [x] GN' (CN'.map (·.1))) (hsub : ∀ p ∈ CN', p ∈ CN)
    (hcell : ∀ y ∈ scope.names, y.2 ≠ .cell) {n : Nat} {I : Addr → Nat → Obj → Prop} {V : Nat → Value → Prop} {C₀ C : Value → Led → Prop} (J : Value → Nat → List Value → Led → Prop) (hsz : n ≤ sizeLine)
    (h : W d (eval iter env) m news (fun v m1 n1 => m1 = m ∧ Iter d.w v n I V (C₀ v) (C v) ∧ C₀ v n1 ∧ J v 0 [] n1) E) (hC : ∀ v i ys n₁, J v i ys n₁ → C v n₁)
    (turn : ∀ vv Ca it D k i v ys n₁, i < n → V i v → J vv i ys n₁ → Ev (compEnvC scope (cloE env.cells scope.names []) Ca env) Ca [x] GN' CN' → W (((d.comp Ca m).hide it (I it (i + 1))).hide D (· = listO ys k)) (testsOf ifs (compEnvC scope (cloE env.cells scope.names []) Ca env)) (Lv [x] [some v]) n₁ (fun ok m₃ n₃ =>
      if ok = true then W (((d.comp Ca m).hide it (I it (i + 1))).hide D (· = listO ys k)) (eval elt (compEnvC scope (cloE env.cells scope.names []) Ca env)) m₃ n₃ (fun y m₄ n₄ => (∃ o, m₄ = Lv [x] [o]) ∧ J vv (i + 1) (ys ++ [y]) n₄) (fun _ _ => False)
      else (∃ o, m₃ = Lv [x] [o]) ∧ J vv (i + 1) ys n₃) (fun _ _ => False))
    (done : ∀ vv D k ys n₁, J vv n ys n₁ → Q (.ref D) m ((D, listO ys k) :: n₁)) (hfs : ∀ x, foldedSetIterable iter env x = pure x := by intro _; rfl) :
    W d (eval (.ListComp elt [⟨.Name x px, iter, ifs, 0⟩] scope pos) env) m news Q E := .mk fun s hs => by
  rw [eval_ListComp]
  refine wpAny_comprehension_free (use := none) rfl hfs (hE.clos ok hsub) ok.fn ok.nms (h.run hs fun v s1 m1 n1 hs1 h1 => ?_)
  obtain ⟨rfl, It, hC0, hJ⟩ := h1
  refine It.start d s1 m1 n1 rfl hh hs1 hC0 fun it o h' tk hI hs2 => ?_
  refine comp_block (RR := fun acc Ca => compPost (model PG d.w) d.A E none (fun a s' => Ex2 fun m' n' => St d s' m' n' ∧ Q a m' n') acc Ca) It hh hsz (hE.comp ok hsub) hcell (J v) (hC v) (turn v) (fun s' Ca D k ys n₁ oC hj hn hs3 => ?_) hI hJ hs2
  obtain ⟨mc, hns⟩ := hn.at (hs3.mem (.head _))
  refine ⟨mc, hns, fun h'' hsb => ⟨_, _, ?_, done v D k ys n₁ hj⟩⟩
  exact hs3.extBut s'.toks hsb.extBut

/- y = [elt for x in iter ..], onto a local: the stores are exchanged -/
theorem W_AsgComp {elt iter : Expr} {px py spos : Pos} {ifs : List Expr} {scope : Scope} {y : Str} {Q : Flow → Loc → Led → Prop} (hE : Ev env d.L LN GN CN) (hh : d.A.handled = none) (GN' : List Str) (CN' : List (Str × Addr)) (ok : CompOk scope [x] GN' (CN'.map (·.1))) (hsub : ∀ p ∈ CN', p ∈ CN)
    (hcell : ∀ y ∈ scope.names, y.2 ≠ .cell) {n : Nat} {I : Addr → Nat → Obj → Prop} {V : Nat → Value → Prop} {C₀ C : Value → Led → Prop} (J : Value → Nat → List Value → Led → Prop) (hsz : n ≤ sizeLine)
    (hsw : swapsWith (.ListComp elt [⟨.Name x px, iter, ifs, 0⟩] scope pos) (some (.Name y py)) spos.line env = pure true)
    (h : W d (eval iter env) m news (fun v m1 n1 => m1 = m ∧ Iter d.w v n I V (C₀ v) (C v) ∧ C₀ v n1 ∧ J v 0 [] n1) E) (hC : ∀ v i ys n₁, J v i ys n₁ → C v n₁)
    (turn : ∀ vv Ca it D k i v ys n₁, i < n → V i v → J vv i ys n₁ → Ev (compEnvC scope (cloE env.cells scope.names []) Ca env) Ca [x] GN' CN' → W (((d.comp Ca m).hide it (I it (i + 1))).hide D (· = listO ys k)) (testsOf ifs (compEnvC scope (cloE env.cells scope.names []) Ca env)) (Lv [x] [some v]) n₁ (fun ok m₃ n₃ =>
      if ok = true then W (((d.comp Ca m).hide it (I it (i + 1))).hide D (· = listO ys k)) (eval elt (compEnvC scope (cloE env.cells scope.names []) Ca env)) m₃ n₃ (fun y m₄ n₄ => (∃ o, m₄ = Lv [x] [o]) ∧ J vv (i + 1) (ys ++ [y]) n₄) (fun _ _ => False)
      else (∃ o, m₃ = Lv [x] [o]) ∧ J vv (i + 1) ys n₃) (fun _ _ => False))
    (done : ∀ vv Ca D k ys n₁, J vv n ys n₁ → W (d.hide Ca IsNs) (storeName env y (.ref D)) m ((D, listO ys k) :: n₁) (fun _ m2 n2 => Q .next m2 n2) E) (hfs : ∀ x, foldedSetIterable iter env x = pure x := by intro _; rfl) :
    W d (exec (.Assign [.Name y py] (.ListComp elt [⟨.Name x px, iter, ifs, 0⟩] scope pos) spos) env) m news Q E := .mk fun s hs => by
  rw [exec_Assign_Name_used _ _ _ _ hsw]
  refine wpAny_bind (wpAny_standAt (wpAny_bind ?_))
  show wpAny _ d.A (do let _ ← comprehension (.ListComp elt [⟨.Name x px, iter, ifs, 0⟩] scope pos) scope env _ (newList []) false (eval iter env) (some (assign (.Name y py) env))) _ _ s
  refine wpAny_bind (wpAny_mono (wpAny_comprehension_free (use := some (assign (.Name y py) env)) (Q := fun _ s' => Ex2 fun m' n' => St d s' m' n' ∧ Q .next m' n') rfl hfs (hE.clos ok hsub) ok.fn ok.nms
    (h.run hs fun v s1 m1 n1 hs1 h1 => ?_)) (fun _ s' hq => wpAny_pure (wpAny_pure hq)) fun _ _ e => e)
  obtain ⟨rfl, It, hC0, hJ⟩ := h1
  refine It.start d s1 m1 n1 rfl hh hs1 hC0 fun it o h' tk hI hs2 => ?_
  refine comp_block (RR := fun acc Ca => compPost (model PG d.w) d.A E (some (assign (.Name y py) env)) (fun _ s' => Ex2 fun m' n' => St d s' m' n' ∧ Q .next m' n') acc Ca) It hh hsz (hE.comp ok hsub) hcell (J v) (hC v) (turn v) (fun s' Ca D k ys n₁ oC hj hn hs3 => ?_) hI hJ hs2
  show wpAny _ d.A (assign (.Name y py) env (.ref D)) _ _ _
  refine wpAny_mono ((W_asgName (px := py) (done v Ca D k ys n₁ hj)).go s' (hs3.hide hn)) (fun _ s4 h4 => ?_) fun _ _ q => q
  obtain ⟨m4, n4, hs4, hq⟩ := h4
  obtain ⟨oC', hn', hs5⟩ := hs4.show'
  obtain ⟨mc, hns⟩ := hn'.at (hs5.mem (.head _))
  exact ⟨mc, hns, fun h'' hsb => ⟨_, _, hs5.extBut s4.toks hsb.extBut, hq⟩⟩
theorem W.drop {α : Type} {tt : Sem α} {Q : α → Loc → Led → Prop} (h : W d tt m news (fun a m' n' => ∃ n'', n''.Sublist n' ∧ Q a m' n'') E) : W d tt m news Q E :=
  .mk fun s hs => h.run hs fun _ _ m' n' hs' ⟨n'', hsub, hq⟩ => ⟨m', n'', hs'.sub hsub, hq⟩
/- over a range: its object is let go -/
theorem W_ListCompR {elt iter : Expr} {px : Pos} {ifs : List Expr} {scope : Scope} {Q : Value → Loc → Led → Prop} (hE : Ev env d.L LN GN CN) (hh : d.A.handled = none) (GN' : List Str) (CN' : List (Str × Addr)) (ok : CompOk scope [x] GN' (CN'.map (·.1))) (hsub : ∀ p ∈ CN', p ∈ CN)
    (hcell : ∀ y ∈ scope.names, y.2 ≠ .cell) (n : Nat) (J : Nat → List Value → Led → Prop) (hn : n < 1000000)
    (h : W d (eval iter env) m news (fun v m1 n1 => And3 (m1 = m) (Ex4 fun r t u w => v = .ref r ∧ (r, rangeO n t u w) ∈ n1) (∃ n2, n2.Sublist n1 ∧ J 0 [] n2)) E)
    (turn : ∀ Ca it D k i t ys n₁, i < n → J i ys n₁ → Ev (compEnvC scope (cloE env.cells scope.names []) Ca env) Ca [x] GN' CN' → W (((d.comp Ca m).hide it (rangeIt (i + 1) n)).hide D (· = listO ys k)) (testsOf ifs (compEnvC scope (cloE env.cells scope.names []) Ca env)) (Lv [x] [some (.int i t)]) n₁ (fun ok m₃ n₃ =>
      if ok = true then W (((d.comp Ca m).hide it (rangeIt (i + 1) n)).hide D (· = listO ys k)) (eval elt (compEnvC scope (cloE env.cells scope.names []) Ca env)) m₃ n₃ (fun y m₄ n₄ => (∃ o, m₄ = Lv [x] [o]) ∧ ∃ n5, n5.Sublist n₄ ∧ J (i + 1) (ys ++ [y]) n5) (fun _ _ => False)
      else (∃ o, m₃ = Lv [x] [o]) ∧ ∃ n5, n5.Sublist n₃ ∧ J (i + 1) ys n5) (fun _ _ => False))
    (done : ∀ D k ys n₁, J n ys n₁ → Q (.ref D) m ((D, listO ys k) :: n₁)) (hfs : ∀ x, foldedSetIterable iter env x = pure x := by intro _; rfl) :
    W d (eval (.ListComp elt [⟨.Name x px, iter, ifs, 0⟩] scope pos) env) m news Q E := by
  refine W.drop (W_ListComp (I := fun _ i => rangeIt i n) (V := fun i v => ∃ t, v = .int i t) (C₀ := fun v n₁ => Ex4 fun r t u w => v = .ref r ∧ (r, rangeO n t u w) ∈ n₁) (C := fun _ _ => True) hE hh GN' CN' ok hsub hcell (fun _ i ys n₁ => ∃ n2, n2.Sublist n₁ ∧ J i ys n2) (n := n) ?_ (h.mono ?_) (fun _ _ _ _ _ => trivial) ?_ ?_ hfs)
  · exact Nat.le_trans (Nat.le_of_lt hn) (Nat.le_of_ble_eq_true rfl)
  · rintro v m1 n1 ⟨rfl, hr, hJ⟩
    refine ⟨rfl, ⟨fun d s m news _ hh hs hl Q' E' h => ?_, (iter_range (r := 0) (t := 0) (u := 0) (v := 0) hn).self, (iter_range (r := 0) (t := 0) (u := 0) (v := 0) hn).src⟩, hr, hJ⟩
    obtain ⟨r, t, u, w, rfl, hm⟩ := hl
    exact (iter_range hn).start d s m news rfl hh hs hm h
  · rintro vv Ca it D k i v ys n₁ hi ⟨t, rfl⟩ ⟨n2, hs2, hJ⟩ hE'
    exact (turn Ca it D k i t ys n2 hi hJ hE').sub hs2
  · rintro vv D k ys n₁ ⟨n2, hs2, hJ⟩
    exact ⟨_, hs2.cons_cons _, done D k ys n2 hJ⟩
theorem W_AsgCompR {elt iter : Expr} {px py spos : Pos} {ifs : List Expr} {scope : Scope} {y : Str} {Q : Flow → Loc → Led → Prop} (hE : Ev env d.L LN GN CN) (hh : d.A.handled = none) (GN' : List Str) (CN' : List (Str × Addr)) (ok : CompOk scope [x] GN' (CN'.map (·.1))) (hsub : ∀ p ∈ CN', p ∈ CN)
    (hcell : ∀ y ∈ scope.names, y.2 ≠ .cell) (n : Nat) (J : Nat → List Value → Led → Prop) (hn : n < 1000000)
    (hsw : swapsWith (.ListComp elt [⟨.Name x px, iter, ifs, 0⟩] scope pos) (some (.Name y py)) spos.line env = pure true)
    (h : W d (eval iter env) m news (fun v m1 n1 => And3 (m1 = m) (Ex4 fun r t u w => v = .ref r ∧ (r, rangeO n t u w) ∈ n1) (∃ n2, n2.Sublist n1 ∧ J 0 [] n2)) E)
    (turn : ∀ Ca it D k i t ys n₁, i < n → J i ys n₁ → Ev (compEnvC scope (cloE env.cells scope.names []) Ca env) Ca [x] GN' CN' → W (((d.comp Ca m).hide it (rangeIt (i + 1) n)).hide D (· = listO ys k)) (testsOf ifs (compEnvC scope (cloE env.cells scope.names []) Ca env)) (Lv [x] [some (.int i t)]) n₁ (fun ok m₃ n₃ =>
      if ok = true then W (((d.comp Ca m).hide it (rangeIt (i + 1) n)).hide D (· = listO ys k)) (eval elt (compEnvC scope (cloE env.cells scope.names []) Ca env)) m₃ n₃ (fun y m₄ n₄ => (∃ o, m₄ = Lv [x] [o]) ∧ ∃ n5, n5.Sublist n₄ ∧ J (i + 1) (ys ++ [y]) n5) (fun _ _ => False)
      else (∃ o, m₃ = Lv [x] [o]) ∧ ∃ n5, n5.Sublist n₃ ∧ J (i + 1) ys n5) (fun _ _ => False))
    (done : ∀ Ca D k ys n₁, J n ys n₁ → W (d.hide Ca IsNs) (storeName env y (.ref D)) m ((D, listO ys k) :: n₁) (fun _ m2 n2 => Q .next m2 n2) E) (hfs : ∀ x, foldedSetIterable iter env x = pure x := by intro _; rfl) :
    W d (exec (.Assign [.Name y py] (.ListComp elt [⟨.Name x px, iter, ifs, 0⟩] scope pos) spos) env) m news Q E := by
  refine W_AsgComp (I := fun _ i => rangeIt i n) (V := fun i v => ∃ t, v = .int i t) (C₀ := fun v n₁ => Ex4 fun r t u w => v = .ref r ∧ (r, rangeO n t u w) ∈ n₁) (C := fun _ _ => True) hE hh GN' CN' ok hsub hcell (fun _ i ys n₁ => ∃ n2, n2.Sublist n₁ ∧ J i ys n2) (n := n) ?_ hsw (h.mono ?_) (fun _ _ _ _ _ => trivial) ?_ ?_ hfs
  · exact Nat.le_trans (Nat.le_of_lt hn) (Nat.le_of_ble_eq_true rfl)
  · rintro v m1 n1 ⟨rfl, hr, hJ⟩
    refine ⟨rfl, ⟨fun d s m news _ hh hs hl Q' E' h => ?_, (iter_range (r := 0) (t := 0) (u := 0) (v := 0) hn).self, (iter_range (r := 0) (t := 0) (u := 0) (v := 0) hn).src⟩, hr, hJ⟩
    obtain ⟨r, t, u, w, rfl, hm⟩ := hl
    exact (iter_range hn).start d s m news rfl hh hs hm h
  · rintro vv Ca it D k i v ys n₁ hi ⟨t, rfl⟩ ⟨n2, hs2, hJ⟩ hE'
    exact (turn Ca it D k i t ys n2 hi hJ hE').sub hs2
  · rintro vv Ca D k ys n₁ ⟨n2, hs2, hJ⟩
    exact (done Ca D k ys n2 hJ).sub (hs2.cons_cons _)
end
end Mine

open PySem PySem.W PyProof.Rows
set_option Elab.async false
set_option linter.unusedVariables false
set_option linter.unusedSimpArgs false
set_option maxRecDepth 100000
set_option maxHeartbeats 4000000
namespace Mine
open PySem.Spec PySem.Calls
/- the arguments, onto locals and cells by place -/
inductive Bd (k : Str → Option NameKind) (LN CN : List Str) : List (Str × Value) → List (Option Value) → List (Option Value) → List (Option Value) → List (Option Value) → Prop
  | nil {vs cs : List (Option Value)} : Bd k LN CN [] vs cs vs cs
  | loc {n : Str} {v : Value} {r : List (Str × Value)} {vs cs vs1 vs' cs' : List (Option Value)} : k n = some .local → Put LN vs n v vs1 → Bd k LN CN r vs1 cs vs' cs' → Bd k LN CN ((n, v) :: r) vs cs vs' cs'
  | cel {n : Str} {v : Value} {r : List (Str × Value)} {vs cs cs1 vs' cs' : List (Option Value)} : k n = some .cell → Put CN cs n v cs1 → Bd k LN CN r vs cs1 vs' cs' → Bd k LN CN ((n, v) :: r) vs cs vs' cs'
theorem Bd.bindL {k : Str → Option NameKind} {LN CN : List Str} {b : List (Str × Value)} {vs cs vs' cs' : List (Option Value)} (h : Bd k LN CN b vs cs vs' cs') (nd : LN.Nodup) : bindL k b (Lv LN vs) = Lv LN vs' := by
  induction h with
  | nil => rfl
  | loc hk hp _ ih => show PySem.bindL k _ (if k _ = some .local then _ else _) = _; rw [if_pos hk, hp.eq nd]; exact ih
  | cel hk hp _ ih => show PySem.bindL k _ (if k _ = some .local then _ else _) = _; rw [if_neg (by rw [hk]; decide)]; exact ih
theorem Bd.bindC {k : Str → Option NameKind} {LN CN : List Str} {b : List (Str × Value)} {vs cs vs' cs' : List (Option Value)} (h : Bd k LN CN b vs cs vs' cs') (nd : CN.Nodup) : bindC k b (Lv CN cs) = Lv CN cs' := by
  induction h with
  | nil => rfl
  | loc hk hp _ ih => show PySem.bindC k _ (if k _ = some .local then _ else _) = _; rw [if_pos hk]; exact ih
  | cel hk hp _ ih => show PySem.bindC k _ (if k _ = some .local then _ else _) = _; rw [if_neg (by rw [hk]; decide), hp.eq nd]; exact ih
theorem Bd.kinds {k : Str → Option NameKind} {LN CN : List Str} {b : List (Str × Value)} {vs cs vs' cs' : List (Option Value)} (h : Bd k LN CN b vs cs vs' cs') : ∀ x ∈ b, k x.1 = some .local ∨ (k x.1 = some .cell ∧ x.1 ∈ CN) := by
  induction h with
  | nil => intro x hx; exact nomatch hx
  | loc hk hp _ ih => intro x hx; rcases List.mem_cons.mp hx with rfl | hx; exact .inl hk; exact ih x hx
  | cel hk hp _ ih => intro x hx; rcases List.mem_cons.mp hx with rfl | hx; exact .inr ⟨hk, hp.mem⟩; exact ih x hx
theorem Put.len {xs : List Str} {vs vs' : List (Option Value)} {x : Str} {v : Value} (h : Put xs vs x v vs') : vs'.length = vs.length := by
  induction h with
  | here => rfl
  | there _ ih => simp [ih]
theorem Bd.len {k : Str → Option NameKind} {LN CN : List Str} {b : List (Str × Value)} {vs cs vs' cs' : List (Option Value)} (h : Bd k LN CN b vs cs vs' cs') : cs'.length = cs.length := by
  induction h with
  | nil => rfl
  | loc _ _ _ ih => exact ih
  | cel _ hp _ ih => exact ih.trans hp.len
noncomputable def CellsAll (news : Led) : List (Str × Option Value) → (List (Str × Addr) → Led → Prop) → Prop
  | [], k => k [] news
  | (x, v) :: r, k => ∀ c o, o.data = .cell v → CellsAll news r (fun cl led => k ((x, c) :: cl) ((c, o) :: led))
theorem CellsAll.use {news : Led} {h : Heap} : ∀ {xs : List (Str × Option Value)} {k : List (Str × Addr) → Led → Prop} {cl : List (Str × Addr)}, CellsAll news xs k → cl.map (·.1) = xs.map (·.1) → (∀ (i : Nat) (n : Str) (c : Addr) (v : Option Value), cl[i]? = some (n, c) → xs[i]? = some (n, v) → h.IsCell c v) →
    ∃ led : Led, k cl (led ++ news) ∧ led.map (·.1) = cl.map (·.2) ∧ ∀ p ∈ led, h.get? p.1 = some p.2
  | [], k, [], hk, _, _ => ⟨[], hk, rfl, fun _ hp => nomatch hp⟩
  | [], _, _ :: _, _, e, _ => by simp at e
  | _ :: _, _, [], _, e, _ => by simp at e
  | (x, v) :: xs, k, (n, c) :: cl, hk, e, hc => by
    obtain ⟨rfl, e'⟩ : n = x ∧ cl.map (·.1) = xs.map (·.1) := by simpa using e
    obtain ⟨o, ho, hd⟩ := hc 0 n c v rfl rfl
    obtain ⟨led, h1, h2, h3⟩ := CellsAll.use (h := h) (hk c o hd) e' fun i n' c' v' a b => hc (i + 1) n' c' v' (by simpa using a) (by simpa using b)
    refine ⟨(c, o) :: led, h1, by simp [h2], fun p hp => ?_⟩
    rcases List.mem_cons.mp hp with rfl | hp
    · exact ho
    · exact h3 p hp
noncomputable def celOk (scope : Scope) (CN : List Str) : Bool := (cellsFrom 0 scope.names []).map (·.1) == CN && decide CN.Nodup && (CN.all fun x => scope.names.lookup x == some .cell && (x == ("__debug__" : Str)) == false && (x == ("__classdict__" : Str)) == false)
section
variable {d : Dy} {m : Loc} {news : Led} {E : Value → Shared → Prop} {env : Env} {s : Shared}
theorem St.enterL {L : Addr} {hr : 0 < d.room} {hk : env.scope.kind = .function} {hf : env.frame = some L} {h₁ : Heap} {tk : Nat} {m₁ : Loc} {led : Led} (hs : St d s m news) (hL' : L = s.heap.objs.size) (hns : h₁.Ns L m₁) (hk₁ : ∀ b o, s.heap.get? b = some o → h₁.get? b = some o)
    (hl : ∀ p ∈ led, h₁.get? p.1 = some p.2 ∧ L < p.1) (hnd : (led.map (·.1)).Nodup) : St (d.callee env L m hr hk hf) { s with heap := h₁, toks := tk } m₁ (led ++ news) := by
  subst hL'
  obtain ⟨fs, hf, N, nd⟩ := hs.N
  obtain ⟨oL, es, ep, hL, hLd, hLk, hLf⟩ := hs.F.ns
  obtain ⟨hh, hff⟩ := hf
  rename_i hs0 ff
  have lt : ∀ p ∈ news ++ (hs0 ++ ff), p.1 < s.heap.objs.size := fun p hp => Heap.lt_size (N p hp).1
  have pm : (led ++ news ++ (hs0 ++ (d.L, oL) :: ff)).Perm ((d.L, oL) :: (led ++ (news ++ (hs0 ++ ff)))) := by
    rw [← List.append_assoc, ← List.append_assoc, ← List.append_assoc]; exact List.perm_middle
  refine ⟨⟨hns, fun b o e => hk₁ b o (hs.F.keep b o e), Nat.le_trans hs.F.above (Nat.le_of_lt (Heap.lt_size hL))⟩, ⟨hs0 ++ (d.L, oL) :: ff, .mk hh (.cons ⟨es, ep, hLd, hLk, hLf⟩ hff), ?_, ?_⟩, hs.gens, hs.drawn, hs.os⟩
  · intro p hp
    have hp := pm.mem_iff.mp hp
    rcases List.mem_cons.mp hp with rfl | hp'
    · exact ⟨hk₁ _ _ hL, Nat.ne_of_lt (Heap.lt_size hL), Heap.get?_none_of_le hs.F.above⟩
    · rcases List.mem_append.mp hp' with hp' | hp'
      · exact ⟨(hl p hp').1, Nat.ne_of_gt (hl p hp').2, Heap.get?_none_of_le (Nat.le_trans hs.F.above (Nat.le_trans (Nat.le_of_lt (Heap.lt_size hL)) (Nat.le_of_lt (hl p hp').2)))⟩
      · exact ⟨hk₁ _ _ (N p hp').1, Nat.ne_of_lt (lt p hp'), (N p hp').2.2⟩
  · refine (pm.map _).nodup_iff.mpr ?_
    rw [List.map_cons, List.map_append]
    refine List.nodup_cons.mpr ⟨fun hm => ?_, List.nodup_append.mpr ⟨hnd, nd, fun a ha b hb e => ?_⟩⟩
    · rcases List.mem_append.mp hm with hm | hm
      · obtain ⟨p, hp, e⟩ := List.mem_map.mp hm
        have := (hl p hp).2
        rw [e] at this
        exact absurd this (Nat.lt_asymm (Heap.lt_size hL))
      · obtain ⟨p, hp, e⟩ := List.mem_map.mp hm
        exact (N p hp).2.1 e
    · obtain ⟨p, hp, rfl⟩ := List.mem_map.mp ha
      obtain ⟨q, hq, rfl⟩ := List.mem_map.mp hb
      have h1 := (hl p hp).2
      rw [e] at h1
      exact absurd h1 (Nat.lt_asymm (lt q hq))

/- entering a def of the text that has cells -/
theorem W_defC {f : Addr} {args : List Value} {binds : List (Str × Value)} {LN GN CN : List Str} {vs cs : List (Option Value)} {name qual : Str} {params : Arguments} {body : List Stmt} {scope : Scope} {dV kV doc pm cdv ct oc : Value} {an od : Option Addr} {osl : Array (Option Value)} {Q : Value → Loc → Led → Prop}
    (ho : (hd.heap_39 d.w.params).lookup f = some ⟨oc, od, .func (fnOf name qual params body scope dV kV doc pm an cdv ct), osl⟩) (hcd : codeIn (hd.heap_39 d.w.params) cdv qual = true) (hN : Nm scope LN GN) (hCN : celOk scope CN = true) (hroom : 0 < d.room)
    (hb : bindArgs (fnOf name qual params body scope dV kV doc pm an cdv ct) ⟨args, []⟩ = pure binds) (hBd : Bd (scope.names.lookup ·) LN CN binds (LN.map fun _ => none) (CN.map fun _ => none) vs cs)
    (h : ∀ d' : Dy, d'.room + 1 = d.room → d'.A.handled = d.A.handled → CellsAll news (CN.zip cs) (fun cl led => (∃ outer, d'.envs = envX qual scope d'.L f cdv cl :: outer) → Ev (envX qual scope d'.L f cdv cl) d'.L LN GN cl →
      W d' (execs body (envX qual scope d'.L f cdv cl)) (Lv LN vs) led (fun fl m' n' => ∃ n'', n''.Sublist n' ∧ Q (match fl with | .ret v => v | _ => .none) m n'') (fun _ _ => False)))
    (hco : scope.isCoroutine = false := by rfl) (hgen : scope.isGenerator = false := by rfl) : W d (call (.ref f) args) m news Q E := .mk fun s hs => by
  unfold celOk at hCN
  simp only [Bool.and_eq_true, List.all_eq_true, beq_iff_eq, decide_eq_true_eq] at hCN
  obtain ⟨⟨hc1, hc2⟩, hc3⟩ := hCN
  have hcl : ∀ n, (cellsFrom n scope.names []).map (·.1) = CN := fun n => (cellsFrom_names scope.names n 0 [] [] rfl).trans hc1
  have hk := hN.fn
  obtain ⟨loose, mg, mb, mean, T⟩ := d.T
  have X := d.K.keeps hs.F.keep
  have hr := d.hroom
  refine wpAny_call (codeAny_call_cells (fd := fnOf name qual params body scope dV kV doc pm an cdv ct) (body := body) (binds := binds) (by omega) (X _ _ ho) rfl (T.nolimit.keeps hs.F.keep) (codeRec_of X hcd) rfl hb rfl (fun x hx => ?_) (fun s₁ x => ?_) hco hgen hk)
  · rcases hBd.kinds x hx with q | ⟨q, hm⟩
    · exact .inl q
    · refine .inr ⟨q, ?_⟩
      rw [← hcl (s.heap.objs.size + 1)] at hm
      obtain ⟨p, hp, e⟩ := List.mem_map.mp hm
      have := lookup_of_mem_nodup (hcl (s.heap.objs.size + 1) ▸ hc2) (show (p.1, p.2) ∈ _ from hp)
      show (List.lookup x.1 _).isSome = true
      rw [← e, this]; rfl
  · have hdd := x.done
    obtain ⟨h₁, tk, rfl, _⟩ := hdd
    have hk₁ := x.toInCall.keep
    have e1 : (fun _ => none : Str → Option Value) = Lv LN (LN.map fun _ => none) := funext fun y => (Lv_none LN y).symm
    have e2 : (fun _ => none : Str → Option Value) = Lv CN (CN.map fun _ => none) := funext fun y => (Lv_none CN y).symm
    have hns : h₁.Ns s.heap.objs.size (Lv LN vs) := by
      have := x.toInCall.ns
      rw [e1] at this
      have q := hBd.bindL hN.nd
      exact q ▸ this
    have hcm : ∀ n c, (n, c) ∈ cellsFrom (s.heap.objs.size + 1) scope.names [] → h₁.IsCell c (Lv CN cs n) := fun n c hm => by
      have := x.cell n c (lookup_of_mem_nodup (hcl (s.heap.objs.size + 1) ▸ hc2) hm)
      rw [e2] at this
      have q := hBd.bindC hc2
      exact q ▸ this
    have hlc : cs.length = CN.length := by rw [hBd.len]; simp
    have hcs : ∀ (i : Nat) (n : Str) (c : Addr) (v : Option Value), (cellsFrom (s.heap.objs.size + 1) scope.names [])[i]? = some (n, c) → (CN.zip cs)[i]? = some (n, v) → h₁.IsCell c v := fun i n c v a b => by
      have h1 := hcm n c (List.mem_of_getElem? a)
      have : Lv CN cs n = v := by
        have : ∀ (CN : List Str) (cs : List (Option Value)) (i : Nat), CN.Nodup → (CN.zip cs)[i]? = some (n, v) → Lv CN cs n = v := by
          intro CN
          induction CN with
          | nil => intro cs i _ q; simp at q
          | cons y ys ih =>
            intro cs i nd q
            cases cs with
            | nil => simp at q
            | cons z zs =>
              show (if n = y then z else Lv ys zs n) = v
              cases i with
              | zero => simp at q; rw [if_pos q.1.symm]; exact q.2
              | succ i =>
                have q' : (ys.zip zs)[i]? = some (n, v) := by simpa using q
                have hm : n ∈ ys := (List.of_mem_zip (List.mem_of_getElem? q')).1
                have ne : n ≠ y := fun e => (List.nodup_cons.mp nd).1 (e ▸ hm)
                rw [if_neg ne]
                exact ih zs i (List.nodup_cons.mp nd).2 q'
        exact this CN cs i hc2 b
      rw [this] at h1; exact h1
    obtain ⟨led, hkk, hl1, hl2⟩ := CellsAll.use (h := h₁) (cl := cellsFrom (s.heap.objs.size + 1) scope.names [])
      (h (d.callee (envX qual scope s.heap.objs.size f cdv (cellsFrom (s.heap.objs.size + 1) scope.names [])) s.heap.objs.size m hroom hk rfl) (by show d.room - 1 + 1 = d.room; omega) rfl)
      (by rw [hcl, List.map_fst_zip (by omega)]) hcs
    · have hW := hkk ⟨d.envs, rfl⟩ ⟨hk, rfl, rfl, rfl, hN.nd, hN.loc, hN.glo, fun y c hy => ?_⟩
      · have hab : ∀ p ∈ led, s.heap.objs.size < p.1 := fun p hp => by
          have : p.1 ∈ (cellsFrom (s.heap.objs.size + 1) scope.names []).map (·.2) := hl1 ▸ List.mem_map_of_mem hp
          obtain ⟨q, hq, e⟩ := List.mem_map.mp this
          have := x.above q.1 q.2 hq
          rw [e] at this; exact this
        have hap : (led.map (·.1)).Nodup := by
          rw [hl1]
          exact List.pairwise_map.mpr x.apart
        refine wpAny_mono (hW.go _ (St.enterL (tk := tk) hs rfl hns hk₁ (fun p hp => ⟨hl2 p hp, hab p hp⟩) hap)) (fun fl s' hl => ?_) fun ev s' hx => hx.elim
        obtain ⟨m', n', hs', n'', hsub, hq⟩ := hl
        exact ⟨m, n'', (hs'.leave hs.F.above).sub hsub, hq⟩
      · have hm : y ∈ CN := by rw [← hcl (s.heap.objs.size + 1)]; exact List.mem_map.mpr ⟨_, hy, rfl⟩
        have := hc3 y hm
        exact ⟨.inl this.1.1, lookup_of_mem_nodup (hcl (s.heap.objs.size + 1) ▸ hc2) hy, this.1.2, this.2⟩
end
end Mine

open PySem PySem.W PyProof.Rows
set_option Elab.async false
set_option linter.unusedVariables false
set_option linter.unusedSimpArgs false
set_option maxRecDepth 100000
set_option maxHeartbeats 4000000
namespace Mine
open PySem.Spec PySem.Calls
section
variable {d : Dy} {m : Loc} {news : Led} {E : Value → Shared → Prop} {env : Env} {pos : Pos} {s : Shared} {x : Str} {v : Value}
variable {i j : Int} {t u : Tok} {Q : Value → Loc → Led → Prop} {y z : Str} {value slice : Expr} {vs ws : List Value} {k k2 : Nat} {a b : Addr}
theorem St.fresh (h : St d s m news) {fs : Led} (N : News d.base d.L s.heap (news ++ fs)) (nd : ((news ++ fs).map (·.1)).Nodup) (o : Obj) : (((s.heap.objs.size, o) :: news ++ fs).map (·.1)).Nodup := by
  rw [List.cons_append, List.map_cons]
  refine List.nodup_cons.mpr ⟨fun hm => ?_, nd⟩
  obtain ⟨p, hp, e⟩ := List.mem_map.mp hm
  have := Heap.lt_size (N p hp).1
  rw [e] at this
  exact absurd this (Nat.lt_irrefl _)
theorem W_addL (ha : (a, listO vs k) ∈ news) (hb : (b, listO ws k2) ∈ news) (hz : vs.length + ws.length ≤ sizeLine) (h : ∀ l, Q (.ref l) m ((l, listO (vs ++ ws) 0) :: news)) : W d (binaryOp .Add (.ref a) (.ref b)) m news Q E := .mk fun s hs => by
  obtain ⟨fs, hf, N, nd⟩ := hs.N
  exact add_lists hs.F N (listO_isList (hs.mem ha)) (listO_isList (hs.mem hb)) (fun h' F' N' => ⟨_, _, hs.heap (n' := (s.heap.objs.size, listO (vs ++ ws) 0) :: news) hf s.toks F' N' (hs.fresh N nd _), h _⟩) hz
theorem W_inInts {ns : List Int} (ha : (a, listO vs k) ∈ news) (hi : IntsAre vs ns) (h : Q (.bool (ns.any (· == i))) m news) : W d (compareOp .In (.int i t) (.ref a)) m news Q E :=
  .mk fun s hs => in_list_ints (listO_isList (hs.mem ha)) hi ⟨_, _, hs, h⟩
theorem W_getStr {name : Str} {id : String} {pl : Sem Bool} {Q : Value × List Value → Loc → Led → Prop} (slot : Slot "str" name id) (ty : typeOf (.builtin id) = pure (.type "method_descriptor")) (h : Q (.builtin id, [.str y t]) m news) : W d (getMethod (.str y t) name pl) m news Q E :=
  .mk fun s hs => GM.of (.str y t) (typeIs_str _ _ _) slot ty GM.noRef ⟨_, _, hs, h⟩
theorem W_join {ys : List Str} (ha : (a, listO vs k) ∈ news) (hi : StrsAre vs ys) (hok : (ys.map (·.length)).sum + ys.length * y.length ≤ 16777216) (h : ∀ t', Q (.str (Txt.join y ys) t') m news) : W d (call (.builtin "str.join") [.str y t, .ref a]) m news Q E :=
  .mk fun s hs => join_list (listO_isList (hs.mem ha)) hi hok fun t' k => ⟨_, _, hs.toks _, h _⟩
theorem W_IfExp {test body orelse : Expr} (h : W d (isTrue test env (eval test env)) m news (fun b m1 n1 => if b = true then W d (eval body env) m1 n1 Q E else W d (eval orelse env) m1 n1 Q E) E) : W d (eval (.IfExp test body orelse pos) env) m news Q E :=
  .mk fun s hs => wpAny_IfExp (h.run hs fun b s1 _ _ hs1 h1 => by cases b with | true => exact h1.go s1 hs1 | false => exact h1.go s1 hs1)
theorem St.extNew (h : St d s m news) {h' : Heap} (hb : Heap.ExtBut s.heap.objs.size s.heap h') : St d { s with heap := h' } m news := by
  have := h.ext (h' := h') s.toks fun b o e => hb b o (Nat.ne_of_lt (Heap.lt_size e)) e
  exact this
/- a, b = value: no stores exchanged -/
theorem W_AsgTup {elts : List Expr} {kk : Nat} {tpos : Pos} {Q : Flow → Loc → Led → Prop} (hh : d.A.handled = none)
    (h : W d (eval value env) m news (fun v m1 n1 => Ex3 fun a vs k => And4 (v = .ref a) ((a, tupO vs k) ∈ n1) ((assignEach elts env).length = vs.length) (W d (assignInOrder ((assignEach elts env).map (·.2)) vs) m1 n1 (fun _ m2 n2 => Q .next m2 n2) E)) E)
    (hstar : (assignEach elts env).findIdx? (·.1) = none := by rfl) (hs : swapsWithSole [.Tuple elts kk tpos] value pos.line env = pure false := by rfl) (hw : swappedStores [.Tuple elts kk tpos] value env = pure none := by rfl) :
    W d (exec (.Assign [.Tuple elts kk tpos] value pos) env) m news Q E := .mk fun s h' => by
  refine Assign_Tuple (h.run h' fun v s1 m1 n1 hs1 h1 => ?_) hs hw
  obtain ⟨a, vs, k, rfl, hm, hl, hW⟩ := h1
  exact assign_Tuple_tuple hh (tupO_isTup (hs1.mem hm)) (by simpa using hl) hstar fun h2 hb => hW.go _ (hs1.extNew hb)
/- a, b = (.., ..): the stores exchanged -/
theorem W_AsgSwap {elts : List Expr} {kk : Nat} {tpos : Pos} {Q : Flow → Loc → Led → Prop} (names : List Str) (hh : d.A.handled = none)
    (h : W d (eval value env) m news (fun v m1 n1 => Ex3 fun a vs k => And4 (v = .ref a) ((a, tupO vs k) ∈ n1) (names.length = vs.length) (W d (assignInOrder (names.reverse.map fun n => bindName env n) vs.reverse) m1 n1 (fun _ m2 n2 => Q .next m2 n2) E)) E)
    (hw : swappedStores [.Tuple elts kk tpos] value env = pure (some names)) (hs : swapsWithSole [.Tuple elts kk tpos] value pos.line env = pure false := by rfl) :
    W d (exec (.Assign [.Tuple elts kk tpos] value pos) env) m news Q E := .mk fun s h' => by
  refine Assign_Tuple_swapped (h.run h' fun v s1 m1 n1 hs1 h1 => ?_) hs hw
  obtain ⟨a, vs, k, rfl, hm, hl, hW⟩ := h1
  have e : names.length = vs.toArray.size := by simpa using hl
  rw [e]
  exact unpackItems_tuple hh (tupO_isTup (hs1.mem hm)) fun h2 hb => hW.go _ (hs1.extNew hb)
theorem W_ord0 {xs : List Value} {Q : Unit → Loc → Led → Prop} (h : Q () m news) : W d (assignInOrder [] xs) m news Q E := .mk fun s hs => assignInOrder_nil ⟨_, _, hs, h⟩
theorem W_ord {f : Value → Sem Unit} {fs : List (Value → Sem Unit)} {x : Value} {xs : List Value} {Q : Unit → Loc → Led → Prop} (h : W d (f x) m news (fun _ m1 n1 => W d (assignInOrder fs xs) m1 n1 Q E) E) : W d (assignInOrder (f :: fs) (x :: xs)) m news Q E :=
  .mk fun s hs => assignInOrder_cons (h.run hs fun _ s1 _ _ hs1 h1 => h1.go s1 hs1)
theorem W_bindName {Q : Unit → Loc → Led → Prop} (h : W d (storeName env x v) m news Q E) : W d (bindName env x v) m news Q E := .mk fun s hs => wpAny_bindName (h.go s hs)
end
end Mine

open PySem PySem.W PyProof.Rows
set_option Elab.async false
set_option linter.unusedVariables false
set_option linter.unusedSimpArgs false
set_option maxRecDepth 100000
set_option maxHeartbeats 4000000
namespace Mine
open PySem.Spec PySem.Calls
/- a code's run -/
structure WC (d : Dy) (c : Code) (m : Loc) (news : Led) (Q : Value → Loc → Led → Prop) (E : Value → Shared → Prop) : Prop where
  go : ∀ s, St d s m news → codeAny (model PG d.w) d.A c (fun r s' => match r with | .ok (.ret v) => Ex2 fun m' n' => St d s' m' n' ∧ Q v m' n' | .ok _ => False | .error e => E e s') s
section
variable {d : Dy} {m : Loc} {news : Led} {E : Value → Shared → Prop} {env : Env} {s : Shared}
theorem WC.call {f : Value} {args : List Value} {Q : Value → Loc → Led → Prop} (h : WC d (.call f ⟨args, []⟩) m news Q E) : W d (call f args) m news Q E := .mk fun s hs => wpAny_call (h.go s hs)

/- what a binding of arguments comes to -/
noncomputable def BindW (d : Dy) (fd : FuncData) (args : List Value) (m : Loc) (news : Led) (P : List (Str × Value) → Led → Prop) : Prop :=
  ∀ s, St d s m news → ∀ {Q' : List (Str × Value) → Shared → Prop} {E' : Value → Shared → Prop}, (∀ binds n1 s1, St d s1 m n1 → P binds n1 → Q' binds s1) → wpAny (model PG d.w) d.A.in1 (bindArgs fd ⟨args, []⟩) Q' E' s
theorem BindW.pure {fd : FuncData} {args : List Value} {binds : List (Str × Value)} (h : bindArgs fd ⟨args, []⟩ = pure binds) : BindW d fd args m news (fun b n => b = binds ∧ n = news) :=
  fun s hs _ _ k => h ▸ wpAny_pure (k _ _ _ hs ⟨rfl, rfl⟩)
/- def f(a, b, *rest) -/
theorem BindW.star {fd : FuncData} {args rest : List Value} {binds : Value → List (Str × Value)} (h : bindArgs fd ⟨args, []⟩ = (newTuple rest >>= fun t => Pure.pure (binds t))) (hz : rest.length ≤ sizeLine) :
    BindW d fd args m news (fun b n => ∃ D, b = binds (.ref D) ∧ n = (D, tupO rest 0) :: news) :=
  fun s hs _ _ k => h ▸ wpAny_bind (wpAny_newObj_type (wpAny_pure (k _ _ _ (hs.push (tupO rest 0)) ⟨_, rfl, rfl⟩)) (by show rest.toArray.size ≤ sizeLine; rw [List.size_toArray]; exact hz))
/- a default is taken -/
theorem BindW.dflt {fd : FuncData} {args : List Value} {binds : List (Str × Value)} {T : Addr} {o : Obj} {items : Array Value} {n : Nat} {k : Option (Array Value) → Sem (List (Str × Value))} (hdf : fd.defaults = .ref T)
    (ho : (hd.heap_39 d.w.params).lookup T = some o) (hs : o.data = .seq items n) (h₁ : bindArgs fd ⟨args, []⟩ = seqItems? fd.defaults >>= k) (h₂ : k (some items) = Pure.pure binds) : BindW d fd args m news (fun b n => b = binds ∧ n = news) :=
  fun s hs' _ _ kk => BindsTo.of_defaults hdf (d.K.keeps hs'.F.keep _ _ ho) hs h₁ h₂ _ _ _ _ (kk _ _ _ hs' ⟨rfl, rfl⟩)

theorem WC_callB {f : Addr} {args : List Value} {P : List (Str × Value) → Led → Prop} {name qual : Str} {params : Arguments} {body : List Stmt} {scope : Scope} {dV kV doc pm cdv ct oc : Value} {an od : Option Addr} {osl : Array (Option Value)} {Q : Value → Loc → Led → Prop}
    (ho : (hd.heap_39 d.w.params).lookup f = some ⟨oc, od, .func (fnOf name qual params body scope dV kV doc pm an cdv ct), osl⟩) (hcd : codeIn (hd.heap_39 d.w.params) cdv qual = true) (hroom : 0 < d.room)
    (hbind : BindW d (fnOf name qual params body scope dV kV doc pm an cdv ct) args m news P)
    (hcell : ∀ x ∈ scope.names, x.2 ≠ .cell) (hco : scope.isCoroutine = false) (hgen : scope.isGenerator = false) (hk : scope.kind = .function)
    (h : ∀ binds n1, P binds n1 → (∀ y ∈ binds, scope.names.lookup y.1 = some .local) ∧ ∀ L, ∃ E', W (d.callee (envX qual scope L f cdv []) L m hroom hk rfl) (execs body (envX qual scope L f cdv [])) (fun y => binds.reverse.lookup y) n1 (fun fl m' n' => ∃ n'', n''.Sublist n' ∧ Q (match fl with | .ret v => v | _ => .none) m n'') E' ∧
      ∀ ev s, d.base.objs.size ≤ d.L → E' ev s → wpAny (model PG d.w) (d.A.deeper (envX qual scope L f cdv [])) (leaving (envX qual scope L f cdv []) ev) (fun _ s'' => E ev s'') E s) :
    WC d (.call (.ref f) ⟨args, []⟩) m news Q E := .mk fun s hs => by
  obtain ⟨loose, mg, mb, mean, T⟩ := d.T
  have X := d.K.keeps hs.F.keep
  have hr := d.hroom
  refine codeAny_call_function (fd := fnOf name qual params body scope dV kV doc pm an cdv ct) (body := body) (by omega) (X _ _ ho) rfl hco hgen rfl (codeRec_of X hcd) (hbind s hs fun binds n1 s1 hs1 hp => ?_)
  obtain ⟨hloc, hb⟩ := h binds n1 hp
  refine wpAny_newFunctionEnv hcell hloc (fun h₀ hns₀ hsb₀ => ⟨(T.nolimit.keeps hs1.F.keep).fresh _ hsb₀, codeAny_func ?_⟩) hk
  obtain ⟨E', hW, hX⟩ := hb s1.heap.objs.size
  have hk₁ : ∀ b o, s1.heap.get? b = some o → h₀.get? b = some o := fun b o e => hsb₀.extBut b o (Nat.ne_of_lt (Heap.lt_size e)) (Heap.get?_push_of_some _ e)
  refine wpAny_mono (hW.go _ (St.enter (tk := s1.toks + binds.length) hs1 rfl hns₀ hk₁)) (fun fl s' hl => ?_) fun ev s' hx => hX ev s' hs.F.above hx
  obtain ⟨m', n', hs', n'', hsub, hq⟩ := hl
  exact ⟨m, n'', (hs'.leave hs.F.above).sub hsub, hq⟩
/- entering a def, its locals by place; vs: the values bound -/
theorem WC_defB {f : Addr} {args : List Value} {ps LN GN : List Str} (all : List Str) {P : List Value → Led → Prop} {name qual : Str} {params : Arguments} {body : List Stmt} {scope : Scope} {dV kV doc pm cdv ct oc : Value} {an od : Option Addr} {osl : Array (Option Value)} {Q : Value → Loc → Led → Prop}
    (R : Loc → Led → Value → Value → Prop)
    (ho : (hd.heap_39 d.w.params).lookup f = some ⟨oc, od, .func (fnOf name qual params body scope dV kV doc pm an cdv ct), osl⟩) (hcd : codeIn (hd.heap_39 d.w.params) cdv qual = true) (hN : Nm scope all GN) (hall : ps ++ LN = all) (hroom : 0 < d.room)
    (hbind : BindW d (fnOf name qual params body scope dV kV doc pm an cdv ct) args m news (fun b n1 => ∃ vals, And3 (b = ps.zip vals) (vals.length = ps.length) (P vals n1)))
    (hx : ∀ m' n' cls a0, R m' n' cls a0 → ∃ n'', n''.Sublist n' ∧ ∀ ev s, XF d m n'' cls a0 ev s → E ev s)
    (h : ∀ d' : Dy, d'.room + 1 = d.room → d'.A.handled = d.A.handled → (∃ outer, d'.envs = envX qual scope d'.L f cdv [] :: outer) → Nm scope all GN → d'.w = d.w → ∀ vals n1, P vals n1 →
      W d' (execs body (envX qual scope d'.L f cdv [])) (Lv all (vals.map some ++ LN.map fun _ => none)) n1 (fun fl m' n' => ∃ n'', n''.Sublist n' ∧ Q (match fl with | .ret v => v | _ => .none) m n'') (XE d' R))
    (hcell : ∀ x ∈ scope.names, x.2 ≠ .cell := by decide) (hco : scope.isCoroutine = false := by rfl) (hgen : scope.isGenerator = false := by rfl) : WC d (.call (.ref f) ⟨args, []⟩) m news Q E := by
  subst hall
  have nd : ps.Nodup := (List.nodup_append.mp hN.nd).1
  refine WC_callB ho hcd hroom hbind hcell hco hgen hN.fn ?_
  rintro binds n1 ⟨vals, rfl, hl, hP⟩
  refine ⟨fun y hy => (hN.loc y.1 (List.mem_append_left _ (List.of_mem_zip (show (y.1, y.2) ∈ ps.zip vals from hy)).1)).1, fun L => ⟨XE (d.callee (envX qual scope L f cdv []) L m hroom hN.fn rfl) R, ?_, ?_⟩⟩
  · have e : (fun y => (ps.zip vals).reverse.lookup y) = Lv (ps ++ LN) (vals.map some ++ LN.map fun _ => none) := funext fun y => entry_eq ps vals LN hl.symm nd y
    rw [e]
    exact h (d.callee (envX qual scope L f cdv []) L m hroom hN.fn rfl) (by show d.room - 1 + 1 = d.room; omega) rfl ⟨d.envs, rfl⟩ hN rfl vals n1 hP
  · rintro ev s above ⟨m', n', cls, a0, hxf, hR⟩
    obtain ⟨e, rfl, _⟩ := id hxf
    obtain ⟨n'', hsub, hk⟩ := hx m' n' cls a0 hR
    unfold leaving
    refine wpAny_bind (XF.noted hxf rfl rfl fun h' B hfl hh => wpAny_landsW hh fun h2 hfly hu => hk _ _ ⟨e, rfl, .inr ⟨B, ((hfl.step s.toks hfly.1 hu).leave above).sub hsub, .inr ?_⟩⟩)
    obtain ⟨y1, y2, ⟨_, _, y3⟩, y4⟩ := hfly
    exact ⟨y1, y2, y3, y4⟩
/- under a built-in: type.__call__ -/
noncomputable def Dy.under (d : Dy) (c : Code) (hw : c.weight ≤ 1) (he : c.envs = []) (hu : c.cUnits ≤ 8) (hr : 0 < d.room) : Dy :=
  { d with A := d.A.under c, room := d.room - 1,
           hroom := by have := d.hroom; constructor <;> simp only [Around.under] <;> omega,
           hfr := by simp only [Around.under, he, d.hfr]; rfl }
theorem St.under {c : Code} {hw : c.weight ≤ 1} {he : c.envs = []} {hu : c.cUnits ≤ 8} {hr : 0 < d.room} (h : St d s m news) : St (d.under c hw he hu hr) s m news := ⟨h.F, h.N, h.gens, h.drawn, h.os⟩
theorem St.ununder {c : Code} {hw : c.weight ≤ 1} {he : c.envs = []} {hu : c.cUnits ≤ 8} {hr : 0 < d.room} (h : St (d.under c hw he hu hr) s m news) : St d s m news := ⟨h.F, h.N, h.gens, h.drawn, h.os⟩
/- C(..), a class of the text with an __init__ of its own -/
theorem W_make {C fI : Addr} {rest : List Value} {Q : Value → Loc → Led → Prop} (hr : 0 < d.room) (hm : makesIn (hd.heap_39 d.w.params) C = true) (hi : findIn (hd.heap_39 d.w.params) (.ref C) "__init__" = some (some (.ref fI))) (hf : typeIn (hd.heap_39 d.w.params) (.ref fI) = some (.type "function"))
    (h : ∀ d' : Dy, d'.room + 1 = d.room → d'.A.handled = d.A.handled → d'.w = d.w → ∀ x dx, WC d' (.call (.ref fI) ⟨.ref x :: rest, []⟩) m ((x, instObj C dx) :: (dx, emptyDict) :: news) (fun v m' n' => v = .none ∧ Q (.ref x) m' n') (fun _ _ => False)) :
    W d (call (.ref C) rest) m news Q E := .mk fun s hs => by
  have X := d.K.keeps hs.F.keep
  obtain ⟨fs, hfs, N, nd⟩ := hs.N
  refine wpAny_call ?_
  obtain ⟨hh, g, dr, t, os⟩ := s
  refine make_core (makes_of X hm) (looks_findIn X hi) (fun self => bind_fn X self hf) (.inl rfl) ?_
  have h1 := (hs.push emptyDict).push (instObj C hh.objs.size)
  have e : (hh.push emptyDict).objs.size = hh.objs.size + 1 := Heap.size_push ..
  simp only [e] at h1
  have hd' := h (d.under (.builtin "type.__call__" ⟨.ref C :: rest, []⟩) (Nat.le_of_ble_eq_true (by rfl)) (by rfl) (Nat.le_of_ble_eq_true (by rfl)) hr) (by show d.room - 1 + 1 = d.room; omega) rfl rfl (hh.objs.size + 1) hh.objs.size
  refine codeAny_mono (hd'.go _ (St.under h1)) fun r s' z => ?_
  rcases r with er | (v | _ | _ | _) <;> first | exact z.elim | skip
  obtain ⟨m', n', hs', rfl, hq⟩ := z
  exact ⟨rfl, m', n', hs'.ununder, hq⟩
end
end Mine

open PySem PySem.W PyProof.Rows
set_option Elab.async false
set_option linter.unusedVariables false
set_option linter.unusedSimpArgs false
set_option maxRecDepth 100000
set_option maxHeartbeats 4000000
namespace Mine
open PySem.Spec PySem.Calls
/- a dict's entries, by place -/
inductive Ent : List Str → List (Option Value) → List DictEntry → Prop
  | nil : Ent [] [] []
  | cons {x : Str} {v : Value} {h : Int} {t : Tok} {xs : List Str} {vs : List (Option Value)} {es : List DictEntry} : Ent xs vs es → Ent (x :: xs) (some v :: vs) (⟨h, .str x t, v⟩ :: es)
theorem isStr_str (x y : Str) (t : Tok) : (Value.str x t).isStr y = (x == y) := by
  first | rfl | (simp [Value.isStr]; done) | (unfold Value.isStr; exact Bool.eq_iff_iff.mpr (by simp [eq_comm]))
theorem Ent.get {xs : List Str} {vs : List (Option Value)} {es : List DictEntry} (h : Ent xs vs es) {x : Str} {v : Value} (ha : At xs vs x v) (nd : xs.Nodup) : getL x es = some (some v) := by
  induction h with
  | nil => cases ha
  | @cons y w hh t xs vs es h ih =>
    unfold getL
    rw [List.find?_cons, isStr_str]
    cases ha with
    | here => simp
    | there ha =>
      have ne : (y == x) = false := by
        have := (List.nodup_cons.mp nd).1
        refine beq_eq_false_iff_ne.mpr fun e => this (e ▸ ha.mem)
      rw [ne]
      exact ih ha (List.nodup_cons.mp nd).2
theorem Ent.noRef {xs : List Str} {vs : List (Option Value)} {es : List DictEntry} (h : Ent xs vs es) : es.any (·.refKey) = false := by
  induction h with
  | nil => rfl
  | cons h ih => rw [List.any_cons, ih]; rfl
theorem Ent.miss {xs : List Str} {vs : List (Option Value)} {es : List DictEntry} (h : Ent xs vs es) {x : Str} (ha : x ∉ xs) : es.find? (·.key.isStr x) = none := by
  induction h with
  | nil => rfl
  | @cons y w hh t xs vs es h ih =>
    rw [List.find?_cons, isStr_str]
    have ne : (y == x) = false := beq_eq_false_iff_ne.mpr fun e => ha (e ▸ List.mem_cons_self)
    rw [ne]
    exact ih fun hm => ha (List.mem_cons_of_mem _ hm)
theorem Ent.none {xs : List Str} {vs : List (Option Value)} {es : List DictEntry} (h : Ent xs vs es) {x : Str} (ha : x ∉ xs) : getL x es = some none := by
  unfold getL
  rw [h.miss ha, h.noRef]; rfl
theorem Ent.put {xs : List Str} {vs vs' : List (Option Value)} {es : List DictEntry} (h : Ent xs vs es) {x : Str} {v key : Value} {hs : Int} (hp : Put xs vs x v vs') (nd : xs.Nodup) : Ent xs vs' (putL x hs key v es) := by
  induction hp generalizing es with
  | here =>
    cases h with
    | cons h => unfold putL; rw [isStr_str, if_pos (by simp)]; exact .cons h
  | @there x y v w xs vs vs' hp ih =>
    cases h with
    | cons h =>
      have ne : (y == x) = false := beq_eq_false_iff_ne.mpr fun e => (List.nodup_cons.mp nd).1 (e ▸ hp.mem)
      unfold putL
      rw [isStr_str, ne]
      exact .cons (ih h (List.nodup_cons.mp nd).2)
theorem Ent.new {xs : List Str} {vs : List (Option Value)} {es : List DictEntry} (h : Ent xs vs es) {x : Str} {v : Value} {t : Tok} {hs : Int} (ha : x ∉ xs) : Ent (xs ++ [x]) (vs ++ [some v]) (putL x hs (.str x t) v es) := by
  induction h with
  | nil => exact .cons .nil
  | @cons y w hh t xs vs es h ih =>
    have ne : (y == x) = false := beq_eq_false_iff_ne.mpr fun e => ha (e ▸ List.mem_cons_self)
    unfold putL
    rw [isStr_str, ne]
    exact .cons (ih fun hm => ha (List.mem_cons_of_mem _ hm))
theorem Ent.len {xs : List Str} {vs : List (Option Value)} {es : List DictEntry} (h : Ent xs vs es) : es.length = xs.length := by
  induction h with
  | nil => rfl
  | cons _ ih => simp [ih]
/- a name that a class leaves to its instances -/
structure Own (P : Params) (C : Addr) (name : Str) : Prop where
  pg : plainGet (hd.heap_39 P) C name = true
  hsd : hasDictIn (hd.heap_39 P) C = true
  fi : findIn (hd.heap_39 P) (.ref C) name = some none
  ng : noGet (hd.heap_39 P) none = true
  sa : findIn (hd.heap_39 P) (.ref C) "__setattr__" = some (some (.builtin "object.__setattr__"))
  po : plainOver (hd.heap_39 P) C = true
  tk : takerIn (hd.heap_39 P) C name = some none
structure SlotN (P : Params) (C : Addr) (name : Str) (p i : Nat) : Prop where
  pg : plainGet (hd.heap_39 P) C name = true
  cl : isClsIn (hd.heap_39 P) C = true
  fi : findIn (hd.heap_39 P) (.ref C) name = some (some (.ref p))
  gt : specialIn (hd.heap_39 P) (.ref p) "__get__" = some (some (.builtin "member_descriptor.__get__"))
  tk : takesIn (hd.heap_39 P) (.ref p) = some true
  sl : slotIn (hd.heap_39 P) p C = some i
  sa : findIn (hd.heap_39 P) (.ref C) "__setattr__" = some (some (.builtin "object.__setattr__"))
  po : plainOver (hd.heap_39 P) C = true
  tr : takerIn (hd.heap_39 P) C name = some (some (.ref p))
  ty : typeIn (hd.heap_39 P) (.ref p) = some (.type "member_descriptor")
structure MethN (P : Params) (C : Addr) (name : Str) (f : Addr) : Prop where
  pg : plainGet (hd.heap_39 P) C name = true
  fi : findIn (hd.heap_39 P) (.ref C) name = some (some (.ref f))
  fn : isFn (hd.heap_39 P) (.ref f) = true
section
variable {d : Dy} {m : Loc} {news : Led} {E : Value → Shared → Prop} {env : Env} {pos : Pos} {s : Shared} {x dx C : Addr} {v : Value} {name : Str} {es : List DictEntry} {n : Nat} {xs : List Str} {vs vs' : List (Option Value)} {Q : Value → Loc → Led → Prop} {sl : Array (Option Value)}
theorem St.inst (h : St d s m news) {od : Obj} (h1 : (x, (⟨.ref C, some dx, .plain, sl⟩ : Obj)) ∈ news) (h2 : (dx, od) ∈ news) : InstAt s.heap x ⟨.ref C, some dx, .plain, sl⟩ C (some od) := InstAt.of_news h.nw h1 h2
theorem W_Attr {e : Expr} {attr : Str} (h : W d (eval e env) m news (fun o m1 n1 => W d (getAttr o attr true) m1 n1 Q E) E)
    (he : eval (.Attribute e attr pos) env = (do
      let o ← eval e env
      standAt pos.atName
      let r ← holding [o] (getAttr o attr true)
      letTemporaryGo e o r
      pure r) := by with_unfolding_all rfl) : W d (eval (.Attribute e attr pos) env) m news Q E :=
  .mk fun s hs => Attribute_any_ (h.run hs fun _ s1 _ _ hs1 h1 => h1.go s1 hs1) he
theorem W_getA {expr : Bool} (H : Own d.w.params C name) (h1 : (x, (⟨.ref C, some dx, .plain, sl⟩ : Obj)) ∈ news) (h2 : (dx, dictOf es n) ∈ news) (hE : Ent xs vs es) (ha : At xs vs name v) (nd : xs.Nodup) (h : Q v m news) (hv : handedIn v = true) :
    W d (getAttr (.ref x) name expr) m news Q E := .mk fun s hs => get_own hs.F d.K (hs.inst h1 h2) H.pg H.hsd H.fi H.ng (hE.get ha nd) hv ⟨_, _, hs.toks _, h⟩
theorem Upd.of {a : Addr} {o o' : Obj} {l : Led} {g : Obj → Led} (u : UpdF a o l g) : Upd a o o' l (g o') := by
  induction u with
  | head h => exact .head h
  | tail h _ ih => exact .tail h ih
theorem W_setA {Q : Unit → Loc → Led → Prop} {g : Obj → Led} (H : Own d.w.params C name) (h1 : (x, (⟨.ref C, some dx, .plain, sl⟩ : Obj)) ∈ news) (hs : Sel dx (dictOf es n) news g) (hE : Ent xs vs es) (hp : Put xs vs name v vs') (nd : xs.Nodup) (hz : xs.length ≤ 100)
    (h : ∀ es' n', Ent xs vs' es' → Q () m (g (dictOf es' n'))) : W d (setAttr (.ref x) name v) m news Q E := .mk fun s h' => by
  obtain ⟨fs, hf, N, ndl⟩ := h'.N
  have hE' := fun t => hE.put (key := .str name t) (hs := PyData.keyHash d.w.params name) hp nd
  have hl : (getL name es).isSome = true := by
    unfold getL
    split
    · rfl
    · rw [hE.noRef]; rfl
  refine set_dict h'.F d.K N (h'.inst h1 hs.mem) rfl H.sa H.po H.tk H.hsd hl rfl (Upd.of ((hs.app fs).updF ndl)) (by rw [(hE' _).len]; omega) fun h2 F' N' => ⟨_, _, h'.heap hf (s.toks + 2) F' N' ?_, h _ _ (hE' _)⟩
  rw [List.map_append, hs.keys, ← List.map_append]; exact ndl
theorem W_setAnew {Q : Unit → Loc → Led → Prop} {g : Obj → Led} (H : Own d.w.params C name) (h1 : (x, (⟨.ref C, some dx, .plain, sl⟩ : Obj)) ∈ news) (hs : Sel dx (dictOf es n) news g) (hE : Ent xs vs es) (hn : name ∉ xs) (hz : xs.length ≤ 100)
    (h : ∀ es' n', Ent (xs ++ [name]) (vs ++ [some v]) es' → Q () m (g (dictOf es' n'))) : W d (setAttr (.ref x) name v) m news Q E := .mk fun s h' => by
  obtain ⟨fs, hf, N, ndl⟩ := h'.N
  have hE' := fun t => hE.new (v := v) (t := t) (hs := PyData.keyHash d.w.params name) hn
  have hl : (getL name es).isSome = true := by rw [hE.none hn]; rfl
  refine set_dict h'.F d.K N (h'.inst h1 hs.mem) rfl H.sa H.po H.tk H.hsd hl rfl (Upd.of ((hs.app fs).updF ndl)) (by rw [(hE' _).len]; simp; omega) fun h2 F' N' => ⟨_, _, h'.heap hf (s.toks + 2) F' N' ?_, h _ _ (hE' _)⟩
  rw [List.map_append, hs.keys, ← List.map_append]; exact ndl
theorem W_getSl {expr : Bool} {p i : Nat} {od : Obj} (H : SlotN d.w.params C name p i) (h1 : (x, (⟨.ref C, some dx, .plain, sl⟩ : Obj)) ∈ news) (h2 : (dx, od) ∈ news) (hi : (sl[i]?).join = some v) (h : Q v m news) (hv : handedIn v = true) :
    W d (getAttr (.ref x) name expr) m news Q E := .mk fun s hs => get_slot hs.F d.K (hs.inst h1 h2) H.pg H.cl H.fi H.gt H.tk H.sl hi hv ⟨_, _, hs.toks _, h⟩
theorem W_setSl {Q : Unit → Loc → Led → Prop} {g : Obj → Led} {p i : Nat} {od : Obj} {sl' : Array (Option Value)} (H : SlotN d.w.params C name p i) (hs : Sel x (⟨.ref C, some dx, .plain, sl⟩ : Obj) news g) (h2 : (dx, od) ∈ news) (hi : i < 1000)
    (e : (sl ++ Array.replicate (i + 1 - sl.size) none).setIfInBounds i (some v) = sl') (h : Q () m (g ⟨.ref C, some dx, .plain, sl'⟩)) : W d (setAttr (.ref x) name v) m news Q E := .mk fun s h' => by
  obtain ⟨fs, hf, N, ndl⟩ := h'.N
  subst e
  refine set_slot h'.F d.K N (h'.inst hs.mem h2) H.sa H.po H.tr H.ty H.sl hi rfl rfl (Upd.of ((hs.app fs).updF ndl)) fun h2 F' N' => ⟨_, _, h'.heap hf (s.toks + 1) F' N' ?_, h⟩
  rw [List.map_append, hs.keys, ← List.map_append]; exact ndl
theorem W_getMI {pl : Sem Bool} {Q : Value × List Value → Loc → Led → Prop} {f : Addr} (H : MethN d.w.params C name f) (h1 : (x, (⟨.ref C, some dx, .plain, sl⟩ : Obj)) ∈ news) (h2 : (dx, dictOf es n) ∈ news) (hE : Ent xs vs es) (hn : name ∉ xs) (h : Q (.ref f, [.ref x]) m news) :
    W d (getMethod (.ref x) name pl) m news Q E := .mk fun s hs => method_inst hs.F d.K (hs.inst h1 h2) H.pg H.fi H.fn (hE.none hn) ⟨_, _, hs, h⟩
theorem W_AsgAttr {o value : Expr} {attr : Str} {p : Pos} {Q : Flow → Loc → Led → Prop} (h : W d (eval value env) m news (fun v m1 n1 => W d (eval o env) m1 n1 (fun ov m2 n2 => W d (setAttr ov attr v) m2 n2 (fun _ m3 n3 => Q .next m3 n3) E) E) E)
    (hs : swapsWith value (some (.Attribute o attr p)) pos.line env = pure false := by with_unfolding_all rfl) : W d (exec (.Assign [.Attribute o attr p] value pos) env) m news Q E :=
  .mk fun s h' => plainObj_wpAny_Assign_Attribute (h.run h' fun _ s1 _ _ hs1 h1 => h1.run hs1 fun _ s2 _ _ hs2 h2 => h2.go s2 hs2) hs
theorem W_AugAttr {o value : Expr} {attr : Str} {p : Pos} {op : Operator} {Q : Flow → Loc → Led → Prop} (h : W d (eval o env) m news (fun ov m1 n1 => W d (getAttr ov attr true) m1 n1 (fun old m2 n2 => W d (eval value env) m2 n2 (fun v m3 n3 => W d (inplaceOp op old v) m3 n3 (fun r m4 n4 =>
      W d (setAttr ov attr r) m4 n4 (fun _ m5 n5 => Q .next m5 n5) E) E) E) E) E) : W d (exec (.AugAssign (.Attribute o attr p) op value pos) env) m news Q E :=
  .mk fun s hs => wpAny_AugAssign_AttributeAny (h.run hs fun _ s1 _ _ hs1 h1 => h1.run hs1 fun _ s2 _ _ hs2 h2 => h2.run hs2 fun _ s3 _ _ hs3 h3 => h3.run hs3 fun _ s4 _ _ hs4 h4 => h4.go s4 hs4)
theorem W_Named {value target : Expr} (h : W d (eval value env) m news (fun v m1 n1 => W d (assign target env v) m1 n1 (fun _ m2 n2 => Q v m2 n2) E) E) : W d (eval (.NamedExpr target value pos) env) m news Q E :=
  .mk fun s hs => wpAny_NamedExpr (h.run hs fun _ s1 _ _ hs1 h1 => h1.go s1 hs1)
end
end Mine

open PySem PySem.W PyProof.Rows
set_option Elab.async false
set_option maxRecDepth 100000
set_option maxHeartbeats 4000000
namespace Mine
open PySem.Spec PySem.Calls
theorem so_hd (P : Params) : hasDictIn (hd.heap_39 P) 144 = true := by k_is
theorem so_ng (P : Params) : noGet (hd.heap_39 P) none = true := by k_is
theorem so_sa (P : Params) : findIn (hd.heap_39 P) (.ref 144) "__setattr__" = some (some (.builtin "object.__setattr__")) := by k_is
theorem so_po (P : Params) : plainOver (hd.heap_39 P) 144 = true := by k_is
theorem own0 (P : Params) : Own P 144 "_node2info" := ⟨by k_is, so_hd P, by k_is, so_ng P, so_sa P, so_po P, by k_is⟩
theorem own1 (P : Params) : Own P 144 "_ready_nodes" := ⟨by k_is, so_hd P, by k_is, so_ng P, so_sa P, so_po P, by k_is⟩
theorem own2 (P : Params) : Own P 144 "_npassedout" := ⟨by k_is, so_hd P, by k_is, so_ng P, so_sa P, so_po P, by k_is⟩
theorem own3 (P : Params) : Own P 144 "_nfinished" := ⟨by k_is, so_hd P, by k_is, so_ng P, so_sa P, so_po P, by k_is⟩
theorem meth0 (P : Params) : MethN P 144 "_get_nodeinfo" 87 := ⟨by k_is, by k_is, by k_is⟩
theorem meth1 (P : Params) : MethN P 144 "add" 94 := ⟨by k_is, by k_is, by k_is⟩
theorem meth2 (P : Params) : MethN P 144 "prepare" 99 := ⟨by k_is, by k_is, by k_is⟩
theorem meth3 (P : Params) : MethN P 144 "get_ready" 106 := ⟨by k_is, by k_is, by k_is⟩
theorem meth4 (P : Params) : MethN P 144 "is_active" 113 := ⟨by k_is, by k_is, by k_is⟩
theorem meth5 (P : Params) : MethN P 144 "done" 127 := ⟨by k_is, by k_is, by k_is⟩
theorem meth6 (P : Params) : MethN P 144 "_find_cycle" 134 := ⟨by k_is, by k_is, by k_is⟩
theorem so_mk (P : Params) : makesIn (hd.heap_39 P) 144 = true ∧ findIn (hd.heap_39 P) (.ref 144) "__init__" = some (some (.ref 80)) ∧ typeIn (hd.heap_39 P) (.ref 80) = some (.type "function") := ⟨by k_is, by k_is, by k_is⟩
theorem ni_mk (P : Params) : makesIn (hd.heap_39 P) 47 = true ∧ findIn (hd.heap_39 P) (.ref 47) "__init__" = some (some (.ref 43)) ∧ typeIn (hd.heap_39 P) (.ref 43) = some (.type "function") := ⟨by k_is, by k_is, by k_is⟩
theorem ni_sa (P : Params) : findIn (hd.heap_39 P) (.ref 47) "__setattr__" = some (some (.builtin "object.__setattr__")) := by k_is
theorem ni_po (P : Params) : plainOver (hd.heap_39 P) 47 = true := by k_is
theorem ni_cl (P : Params) : isClsIn (hd.heap_39 P) 47 = true := by k_is
theorem slot0 (P : Params) : SlotN P 47 "node" 48 0 := ⟨by k_is, ni_cl P, by k_is, by k_is, by k_is, by k_is, ni_sa P, ni_po P, by k_is, by k_is⟩
theorem slot1 (P : Params) : SlotN P 47 "npredecessors" 49 1 := ⟨by k_is, ni_cl P, by k_is, by k_is, by k_is, by k_is, ni_sa P, ni_po P, by k_is, by k_is⟩
theorem slot2 (P : Params) : SlotN P 47 "successors" 50 2 := ⟨by k_is, ni_cl P, by k_is, by k_is, by k_is, by k_is, ni_sa P, ni_po P, by k_is, by k_is⟩
theorem slE0 (v : Value) : (#[] ++ Array.replicate (0 + 1 - (#[] : Array (Option Value)).size) none).setIfInBounds 0 (some v) = #[some v] := rfl
theorem slE1 (a : Option Value) (v : Value) : (#[a] ++ Array.replicate (1 + 1 - #[a].size) none).setIfInBounds 1 (some v) = #[a, some v] := rfl
theorem slE2 (a b : Option Value) (v : Value) : (#[a, b] ++ Array.replicate (2 + 1 - #[a, b].size) none).setIfInBounds 2 (some v) = #[a, b, some v] := rfl
theorem slU1 (a b c : Option Value) (v : Value) : (#[a, b, c] ++ Array.replicate (1 + 1 - #[a, b, c].size) none).setIfInBounds 1 (some v) = #[a, some v, c] := rfl
end Mine

open PySem PySem.W PyProof.Rows
set_option Elab.async false
set_option linter.unusedVariables false
set_option linter.unusedSimpArgs false
set_option maxRecDepth 100000
set_option maxHeartbeats 4000000
namespace Mine
open PySem.Spec PySem.Calls
/- a dict by ints -/
noncomputable def DI (w : World) (a : Addr) (kvs : List (Int × Value)) (o : Obj) : Prop := (a == sysModules) = false ∧ o.IsDictOf (intKind PG w) kvs
section
variable {d : Dy} {m : Loc} {news : Led} {E : Value → Shared → Prop} {env : Env} {pos : Pos} {s : Shared} {a : Addr} {v : Value} {o : Obj} {i : Int} {t u : Tok} {kvs : List (Int × Value)} {Q : Value → Loc → Led → Prop} {value slice : Expr} {vs : List Value} {k : Nat}
theorem DI.at (hd : DI d.w a kvs o) (hm : (a, o) ∈ news) (hs : St d s m news) : s.heap.DictOf (intKind PG d.w) a kvs := Heap.dictOf_iff.mpr ⟨o, hs.mem hm, hd.2⟩
theorem W_dict0 (h : ∀ a o, DI d.w a [] o → Q (.ref a) m ((a, o) :: news)) : W d (eval (.Dict [] [] pos) env) m news Q E := .mk fun s hs => by
  obtain ⟨loose, mg, mb, mean, T⟩ := d.T
  refine wpAny_Dict_empty ⟨_, _, hs.push _, h _ _ ⟨hs.F.notModules (modules_low T.nolimit), ?_⟩⟩
  obtain ⟨o, ho, hd⟩ := Heap.dictOf_iff.mp (Heap.DictOf.new (knd := intKind PG d.w) s.heap)
  rw [Heap.get?_push_size _ rfl] at ho
  exact (Option.some.inj ho) ▸ hd
theorem W_getD {name : Str} {id : String} {pl : Sem Bool} {Q : Value × List Value → Loc → Led → Prop} (slot : Slot "dict" name id) (ty : typeOf (.builtin id) = pure (.type "method_descriptor")) (hd : DI d.w a kvs o) (hm : (a, o) ∈ news) (h : Q (.builtin id, [.ref a]) m news) :
    W d (getMethod (.ref a) name pl) m news Q E := .mk fun s hs => getMethod_builtin (hd.at hm hs).typeIs PySem.F.plainAttrs_dict slot ty (hd.at hm hs).mapOf.noDict ⟨_, _, hs, h⟩
theorem W_dGet (hd : DI d.w a kvs o) (hm : (a, o) ∈ news) (h : Q ((valueAt kvs i).getD .none) m news) : W d (call (.builtin "dict.get") [.ref a, .int i t]) m news Q E :=
  .mk fun s hs => kdg_get1 hs.nw hm hd.2 hd.1 (intKind_is _ _ _ _) _ rfl ⟨_, _, hs.toks _, h⟩
theorem W_dItem (hd : DI d.w a kvs o) (hm : (a, o) ∈ news) (hv : valueAt kvs i = some v) (h : Q v m news)
    (hs : subscripted slice false (.ref a) (.int i u) = operate [.ref a, .int i u] (getItem (.ref a) (.int i u)) := by rfl) (hl : ∀ r, letTemporaryGo value (.ref a) r = pure () := by intro _; rfl) :
    W d (subscriptTail value slice (.ref a) (.int i u)) m news Q E := .mk fun s h' => kda_item h'.nw hm hd.2 (intKind_is _ _ _ _) hv ⟨_, _, h'.toks _, h⟩ hs hl
theorem W_dIn (hd : DI d.w a kvs o) (hm : (a, o) ∈ news) (h : Q (.bool (valueAt kvs i).isSome) m news) : W d (compareOp .In (.int i t) (.ref a)) m news Q E :=
  .mk fun s hs => kda_in hs.nw hm hd.2 hd.1 (intKind_is _ _ _ _) _ rfl ⟨_, _, hs.toks _, h⟩
theorem W_dSet {Q : Unit → Loc → Led → Prop} {g : Obj → Led} (hd : DI d.w a kvs o) (hs : Sel a o news g) (hz : kvs.length ≤ sizeLine) (h : ∀ o', DI d.w a (stored kvs i v) o' → Q () m (g o')) : W d (setItem (.ref a) (.int i t) v) m news Q E := .mk fun s h' => by
  obtain ⟨fs, hf, N, nd⟩ := h'.N
  refine kda_set h'.F N ((hs.app fs).updF nd) hd.2 (intKind_is _ _ _ _) hz fun h2 o' F' N' hd' => ⟨_, _, h'.heap hf _ F' N' ?_, h o' ⟨hd.1, hd'⟩⟩
  rw [List.map_append, hs.keys, ← List.map_append]; exact nd
theorem W_dDel {Q : Unit → Loc → Led → Prop} {g : Obj → Led} (hd : DI d.w a kvs o) (hs : Sel a o news g) (hl : (valueAt kvs i).isSome = true) (hz : kvs.length ≤ sizeLine) (h : ∀ o', DI d.w a (without kvs i) o' → Q () m (g o')) : W d (delItem (.ref a) (.int i t)) m news Q E := .mk fun s h' => by
  obtain ⟨fs, hf, N, nd⟩ := h'.N
  refine kob_del h'.F N ((hs.app fs).updF nd) hd.2 (intKind_is _ _ _ _) hl hz fun h2 o' F' N' hd' => ⟨_, _, h'.heap hf _ F' N' ?_, h o' ⟨hd.1, hd'⟩⟩
  rw [List.map_append, hs.keys, ← List.map_append]; exact nd
theorem W_asgSub {ob i : Expr} {Q : Unit → Loc → Led → Prop} (h : W d (eval ob env) m news (fun ov m1 n1 => W d (eval i env) m1 n1 (fun iv m2 n2 => W d (setItem ov iv v) m2 n2 Q E) E) E) : W d (assign (.Subscript ob i pos) env v) m news Q E := .mk fun s hs => by
  rw [assign_Subscript]
  refine wpAny_bind (wpAny_holding (h.run hs fun ov s1 _ _ hs1 h1 => wpAny_bind (wpAny_holding (h1.run hs1 fun iv s2 _ _ hs2 h2 => wpAny_bind (wpAny_standAt (wpAny_bind (wpAny_holding (h2.run hs2 fun _ s3 m3 n3 hs3 h3 => ?_))))))))
  exact fun Γ p hΓ => by rw [Sem.wp_release]; exact ⟨m3, n3, hs3, h3⟩
theorem W_AsgSub {ob i : Expr} {p : Pos} {Q : Flow → Loc → Led → Prop} (h : W d (eval value env) m news (fun v m1 n1 => W d (assign (.Subscript ob i p) env v) m1 n1 (fun _ m2 n2 => Q .next m2 n2) E) E)
    (hs : swapsWith value (some (.Subscript ob i p)) pos.line env = pure false := by with_unfolding_all rfl) : W d (exec (.Assign [.Subscript ob i p] value pos) env) m news Q E := .mk fun s h' => by
  rw [exec_Assign_Subscript _ _ _ _ _ hs]
  exact wpAny_bind (wpAny_standAt (wpAny_bind (h.run h' fun v s1 _ _ hs1 h1 => wpAny_bind (h1.run hs1 fun _ s2 m2 n2 hs2 h2 => wpAny_pure ⟨m2, n2, hs2, h2⟩))))
-- is, truth, lengths
theorem W_isNone (h : Q (.bool (v == .none)) m news) : W d (compareOp .Is v .none) m news Q E := .mk fun s hs => by
  by_cases e : v = .none
  · subst e; exact is_none_none ⟨_, _, hs, h⟩
  · refine is_none_ne e ⟨_, _, hs, ?_⟩
    rw [beq_eq_false_iff_ne.mpr e] at h; exact h
theorem W_isNotNone (h : Q (.bool (!(v == .none))) m news) : W d (compareOp .IsNot v .none) m news Q E := .mk fun s hs => by
  by_cases e : v = .none
  · subst e; exact isnot_none_none ⟨_, _, hs, h⟩
  · refine isnot_none_ne e ⟨_, _, hs, ?_⟩
    rw [beq_eq_false_iff_ne.mpr e] at h; exact h
theorem W_truthyL {Q : Bool → Loc → Led → Prop} (hm : (a, listO vs k) ∈ news) (hf : (vs.length : Int) < 2 ^ 62) (h : Q (vs.length != 0) m news) : W d (truthy (.ref a)) m news Q E := .mk fun s hs => by
  refine wpAny_truthy_list (listO_isList (hs.mem hm)) (by simp; omega) ⟨_, _, hs.toks _, ?_⟩
  have e : (!vs.toArray.isEmpty) = (vs.length != 0) := by cases vs <;> simp
  first | exact h | (simpa using h) | (rw [e]; exact h)
theorem W_lenL (hm : (a, listO vs k) ∈ news) (hf : (vs.length : Int) < 2 ^ 62) (h : ∀ t', Q (.int vs.length t') m news) : W d (call (.builtin "len") [.ref a]) m news Q E :=
  .mk fun s hs => len_list (listO_isList (hs.mem hm)) (by simp; omega) ⟨_, _, hs.toks _, by simpa using h _⟩
theorem W_lenT (hm : (a, tupO vs k) ∈ news) (hf : (vs.length : Int) < 2 ^ 62) (h : ∀ t', Q (.int vs.length t') m news) : W d (call (.builtin "len") [.ref a]) m news Q E :=
  .mk fun s hs => len_tuple (tupO_isTup (hs.mem hm)) (by simp; omega) ⟨_, _, hs.toks _, by simpa using h _⟩
end
end Mine

open PySem PySem.W PyProof.Rows
set_option Elab.async false
set_option linter.unusedVariables false
set_option linter.unusedSimpArgs false
set_option maxRecDepth 100000
set_option maxHeartbeats 4000000
namespace Mine
open PySem.Spec PySem.Calls
noncomputable def tupIt (l : Addr) (i : Nat) (o : Obj) : Prop := o.cls = .type "tuple_iterator" ∧ o.data = .fields #[.ref l, .int i 0]
theorem iter_tup {w : World} {l : Addr} {vs : List Value} {k : Nat} : Iter w (.ref l) vs.length (fun _ => tupIt l) (fun i v => vs[i]? = some v) (fun n₁ => (l, tupO vs k) ∈ n₁) (fun n₁ => (l, tupO vs k) ∈ n₁) where
  start := fun d s m news _ hh hs hl Q' E' h => iter_tuple (tupO_isTup (hs.mem hl)) (h _ _ _ s.toks ⟨rfl, rfl⟩ (hs.push { cls := .type "tuple_iterator", data := .fields #[.ref l, .int 0 0] }))
  self := fun d it o s m news _ hh hI hs Q' E' h => wpAny_pyIter_tupleiter (i := 0) ⟨o, hs.mem (.head _), hI.1, hI.2⟩ h
  src := fun d it _ hh => ⟨fun i m₁ n₁ o s hi hI hl hs Q' E' kk => by
      obtain ⟨hc, hd⟩ := hI
      refine next_tuple_item (x := vs[i]) ⟨o, hs.mem (.head _), hc, hd⟩ (tupO_isTup (hs.mem (.tail _ hl))) (by simp [hi]) fun h' hit hb => ?_
      obtain ⟨o', ho', hc', hd'⟩ := hit
      exact kk _ o' h' s.toks (by simp [hi]) ⟨hc', hd'⟩ (hs.update (g := fun o' => (it, o') :: n₁) _ .here hb ho'),
    fun m₁ n₁ o s hI hl hs Q' E' kk => by
      obtain ⟨hc, hd⟩ := hI
      refine next_tuple_end (i := vs.length) hh ⟨o, hs.mem (.head _), hc, hd⟩ (tupO_isTup (hs.mem (.tail _ hl))) (by simp) fun h' hb => ?_
      exact kk h' s.toks (hs.extBut _ hb)⟩
theorem iter_dict {w : World} {a : Addr} {kvs : List (Int × Value)} {o : Obj} (hd : DI w a kvs o) : ∃ I, Iter w (.ref a) kvs.length I (fun i v => ∃ k x t, kvs[i]? = some (k, x) ∧ v = .int k t) (fun n₁ => (a, o) ∈ n₁) (fun n₁ => (a, o) ∈ n₁) := by
  obtain ⟨ep, ha⟩ := KdkAt.of hd.2
  refine ⟨fun _ i ob => KdkIter ob a i kvs.length ep, ?_, ?_, ?_⟩
  · rintro d s m news rfl hh hs hl Q' E' h
    exact wpAny_pyIter_dict hd.1 (ha.dictAt (hs.mem hl)) (h _ _ _ s.toks ⟨rfl, rfl⟩ (hs.push { cls := .type "dict_keyiterator", data := .fields #[.ref a, .int 0 0, .int kvs.length 0, .int ep 0] }))
  · rintro d it ob s m news rfl hh hI hs Q' E' h
    exact wpAny_pyIter_keyiter (hI.at (hs.mem (.head _))) h
  · rintro d it rfl hh
    refine ⟨fun i m₁ n₁ ob s hi hI hl hs Q' E' kk => ?_, fun m₁ n₁ ob s hI hl hs Q' E' kk => ?_⟩
    · refine wpAny_pyNext_dict_item (k := (kvs[i]).1) (v := (kvs[i]).2) (hI.at (hs.mem (.head _))) (ha.dictAt (hs.mem (.tail _ hl))) (by simp [hi]) fun key h' hkey hit hb => ?_
      obtain ⟨o', ho', hc', hd'⟩ := hit
      obtain ⟨t, rfl⟩ := PySem.Value.isInt_shape hkey
      exact kk _ o' h' s.toks ⟨_, _, t, (List.getElem?_eq_getElem hi), rfl⟩ ⟨hc', hd'⟩ (hs.update (g := fun o' => (it, o') :: n₁) _ .here hb ho')
    · refine wpAny_pyNext_dict_end hh (hI.at (hs.mem (.head _))) (ha.dictAt (hs.mem (.tail _ hl))) (by simp) fun h' hb => ?_
      exact kk h' s.toks (hs.extBut _ hb)
noncomputable abbrev valsO (a : Addr) : Obj := { cls := .type "dict_values", data := .fields #[.ref a] }
theorem Iter.weaken {w : World} {v : Value} {n : Nat} {I : Addr → Nat → Obj → Prop} {V : Nat → Value → Prop} {C₀ C₀' C : Led → Prop} (h : Iter w v n I V C₀ C) (h0 : ∀ n, C₀' n → C₀ n) : Iter w v n I V C₀' C :=
  ⟨fun d s m news hw hh hs hl Q' E' k => h.start d s m news hw hh hs (h0 _ hl) k, h.self, h.src⟩
theorem iter_vals {w : World} {a : Addr} {kvs : List (Int × Value)} {o : Obj} (hd : DI w a kvs o) : ∃ I, ∀ vw, Iter w (.ref vw) kvs.length I (fun i v => ∃ k, kvs[i]? = some (k, v)) (fun n₁ => (vw, valsO a) ∈ n₁ ∧ (a, o) ∈ n₁) (fun n₁ => (a, o) ∈ n₁) := by
  obtain ⟨ep, ha⟩ := KdkAt.of hd.2
  refine ⟨fun _ i ob => ob.cls = .type "dict_valueiterator" ∧ ob.data = .fields #[.ref a, .int i 0, .int kvs.length 0, .int ep 0], fun vw => ⟨?_, ?_, ?_⟩⟩
  · rintro d s m news rfl hh hs ⟨hv, hl⟩ Q' E' h
    exact wpAny_pyIter_values ⟨_, hs.mem hv, rfl, rfl⟩ (ha.dictAt (hs.mem hl)) (h _ _ _ s.toks ⟨rfl, rfl⟩ (hs.push { cls := .type "dict_valueiterator", data := .fields #[.ref a, .int 0 0, .int kvs.length 0, .int ep 0] }))
  · rintro d it ob s m news rfl hh hI hs Q' E' h
    exact wpAny_pyIter_valiter (d := a) (i := 0) (n := kvs.length) (ep := ep) ⟨ob, hs.mem (.head _), hI.1, hI.2⟩ h
  · rintro d it rfl hh
    refine ⟨fun i m₁ n₁ ob s hi hI hl hs Q' E' kk => ?_, fun m₁ n₁ ob s hI hl hs Q' E' kk => ?_⟩
    · refine wpAny_pyNext_values_item (k := (kvs[i]).1) (v := (kvs[i]).2) ⟨ob, hs.mem (.head _), hI.1, hI.2⟩ (ha.dictAt (hs.mem (.tail _ hl))) (by simp [hi]) fun h' hit hb => ?_
      obtain ⟨o', ho', hc', hd'⟩ := hit
      exact kk _ o' h' s.toks ⟨_, (List.getElem?_eq_getElem hi)⟩ ⟨hc', hd'⟩ (hs.update (g := fun o' => (it, o') :: n₁) _ .here hb ho')
    · refine wpAny_pyNext_values_end hh ⟨ob, hs.mem (.head _), hI.1, hI.2⟩ (ha.dictAt (hs.mem (.tail _ hl))) (by simp) fun h' hb => ?_
      exact kk h' s.toks (hs.extBut _ hb)
section
variable {d : Dy} {m : Loc} {news : Led} {E : Value → Shared → Prop} {env : Env} {pos : Pos} {s : Shared} {a : Addr} {v : Value} {o : Obj} {x : Str} {kvs : List (Int × Value)}
theorem W_dVals {Q : Value → Loc → Led → Prop} (hd : DI d.w a kvs o) (hm : (a, o) ∈ news) (h : ∀ vw, Q (.ref vw) m ((vw, valsO a) :: news)) : W d (call (.builtin "dict.values") [.ref a]) m news Q E := .mk fun s hs => by
  obtain ⟨fs, hf, N, nd⟩ := hs.N
  have hD := hd.at hm hs
  exact call_meetsIn PySem.F.slot_dict_values hD.typeIs PySem.F.entry_dict_values (PySem.F.args_dict_values_1 _) (meets_dict_values (intKind PG d.w) a hd.1) ⟨⟨kvs, hD⟩, _, _, hs.push (valsO a), h _⟩
theorem W_ForIter {px : Pos} {iterE : Expr} {body : List Stmt} {Q : Flow → Loc → Led → Prop} {n : Nat} {I : Addr → Nat → Obj → Prop} {V : Nat → Value → Prop} {C₀ C : Led → Prop} (J : Nat → Loc → Led → Prop) (hh : d.A.handled = none)
    (h : W d (eval iterE env) m news (fun v m1 n1 => And3 (Iter d.w v n I V C₀ C) (C₀ n1) (∃ n2, n2.Sublist n1 ∧ J 0 m1 n2)) E) (hC : ∀ i m₁ n₁, J i m₁ n₁ → C n₁)
    (turn : ∀ it i v m₁ n₁, i < n → V i v → J i m₁ n₁ → W (d.hide it (I it (i + 1))) (storeName env x v) m₁ n₁ (fun _ m₂ n₂ => W (d.hide it (I it (i + 1))) (execs body env) m₂ n₂ (fun f m₃ n₃ => match f with
      | .next | .cont => J (i + 1) m₃ n₃
      | .brk => Q .next m₃ n₃
      | .ret v => Q (.ret v) m₃ n₃) E) E)
    (done : ∀ m₁ n₁, J n m₁ n₁ → Q .next m₁ n₁) (hE : PassesOwn (model PG d.w) d.A env E) (hi : ∀ v, foldedSetIterable iterE env v = pure v := by intro _; rfl) : W d (exec (.For (.Name x px) iterE body [] pos) env) m news Q E := .mk fun s hs => by
  refine wpAny_For (h.run hs fun v s1 m1 n1 hs1 h1 => ?_) hi
  obtain ⟨It, hC0, n2, hsub, hJ⟩ := h1
  refine It.start d s1 m1 n1 rfl hh hs1 hC0 fun it o h' tk hI hs2 => ?_
  exact W_loop (It.src d it rfl hh) J hC (fun i v m₁ n₁ hi hv hj => turn it i v m₁ n₁ hi hv hj) done hE hI hJ (hs2.sub (hsub.cons_cons _))
theorem W_ForTup {px : Pos} {iterE : Expr} {body : List Stmt} {Q : Flow → Loc → Led → Prop} {l : Addr} {vs : List Value} {k : Nat} (J : Nat → Loc → Led → Prop) (hh : d.A.handled = none)
    (h : W d (eval iterE env) m news (fun v m1 n1 => v = .ref l ∧ J 0 m1 n1) E) (hl : ∀ i m₁ n₁, J i m₁ n₁ → (l, tupO vs k) ∈ n₁)
    (turn : ∀ it i v m₁ n₁, i < vs.length → vs[i]? = some v → J i m₁ n₁ → W (d.hide it (tupIt l (i + 1))) (storeName env x v) m₁ n₁ (fun _ m₂ n₂ => W (d.hide it (tupIt l (i + 1))) (execs body env) m₂ n₂ (fun f m₃ n₃ => match f with
      | .next | .cont => J (i + 1) m₃ n₃
      | .brk => Q .next m₃ n₃
      | .ret v => Q (.ret v) m₃ n₃) E) E)
    (done : ∀ m₁ n₁, J vs.length m₁ n₁ → Q .next m₁ n₁) (hE : PassesOwn (model PG d.w) d.A env E) (hi : ∀ v, foldedSetIterable iterE env v = pure v := by intro _; rfl) : W d (exec (.For (.Name x px) iterE body [] pos) env) m news Q E := by
  refine W_ForIter (n := vs.length) (I := fun _ => tupIt l) (V := fun i v => vs[i]? = some v) (C₀ := fun n₁ => (l, tupO vs k) ∈ n₁) (C := fun n₁ => (l, tupO vs k) ∈ n₁) J hh (h.mono ?_) hl turn done hE hi
  rintro v m1 n1 ⟨rfl, hJ⟩
  exact ⟨iter_tup, hl _ _ _ hJ, _, List.Sublist.refl _, hJ⟩
end
end Mine

open PySem PySem.W PyProof.Rows
set_option Elab.async false
set_option linter.unusedVariables false
set_option linter.unusedSimpArgs false
set_option maxRecDepth 100000
set_option maxHeartbeats 4000000
namespace Mine
open PySem.Spec PySem.Calls
section
variable {d : Dy} {m : Loc} {news : Led} {E : Value → Shared → Prop} {env : Env} {pos : Pos} {s : Shared} {a : Addr} {v : Value} {o : Obj} {x : Str} {kvs : List (Int × Value)}
/- the ledger laid anew at the end -/
theorem W.re {α : Type} {tt : Sem α} {Q : α → Loc → Led → Prop} (h : W d tt m news (fun a m' n' => Ex2 fun n'' x => n'.Perm (n'' ++ x) ∧ Q a m' n'') E) : W d tt m news Q E :=
  .mk fun s hs => h.run hs fun _ _ m' n' hs' ⟨n'', x, hp, hq⟩ => ⟨m', n'', (hs'.perm hp.symm).sub (List.sublist_append_left _ _), hq⟩
theorem perm_by {l r : Led} (h : ∀ (f : Addr × Obj → Nat), (l.map f).sum = (r.map f).sum) : l.Perm r := by
  classical
  refine List.perm_iff_count.mpr fun z => ?_
  have := h fun y => if y == z then 1 else 0
  have key : ∀ l : Led, (l.map fun y => if y == z then 1 else 0).sum = List.count z l := by
    intro l
    induction l with
    | nil => rfl
    | cons y l ih => rw [List.map_cons, List.sum_cons, ih, List.count_cons, Nat.add_comm]
  rw [key, key] at this
  exact this
theorem W_defW {f : Addr} {args : List Value} {ps LN GN : List Str} (all : List Str) {name qual : Str} {params : Arguments} {body : List Stmt} {scope : Scope} {dV kV doc pm cdv ct oc : Value} {an od : Option Addr} {osl : Array (Option Value)} {Q : Value → Loc → Led → Prop}
    (ho : (hd.heap_39 d.w.params).lookup f = some ⟨oc, od, .func (fnOf name qual params body scope dV kV doc pm an cdv ct), osl⟩) (hcd : codeIn (hd.heap_39 d.w.params) cdv qual = true) (hN : Nm scope all GN) (hall : ps ++ LN = all) (hroom : 0 < d.room)
    (hb : bindArgs (fnOf name qual params body scope dV kV doc pm an cdv ct) ⟨args, []⟩ = pure (ps.zip args)) (hl : args.length = ps.length)
    (h : ∀ d' : Dy, d'.room + 1 = d.room → d'.A.handled = d.A.handled → (∃ outer, d'.envs = envX qual scope d'.L f cdv [] :: outer) → Nm scope all GN → d'.w = d.w →
      W d' (execs body (envX qual scope d'.L f cdv [])) (Lv all (args.map some ++ LN.map fun _ => none)) news (fun fl m' n' => Q (match fl with | .ret v => v | _ => .none) m n') (fun _ _ => False))
    (hcell : ∀ x ∈ scope.names, x.2 ≠ .cell := by decide) (hco : scope.isCoroutine = false := by rfl) (hgen : scope.isGenerator = false := by rfl) : W d (call (.ref f) args) m news Q E := by
  refine WC.call (WC_defB (ps := ps) (LN := LN) all (fun _ _ _ _ => False) (P := fun vals n1 => vals = args ∧ n1 = news) ho hcd hN hall hroom (fun s hs _ _ k => BindW.pure hb s hs fun b n1 s1 hs1 hp => k b n1 s1 hs1 ⟨args, hp.1, hl, rfl, hp.2⟩) (fun _ _ _ _ q => q.elim) ?_ hcell hco hgen)
  rintro d' hr hh hO hN' hw vals n1 ⟨rfl, rfl⟩
  exact .mk fun s hs => wpAny_mono ((h d' hr hh hO hN' hw).go s hs) (fun fl s' ⟨m', n', hs', hq⟩ => ⟨m', n', hs', _, List.Sublist.refl _, hq⟩) fun _ _ q => q.elim
/- def f(a, *rest) -/
theorem WC_defS {f : Addr} {args rest : List Value} {ps LN GN : List Str} (all : List Str) {vals : Value → List Value} {name qual : Str} {params : Arguments} {body : List Stmt} {scope : Scope} {dV kV doc pm cdv ct oc : Value} {an od : Option Addr} {osl : Array (Option Value)} {Q : Value → Loc → Led → Prop}
    (R : Loc → Led → Value → Value → Prop)
    (ho : (hd.heap_39 d.w.params).lookup f = some ⟨oc, od, .func (fnOf name qual params body scope dV kV doc pm an cdv ct), osl⟩) (hcd : codeIn (hd.heap_39 d.w.params) cdv qual = true) (hN : Nm scope all GN) (hall : ps ++ LN = all) (hroom : 0 < d.room)
    (hb : bindArgs (fnOf name qual params body scope dV kV doc pm an cdv ct) ⟨args, []⟩ = (newTuple rest >>= fun t => pure (ps.zip (vals t)))) (hl : ∀ t, (vals t).length = ps.length) (hz : rest.length ≤ sizeLine)
    (hx : ∀ m' n' cls a0, R m' n' cls a0 → ∃ n'', n''.Sublist n' ∧ ∀ ev s, XF d m n'' cls a0 ev s → E ev s)
    (h : ∀ d' : Dy, d'.room + 1 = d.room → d'.A.handled = d.A.handled → (∃ outer, d'.envs = envX qual scope d'.L f cdv [] :: outer) → Nm scope all GN → d'.w = d.w → ∀ D,
      W d' (execs body (envX qual scope d'.L f cdv [])) (Lv all ((vals (.ref D)).map some ++ LN.map fun _ => none)) ((D, tupO rest 0) :: news) (fun fl m' n' => Q (match fl with | .ret v => v | _ => .none) m n') (XE d' R))
    (hcell : ∀ x ∈ scope.names, x.2 ≠ .cell := by decide) (hco : scope.isCoroutine = false := by rfl) (hgen : scope.isGenerator = false := by rfl) : WC d (.call (.ref f) ⟨args, []⟩) m news Q E := by
  refine (WC_defB (ps := ps) (LN := LN) all R (P := fun vs n1 => ∃ D, vs = vals (.ref D) ∧ n1 = (D, tupO rest 0) :: news) ho hcd hN hall hroom
    (fun s hs _ _ k => BindW.star (binds := fun t => ps.zip (vals t)) hb hz s hs fun b n1 s1 hs1 hp => by
      obtain ⟨D, rfl, rfl⟩ := hp
      exact k _ _ s1 hs1 ⟨_, rfl, hl _, D, rfl, rfl⟩) hx ?_ hcell hco hgen)
  rintro d' hr hh hO hN' hw vs n1 ⟨D, rfl, rfl⟩
  exact .mk fun s hs => wpAny_mono ((h d' hr hh hO hN' hw D).go s hs) (fun fl s' ⟨m', n', hs', hq⟩ => ⟨m', n', hs', _, List.Sublist.refl _, hq⟩) fun _ _ q => q
theorem W_defS {f : Addr} {args rest : List Value} {ps LN GN : List Str} (all : List Str) {vals : Value → List Value} {name qual : Str} {params : Arguments} {body : List Stmt} {scope : Scope} {dV kV doc pm cdv ct oc : Value} {an od : Option Addr} {osl : Array (Option Value)} {Q : Value → Loc → Led → Prop}
    (R : Loc → Led → Value → Value → Prop)
    (ho : (hd.heap_39 d.w.params).lookup f = some ⟨oc, od, .func (fnOf name qual params body scope dV kV doc pm an cdv ct), osl⟩) (hcd : codeIn (hd.heap_39 d.w.params) cdv qual = true) (hN : Nm scope all GN) (hall : ps ++ LN = all) (hroom : 0 < d.room)
    (hb : bindArgs (fnOf name qual params body scope dV kV doc pm an cdv ct) ⟨args, []⟩ = (newTuple rest >>= fun t => pure (ps.zip (vals t)))) (hl : ∀ t, (vals t).length = ps.length) (hz : rest.length ≤ sizeLine)
    (hx : ∀ m' n' cls a0, R m' n' cls a0 → ∃ n'', n''.Sublist n' ∧ ∀ ev s, XF d m n'' cls a0 ev s → E ev s)
    (h : ∀ d' : Dy, d'.room + 1 = d.room → d'.A.handled = d.A.handled → (∃ outer, d'.envs = envX qual scope d'.L f cdv [] :: outer) → Nm scope all GN → d'.w = d.w → ∀ D,
      W d' (execs body (envX qual scope d'.L f cdv [])) (Lv all ((vals (.ref D)).map some ++ LN.map fun _ => none)) ((D, tupO rest 0) :: news) (fun fl m' n' => Q (match fl with | .ret v => v | _ => .none) m n') (XE d' R))
    (hcell : ∀ x ∈ scope.names, x.2 ≠ .cell := by decide) (hco : scope.isCoroutine = false := by rfl) (hgen : scope.isGenerator = false := by rfl) : W d (call (.ref f) args) m news Q E :=
  WC.call (WC_defS all R ho hcd hN hall hroom hb hl hz hx h hcell hco hgen)
end
end Mine

open PySem PySem.W PyProof.Rows
set_option Elab.async false
set_option linter.unusedVariables false
set_option linter.unusedSimpArgs false
set_option maxRecDepth 100000
set_option maxHeartbeats 4000000
namespace Mine
open PySem.Spec PySem.Calls
theorem meets_bool_list (l : Addr) (items : Array Value) : Meets (Builtin.«bool.__new__» ⟨[.type "bool", .ref l], []⟩) (fun _ R s => s.heap.IsList l items ∧ (items.size : Int) < 2 ^ 63 ∧ R (.ok (.ret (.bool (!items.isEmpty)))) { s with toks := s.toks + 1 + 1 }) :=
  Meets.of_wp fun prog w A R s hs => by
    obtain ⟨hl, hf, hq⟩ := hs
    have f1 := F.conv_sub_bool
    obtain ⟨hp, g, d, tk, os⟩ := s
    repeat (any_goals (first | assumption | (with_reducible refine wpAny_truthy_list hl hf ?_) | wp_step))
    all_goals first | exact ⟨_, rfl, hq⟩ | exact hq | skip
section
variable {d : Dy} {m : Loc} {news : Led} {E : Value → Shared → Prop} {env : Env} {pos : Pos} {s : Shared} {a : Addr} {v : Value} {o : Obj} {x : Str} {vs : List Value} {k : Nat} {Q : Value → Loc → Led → Prop}
theorem W_Or {e₁ e₂ : Expr} {rest : List Expr} (h : W d (eval e₁ env) m news (fun v m1 n1 => W d (truthy v) m1 n1 (fun c m2 n2 => if c = true then Q v m2 n2 else W d (eval (.BoolOp .Or (e₂ :: rest) pos) env) m2 n2 Q E) E) E) : W d (eval (.BoolOp .Or (e₁ :: e₂ :: rest) pos) env) m news Q E :=
  .mk fun s hs => BoolOp_or (h.run hs fun v s1 _ _ hs1 h1 => h1.run hs1 fun c s2 m2 n2 hs2 h2 => by cases c with | true => exact ⟨m2, n2, hs2, h2⟩ | false => exact h2.go s2 hs2)
theorem W_And {e₁ e₂ : Expr} {rest : List Expr} (h : W d (eval e₁ env) m news (fun v m1 n1 => W d (truthy v) m1 n1 (fun c m2 n2 => if c = true then W d (eval (.BoolOp .And (e₂ :: rest) pos) env) m2 n2 Q E else Q v m2 n2) E) E) : W d (eval (.BoolOp .And (e₁ :: e₂ :: rest) pos) env) m news Q E :=
  .mk fun s hs => BoolOp_and (h.run hs fun v s1 _ _ hs1 h1 => h1.run hs1 fun c s2 m2 n2 hs2 h2 => by cases c with | false => exact ⟨m2, n2, hs2, h2⟩ | true => exact h2.go s2 hs2)
theorem W_Bool1 {op : BoolOp} {e : Expr} (h : W d (eval e env) m news Q E) : W d (eval (.BoolOp op [e] pos) env) m news Q E := .mk fun s hs => BoolOp_one (h.go s hs)
theorem W_boolL (hm : (a, listO vs k) ∈ news) (hf : (vs.length : Int) < 2 ^ 62) (h : Q (.bool (vs.length != 0)) m news) : W d (call (.type "bool") [.ref a]) m news Q E := .mk fun s hs => by
  have e : (!vs.toArray.isEmpty) = (vs.length != 0) := by cases vs <;> simp
  exact call_bool_1 (meets_bool_list a vs.toArray) ⟨listO_isList (hs.mem hm), by simp; omega, ⟨rfl, _, _, hs.toks _, by rw [e]; exact h⟩⟩
theorem W_tupleL (hm : (a, listO vs k) ∈ news) (hz : vs.length ≤ sizeLine) (h : ∀ D, Q (.ref D) m ((D, tupO vs 0) :: news)) : W d (call (.type "tuple") [.ref a]) m news Q E := .mk fun s hs => by
  refine call_tuple_list (listO_isList (hs.mem hm)) (fun h' hk => ?_) (by rw [List.size_toArray]; exact hz)
  have hs' := hs.ext (h' := h') s.toks hk
  exact ⟨_, _, hs'.push (tupO vs 0), h _⟩
theorem W_clear {g : Obj → Led} (hs : Sel a (listO vs k) news g) (hz : vs.length ≤ sizeLine) (h : ∀ k', Q .none m (g (listO [] k'))) : W d (call (.builtin "list.clear") [.ref a]) m news Q E := .mk fun s h' => by
  have hm := h'.mem hs.mem
  refine call_meets PySem.F.slot_list_clear ⟨_, hm, rfl⟩ PySem.F.entry_list_clear (PySem.F.args_list_clear_1 _) (PySem.AutoSeq1.list_clear_list_0 a vs.toArray k (by simpa using hz)) ⟨hm, ?_⟩
  have ho' : (s.heap.update a (Obj.mapSeq fun _ => #[])).get? a = some (listO [] (if (#[] : Array Value).size == vs.toArray.size then k else k + 1)) := by
    rw [Heap.get?_update_self _ hm rfl]
    rfl
  exact ⟨_, _, h'.update s.toks hs (Heap.SameBut.update ..) ho', h _⟩
end
end Mine

open PySem PySem.W PyProof.Rows
set_option Elab.async false
set_option linter.unusedVariables false
set_option linter.unusedSimpArgs false
set_option maxRecDepth 100000
set_option maxHeartbeats 4000000
namespace Mine
open PySem.Spec PySem.Calls
section
variable {d : Dy} {m : Loc} {news : Led} {E : Value → Shared → Prop} {env : Env} {pos : Pos} {s : Shared} {a : Addr} {v : Value} {o : Obj} {x : Str} {vs : List Value} {k : Nat}
/- everything stands; a new object at t -/
theorem St.more (h : St d s m news) {h' : Heap} (tk : Nat) {t : Addr} {o : Obj} (hk : ∀ b o, s.heap.get? b = some o → h'.get? b = some o) (ho : h'.get? t = some o) (hn : s.heap.get? t = none) : St d { s with heap := h', toks := tk } m ((t, o) :: news) := by
  have h2 := h.ext tk hk
  obtain ⟨fs, hf, N, nd⟩ := h.N
  refine ⟨h2.F, ⟨fs, hf, ?_, ?_⟩, h.gens, h.drawn, h.os⟩
  · intro p hp
    rcases List.mem_cons.mp hp with rfl | hp
    · refine ⟨ho, fun e => ?_, ?_⟩
      · obtain ⟨oL, es, ep, hL, _⟩ := h.F.ns
        dsimp only at e
        rw [e, hL] at hn; cases hn
      · cases hq : d.base.get? t with
        | none => rfl
        | some o' => rw [h.F.keep _ _ hq] at hn; cases hn
    · exact ⟨hk _ _ (N p hp).1, (N p hp).2⟩
  · rw [List.cons_append, List.map_cons]
    refine List.nodup_cons.mpr ⟨fun hm => ?_, nd⟩
    obtain ⟨p, hp, e⟩ := List.mem_map.mp hm
    have := (N p hp).1
    dsimp only at e
    rw [e, hn] at this
    cases this
/- an exception that a call has made, with its args -/
theorem xf_made {h' : Heap} {e : Addr} {cls : Value} (hs : St d s m news) (hx : Heap.MadeExcOf s.heap h' e cls vs) : ∃ t, XF d m ((t, tupO vs 0) :: news) cls (.ref t) (.ref e) { s with heap := h' } := by
  obtain ⟨t, h1, h2, h3⟩ := hx.there
  have ne : t ≠ e := fun q => by rw [q, h1] at h3; cases h3
  refine ⟨t, e, rfl, .inl ⟨hideAll h' [e], ?_, fun b o q => of_hideAll _ q, hideAll_none _ (.head _), _, _, h1, rfl, rfl, rfl, rfl⟩⟩
  have hn := hx.new
  exact hs.more (h' := hideAll h' [e]) s.toks (fun b o q => hideAll_get _ (hx.keeps b o q) (by simp; intro q'; rw [q', hn] at q; cases q)) (hideAll_get _ h3 (by simpa using ne)) h2
theorem W_raiseT {cls newId initId : String} (F : ExcCallFacts cls newId initId) (G : ExcRaiseFacts cls) {np cpos : Pos} {e : Expr} {rest : List Expr} {Q : Flow → Loc → Led → Prop} (hh : d.A.handled = none)
    (h : W d (eval (.Name x np) env) m news (fun f m1 n1 => f = .type cls ∧ W d (spliced (backTo cpos (starEach (e :: rest) env))) m1 n1 (fun vs m2 n2 => vs.length ≤ sizeLine ∧ ∀ ev s t, XF d m2 ((t, tupO vs 0) :: n2) (.type cls) (.ref t) ev s → E ev s) E) E)
    (hplain : (backTo cpos (starEach (e :: rest) env)).any (·.1) = false := by rfl) (he : starEach (e :: rest) env = (false, eval e env) :: starEach rest env := by rfl) :
    W d (exec (.Raise (some (.Call (.Name x np) (e :: rest) [] cpos)) none pos) env) m news Q E := .mk fun s hs => by
  refine wpAny_Raise_call F G hh hplain (h.run hs fun f s1 m1 n1 hs1 h1 => ⟨h1.1, ?_⟩)
  rw [he] at h1 ⊢
  refine evalArgs_plain (h1.2.run hs1 fun vs s2 m2 n2 hs2 h2 => ⟨rfl, h2.1, fun h' e hx => ?_⟩)
  obtain ⟨t, hxf⟩ := xf_made hs2 hx.of
  exact h2.2 _ _ t hxf
theorem Fly.perm {B : Heap} {n' : Led} (x : Fly d s m news B) (hp : n'.Perm news) : Fly d s m n' B := by
  obtain ⟨hs0, ff, h1, h2, h3, h4, h5⟩ := x.N
  exact ⟨x.F, ⟨hs0, ff, h1, h2, fun p hq => h3 p ((hp.append_right _).mem_iff.mp hq), ((hp.append_right _).map _).nodup_iff.mpr h4, fun p hq => h5 p ((hp.append_right _).mem_iff.mp hq)⟩, x.bs, x.gens, x.drawn, x.os⟩
theorem XF.re {n' X : Led} {cls a0 ev : Value} (h : XF d m news cls a0 ev s) (hp : news.Perm (n' ++ X)) : XF d m n' cls a0 ev s := by
  obtain ⟨e, rfl, ⟨h₁, hs, r⟩ | ⟨B, hf, r⟩⟩ := h
  · exact ⟨e, rfl, .inl ⟨h₁, (hs.perm hp.symm).sub (List.sublist_append_left _ _), r⟩⟩
  · exact ⟨e, rfl, .inr ⟨B, (hf.perm hp.symm).sub (List.sublist_append_left _ _), r⟩⟩
theorem XF.unhide {a : Addr} {P : Obj → Prop} {cls a0 ev : Value} (h : XF (d.hide a P) m news cls a0 ev s) : XF d m news cls a0 ev s := by
  obtain ⟨e, rfl, ⟨h₁, hs, r⟩ | ⟨B, hf, r⟩⟩ := h
  · obtain ⟨o, _, hs'⟩ := hs.show'
    exact ⟨e, rfl, .inl ⟨h₁, hs'.sub (List.sublist_cons_self ..), r⟩⟩
  · exact ⟨e, rfl, .inr ⟨B, hf.unhide, r⟩⟩
theorem W_geI {i j : Int} {t u : Tok} {Q : Value → Loc → Led → Prop} (h : Q (.bool (decide (i ≥ j))) m news) : W d (compareOp .GtE (.int i t) (.int j u)) m news Q E := .mk fun s hs => ge_int ⟨_, _, hs, h⟩
/- f'..{e!r}..' of an int -/
theorem W_fstr {e : Expr} {s1 s2 : Str} {k1 k2 : Nat} {p1 p2 p3 : Pos} {Q : Value → Loc → Led → Prop} (l1 : s1.length ≤ 1000) (l2 : s2.length ≤ 1000)
    (h : W d (eval e env) m news (fun v m1 n1 => ∃ n t, v = .int n t ∧ n.natAbs.log2 < 1920 ∧ (Str.ofString (toString n)).length ≤ 1000 ∧ ∀ t', Q (.str (Str.empty ++ s1 ++ Str.ofString (toString n) ++ s2) t') m1 n1) E) :
    W d (eval (.JoinedStr [.Constant (.str s1) k1 p1, .FormattedValue e 114 none p2, .Constant (.str s2) k2 p3] pos) env) m news Q E := .mk fun s hs => by
  have sL : (5000 : Nat) ≤ sizeLine := Nat.le_of_ble_eq_true rfl
  have l0 : Str.empty.length = 0 := rfl
  refine wpAny_JoinedStr ?_
  show wpAny _ _ (eval (.Constant (.str s1) k1 p1) env) _ _ _
  refine wpAny_Constant_str ⟨s1, _, rfl, by rw [strLen_append]; omega, ?_⟩
  show wpAny _ _ (eval (.FormattedValue e 114 none p2) env) _ _ _
  refine wpAny_FormattedValue_repr (h.run (hs.toks _) fun v s2' m2 n2 hs2 h2 => ?_)
  obtain ⟨n, t, rfl, hn, hl, hq⟩ := h2
  refine wpAny_pyReprObj_gives (x := Str.ofString (toString n)) (typeIs_int _ _ _) slot_int_repr entry_int_repr (args_int_repr _) (gives_int_repr n t hn) ?_ rfl (by omega)
  have tail : ∀ t' s3, St d s3 m2 n2 → ∃ y t, Value.str (Str.ofString (toString n)) t' = .str y t ∧ (Str.empty ++ s1 ++ y).length ≤ sizeLine ∧ Joins (model PG d.w) d.A E [eval (.Constant (.str s2) k2 p3) env] (Str.empty ++ s1 ++ y) (fun out s₁ => out.length ≤ sizeLine ∧ Ex2 fun m' n' => St d { s₁ with toks := s₁.toks + 1 } m' n' ∧ Q (.str out s₁.toks) m' n') s3 := by
    intro t' s3 hs3
    refine ⟨_, _, rfl, by rw [strLen_append, strLen_append]; omega, ?_⟩
    refine wpAny_Constant_str ⟨s2, _, rfl, by rw [strLen_append, strLen_append, strLen_append]; omega, ?_⟩
    exact ⟨by rw [strLen_append, strLen_append, strLen_append]; omega, m2, n2, (hs3.toks _).toks _, hq _⟩
  exact wpAny_formatField_str (tail _ _ (hs2.toks _)) (tail _ _ ((hs2.toks _).toks _)) (by omega)
end
end Mine

open PySem PySem.W PyProof.Rows
set_option Elab.async false
set_option linter.unusedVariables false
set_option linter.unusedSimpArgs false
set_option maxRecDepth 100000
set_option maxHeartbeats 4000000
namespace Mine
open PySem.Spec PySem.Calls
namespace LI
theorem ga : Slot "list_iterator" "__getattribute__" "object.__getattribute__" := .of (owner := "object") (n := "__getattribute__") (by rw [typeLookup_type, builtinLookup_eq_fast]; kernel_rfl) (by decide +kernel) (by decide +kernel) (by decide +kernel)
    (by first | exact .inl (by decide +kernel) | exact .inr (by decide +kernel)) (by rw [isSubtype_type]; kernel_rfl)
theorem nxt : typeLookup (.type "list_iterator") "__next__" = pure (some (.builtin "list_iterator.__next__")) := by rw [typeLookup_type, builtinLookup_eq_fast]; kernel_rfl
theorem hook : typeLookup (.type "list_iterator") "__getattr__" = pure none := by rw [typeLookup_type, builtinLookup_eq_fast]; kernel_rfl
theorem ty : typeOf (.builtin "list_iterator.__next__") = pure (.type "wrapper_descriptor") := by kernel_rfl
theorem wget : Slot "wrapper_descriptor" "__get__" "wrapper_descriptor.__get__" := .of (owner := "wrapper_descriptor") (n := "__get__") (by rw [typeLookup_type, builtinLookup_eq_fast]; kernel_rfl) (by decide +kernel) (by decide +kernel) (by decide +kernel)
    (by first | exact .inl (by decide +kernel) | exact .inr (by decide +kernel)) (by rw [isSubtype_type]; kernel_rfl)
theorem wset : typeLookup (.type "wrapper_descriptor") "__set__" = pure none := by rw [typeLookup_type, builtinLookup_eq_fast]; kernel_rfl
theorem wdel : typeLookup (.type "wrapper_descriptor") "__delete__" = pure none := by rw [typeLookup_type, builtinLookup_eq_fast]; kernel_rfl
theorem eget : entryFor table "wrapper_descriptor.__get__" = some Builtin.«wrapper_descriptor.__get__» := entryFor_of_tree (by kernel_rfl)
theorem aget (a b c : Value) : argsOk "wrapper_descriptor.__get__" ⟨[a, b, c], []⟩ := by unfold argsOk; kernel_rfl
theorem ega : entryFor table "object.__getattribute__" = some Builtin.«object.__getattribute__» := entryFor_of_tree (by kernel_rfl)
theorem aga (a b : Value) : argsOk "object.__getattribute__" ⟨[a, b], []⟩ := by unfold argsOk; kernel_rfl
theorem own : (".".intercalate ("list_iterator.__next__".cutAt '.').dropLast) = "list_iterator" := by
  have e0 : "list_iterator.__next__".cutAt '.' = ["list_iterator", "__next__"] := by first | rfl | decide +kernel
  rw [e0]; decide +kernel
theorem sub : isSubtype (.type "list_iterator") (.type "list_iterator") = pure true := by rw [isSubtype_type]; kernel_rfl
theorem chk (a : Value) : checkBoundCall "list_iterator.__next__" ⟨[a], []⟩ = pure () := by first | kernel_rfl | rfl
end LI
noncomputable abbrev mwO (it : Addr) : Obj := { cls := .type "method-wrapper", data := .fields #[.builtin "list_iterator.__next__", .ref it] }
section
variable {prog : Program} {w : World} {A : Around} {E : Value → Shared → Prop} {h : Heap} {g : Array GenState} {d : Drawn} {t : Nat} {os : OsState} {a : Addr} {o : Obj}
theorem li_get {R : Result → Shared → Prop} (hx : h.get? a = some o) (hc : o.cls = .type "list_iterator") (hq : R (.ok (.ret (.ref h.objs.size))) ⟨h.push (mwO a), g, d, t, os⟩) :
    codeAny (model prog w) A (.call (.builtin "wrapper_descriptor.__get__") ⟨[.builtin "list_iterator.__next__", .ref a, .type "list_iterator"], []⟩) R ⟨h, g, d, t, os⟩ := by
  have hT : (⟨h, g, d, t, os⟩ : Shared).TypeIs (.ref a) "list_iterator" := ⟨_, hx, hc⟩
  have hT5 : (⟨h, g, d, t, os⟩ : Shared).TypeIs (.builtin "list_iterator.__next__") "wrapper_descriptor" := LI.ty
  have f8 : isSubtype (.type "list_iterator") (.type (".".intercalate ("list_iterator.__next__".cutAt '.').dropLast)) = pure true := by rw [LI.own]; exact LI.sub
  refine codeAny_call_builtin LI.wget.plain LI.eget (LI.wget.check _ _ _ _ _ _ _ _ hT5 (LI.aget _ _ _) ?_)
  repeat (any_goals (first | assumption | wp_step))
noncomputable abbrev liO (l : Addr) (i : Nat) : Obj := { cls := .type "list_iterator", data := .fields #[.ref l, .int i 0] }
theorem li_entry {tk : Tok} {l : Addr} {i : Nat} {Q : Fin → Shared → Prop} (hx : h.get? a = some (liO l i)) (hq : Q (.done (.ret (.ref h.objs.size))) ⟨h.push (mwO a), g, d, t, os⟩) :
    wpAny (model prog w) A (Builtin.«object.__getattribute__» ⟨[.ref a, .str "__next__" tk], []⟩) Q E ⟨h, g, d, t, os⟩ := by
  have hT : (⟨h, g, d, t, os⟩ : Shared).TypeIs (.ref a) "list_iterator" := ⟨_, hx, rfl⟩
  have hT5 : (⟨h, g, d, t, os⟩ : Shared).TypeIs (.builtin "list_iterator.__next__") "wrapper_descriptor" := LI.ty
  have f4 := LI.nxt
  have f5 := LI.ty
  have f6 := LI.wget.lookup
  have f7 := LI.wset
  have f8 := LI.wdel
  repeat (any_goals (first | assumption | wp_step))
  refine li_get hx rfl ?_
  repeat (any_goals (first | assumption | wp_step))
theorem li_call {tk : Tok} {l : Addr} {i : Nat} {R : Result → Shared → Prop} (hx : h.get? a = some (liO l i)) (hq : R (.ok (.ret (.ref h.objs.size))) ⟨h.push (mwO a), g, d, t, os⟩) :
    codeAny (model prog w) A (.call (.builtin "object.__getattribute__") ⟨[.ref a, .str "__next__" tk], []⟩) R ⟨h, g, d, t, os⟩ :=
  codeAny_call_builtin LI.ga.plain LI.ega (LI.ga.check _ _ _ _ _ _ _ _ (show (⟨h, g, d, t, os⟩ : Shared).TypeIs (.ref a) "list_iterator" from ⟨_, hx, rfl⟩) (LI.aga _ _) (li_entry hx hq))
theorem li_attr {expr : Bool} {l : Addr} {i : Nat} {Q : Value → Shared → Prop} (hx : h.get? a = some (liO l i)) (hq : Q (.ref h.objs.size) ⟨h.push (mwO a), g, d, t + 1, os⟩) :
    wpAny (model prog w) A (getAttr (.ref a) "__next__" expr) Q E ⟨h, g, d, t, os⟩ := by
  have hT : (⟨h, g, d, t + 1, os⟩ : Shared).TypeIs (.ref a) "list_iterator" := ⟨_, hx, rfl⟩
  have f2 := LI.ga.lookup
  have f3 := LI.ga.bind (.ref a)
  have hx0 : (expr && onTheHeap (Value.builtin "object.__getattribute__")) = false := by cases expr <;> rfl
  unfold getAttr getAttrBy
  repeat (any_goals (first | assumption | wp_step))
  refine li_call hx ?_
  repeat (any_goals (first | assumption | wp_step))
/- calling it: an item -/
theorem mw_call {M : Addr} {R : Result → Shared → Prop} (hm : h.get? M = some (mwO a)) (hq : codeAny (model prog w) A (.builtin "list_iterator.__next__" ⟨[.ref a], []⟩) R ⟨h, g, d, t, os⟩) :
    codeAny (model prog w) A (.call (.ref M) ⟨[], []⟩) R ⟨h, g, d, t, os⟩ := by
  refine codeAny_of_tree ?_
  show wpAny _ A.in1 (callAny (.ref M) ⟨[], []⟩) _ _ _
  simp only [callAny]
  refine wpAny_bind (wpAny_load hm ?_)
  simp only [show (Value.type "method-wrapper" == Value.type "method" || Value.type "method-wrapper" == Value.type "builtin_function_or_method" || Value.type "method-wrapper" == Value.type "method-wrapper") = true by decide, if_true]
  show wpAny _ _ (do if (Value.type "method-wrapper" != Value.type "method") = true then _ else _) _ _ _
  rw [if_pos (by decide)]
  refine wpAny_bind (wpAny_of_eq (a := ()) (LI.chk _) ?_)
  refine wpAny_bind (wpAny_pure (wpAny_pure ?_))
  exact ⟨Code.quiet_builtin _ (by decide +kernel), hq⟩
end
end Mine

open PySem PySem.W PyProof.Rows
set_option Elab.async false
set_option linter.unusedVariables false
set_option linter.unusedSimpArgs false
set_option maxRecDepth 100000
set_option maxHeartbeats 4000000
namespace Mine
open PySem.Spec PySem.Calls
section
variable {prog : Program} {w : World} {A : Around} {R : Result → Shared → Prop} {s : Shared}
theorem li_item {it l : Addr} {i : Nat} {items : Array Value} {x : Value} (hit : s.heap.get? it = some (liO l i)) (hl : s.heap.IsList l items) (hx : items[i]? = some x)
    (hq : ∀ h', h'.get? it = some (liO l (i + 1)) → Heap.SameBut it s.heap h' → R (.ok (.ret x)) { s with heap := h' }) : codeAny (model prog w) A (.builtin "list_iterator.__next__" ⟨[.ref it], []⟩) R s := by
  obtain ⟨ol, hol, _, nl, hdl⟩ := hl
  refine codeAny_builtin entry_listiter_next ?_
  show wpAny _ _ (field (.ref it) 0 >>= _) _ _ s
  refine wpAny_bind (wpAny_field hit rfl (x := .ref l) rfl ?_)
  show wpAny _ _ (if (Value.ref l == Value.none) = true then _ else _) _ _ s
  rw [if_neg (show ¬ ((Value.ref l == Value.none) = true) from Bool.false_ne_true)]
  show wpAny _ _ (field (.ref it) 1 >>= _) _ _ s
  refine wpAny_bind (wpAny_field hit rfl (x := .int i 0) rfl ?_)
  show wpAny _ _ (seqItems? (.ref l) >>= _) _ _ s
  refine wpAny_bind (wpAny_seqItems hol hdl ?_)
  simp only [Int.toNat_natCast, hx]
  refine wpAny_bind (wpAny_setField hit rfl (by simp) (wpAny_pure (hq _ ?_ (Heap.SameBut.update ..))))
  rw [Heap.get?_update_self _ hit rfl]
  simp [Obj.mapFields, rawInt]
theorem li_end {it l : Addr} {i : Nat} {items : Array Value} (hh : A.handled = none) (hit : s.heap.get? it = some (liO l i)) (hl : s.heap.IsList l items) (hx : items[i]? = none)
    (hq : ∀ h1 o1 ob ws t0, h1.get? it = some o1 → Heap.SameBut it s.heap h1 → ob.cls = .type "StopIteration" → ob.data = .fields ws → ws[0]? = some t0 → ws[1]? = some .none → R (.error (.ref (h1.push (tupO [] 0)).objs.size)) { s with heap := (h1.push (tupO [] 0)).push ob }) :
    codeAny (model prog w) A (.builtin "list_iterator.__next__" ⟨[.ref it], []⟩) R s := by
  obtain ⟨ol, hol, _, nl, hdl⟩ := hl
  refine codeAny_builtin entry_listiter_next ?_
  show wpAny _ _ (field (.ref it) 0 >>= _) _ _ s
  refine wpAny_bind (wpAny_field hit rfl (x := .ref l) rfl ?_)
  show wpAny _ _ (if (Value.ref l == Value.none) = true then _ else _) _ _ s
  rw [if_neg (show ¬ ((Value.ref l == Value.none) = true) from Bool.false_ne_true)]
  show wpAny _ _ (field (.ref it) 1 >>= _) _ _ s
  refine wpAny_bind (wpAny_field hit rfl (x := .int i 0) rfl ?_)
  show wpAny _ _ (seqItems? (.ref l) >>= _) _ _ s
  refine wpAny_bind (wpAny_seqItems hol hdl ?_)
  simp only [Int.toNat_natCast, hx]
  refine wpAny_bind (wpAny_rule (wpAny_bind (wpAny_setField hit rfl (by simp) ?_)))
  show wpAny _ _ (newExc (.type "StopIteration") [] >>= _) _ _ _
  refine wpAny_bind ?_
  simp only [newExc, newTuple]
  refine wpAny_bind (wpAny_newObj_type ?_ (by size_fits))
  refine wpAny_bind (m := firstArgMember _ _) (wpAny_of_eq (a := Value.none) (by first | rfl | (simp only [firstArgMember]; rfl)) ?_)
  refine wpAny_newObj_type ?_ (by size_fits)
  simp only [raiseNew]
  refine wpAny_bind (wpAny_handled ?_)
  rw [show (A.under (Code.builtin "list_iterator.__next__" ⟨[Value.ref it], []⟩)).handled = none from hh]
  refine wpAny_bind (wpAny_pure (wpAny_throw ?_))
  exact hq _ _ _ _ _ (Heap.get?_update_self _ hit rfl) (Heap.SameBut.update ..) rfl rfl rfl rfl
end
section
variable {d : Dy} {m : Loc} {news : Led} {E : Value → Shared → Prop} {env : Env} {pos : Pos} {s : Shared} {a it l mw : Addr} {v : Value} {o : Obj} {x : Str} {vs : List Value} {k i : Nat} {Q : Value → Loc → Led → Prop} {g : Obj → Led}
theorem W_iterL (hm : (l, listO vs k) ∈ news) (h : ∀ it, Q (.ref it) m ((it, liO l 0) :: news)) : W d (call (.builtin "iter") [.ref l]) m news Q E := .mk fun s hs => by
  refine call_function_entry (by decide +kernel) (by decide +kernel) kdk_entry_iter (kdk_args_iter _) ?_
  unfold Builtin.«iter»
  refine wpAny_bind (m := someArgs "iter" 1 2 _) (wpAny_of_eq (a := [Value.ref l]) (by first | rfl | kernel_rfl!) ?_)
  show wpAny _ _ (pyIter (.ref l) >>= _) _ _ _
  refine wpAny_bind (wpAny_pyIter_list (listO_isList (hs.mem hm)) ?_)
  exact wpAny_pure ⟨_, rfl, _, _, hs.push (liO l 0), h _⟩
theorem W_next {expr : Bool} (hm : (it, liO l i) ∈ news) (h : ∀ mw, Q (.ref mw) m ((mw, mwO it) :: news)) : W d (getAttr (.ref it) "__next__" expr) m news Q E := .mk fun s hs => by
  have hx := hs.mem hm
  have h2 := (hs.push (mwO it)).toks (s.toks + 1)
  obtain ⟨hp, g, dr, t, os⟩ := s
  exact li_attr hx ⟨_, _, h2, h _⟩
theorem W_cwMw0 {first : List Value} (hm : (mw, mwO it) ∈ news) (h : W d (call (.ref mw) (first ++ [])) m news Q E) : W d (callWith pos (.ref mw) first (backTo pos (starEach [] env)) []) m news Q E := .mk fun s hs => by
  refine callWith_of (P := fun h => h.get? mw = some (mwO it)) rfl (fun h hp => ⟨.machine, .inr (.inl rfl), ?_⟩) (evalArgs_nil3 ⟨hs.mem hm, h.go s hs⟩)
  intro A Q E s k q
  unfold keeperOf
  refine wpAny_bind (wpAny_load (k _ _ hp) ?_)
  exact wpAny_pure q
theorem W_mwItem (hm : (mw, mwO it) ∈ news) (hl : (l, listO vs k) ∈ news) (hs : Sel it (liO l i) news g) (hv : vs[i]? = some v) (h : Q v m (g (liO l (i + 1)))) : W d (call (.ref mw) []) m news Q E := .mk fun s h' => by
  refine wpAny_call ?_
  have h1 := h'.mem hm
  have h2 := h'.mem hs.mem
  have h3 := listO_isList (h'.mem hl)
  obtain ⟨hp, gg, dr, t, os⟩ := s
  refine mw_call h1 (li_item h2 h3 (by simpa using hv) fun h4 q1 q2 => ⟨_, _, ?_, h⟩)
  exact h'.update t hs q2 q1
theorem W_mwEnd (hh : d.A.handled = none) (hm : (mw, mwO it) ∈ news) (hl : (l, listO vs k) ∈ news) (hs : Sel it (liO l i) news g) (hv : vs.length ≤ i) (hx : ∀ o' a0 ev s, XF d m (g o') (.type "StopIteration") a0 ev s → E ev s) : W d (call (.ref mw) []) m news Q E := .mk fun s h' => by
  refine wpAny_call ?_
  have h1 := h'.mem hm
  have h2 := h'.mem hs.mem
  have h3 := listO_isList (h'.mem hl)
  obtain ⟨hp, gg, dr, t, os⟩ := s
  refine mw_call h1 (li_end hh h2 h3 (by simpa using hv) fun h4 o1 ob ws t0 q1 q2 q3 q4 q5 q6 => ?_)
  have u1 := h'.update t hs q2 q1
  have u2 := (u1.push (tupO [] 0)).sub (List.sublist_cons_self ..)
  refine hx o1 t0 _ _ ⟨_, rfl, .inl ⟨h4.push (tupO [] 0), u2, fun b o q => Heap.get?_push_of_some _ q, Heap.get?_none_of_le (Nat.le_refl _), ob, ws, Heap.get?_push_size _ (Obj.isFreed_of_fields q4), q3, q4, q5, q6⟩⟩
theorem W_itemLast {value slice : Expr} {u : Tok} (hm : (a, listO (vs ++ [v]) k) ∈ news) (h : Q v m news)
    (hs : subscripted slice false (.ref a) (.int (-1) u) = operate [.ref a, .int (-1) u] (getItem (.ref a) (.int (-1) u)) := by rfl) : W d (subscriptTail value slice (.ref a) (.int (-1) u)) m news Q E := .mk fun s h' => by
  refine kde_neg (j := vs.length) (listO_isList (h'.mem hm)) (by decide) (by decide) ?_ (by simp) ⟨_, _, h', h⟩ hs
  unfold seqIndex?
  simp
  omega
theorem W_pop (hs : Sel a (listO (vs ++ [v]) k) news g) (hz : vs.length + 1 ≤ sizeLine) (h : ∀ k', Q v m (g (listO vs k'))) : W d (call (.builtin "list.pop") [.ref a]) m news Q E := .mk fun s h' => by
  have hm := h'.mem hs.mem
  have hsz : (vs ++ [v]).toArray.size = vs.length + 1 := by simp
  refine call_meets PySem.F.slot_list_pop ⟨_, hm, rfl⟩ PySem.F.entry_list_pop (PySem.F.args_list_pop_1 _) (MeetsSeq.list_pop_last a (vs ++ [v]).toArray k v (by rw [hsz]; simp) (by rw [hsz]; exact hz)) ⟨hm, ?_⟩
  have e : ((vs ++ [v]).toArray).eraseIdxIfInBounds ((vs ++ [v]).toArray.size - 1) = vs.toArray := by
    rw [hsz]
    have := kl_erase vs [] v
    simpa using this
  have ho' : (s.heap.update a (Obj.mapSeq fun xs => xs.eraseIdxIfInBounds ((vs ++ [v]).toArray.size - 1))).get? a = some (listO vs (if (((vs ++ [v]).toArray).eraseIdxIfInBounds ((vs ++ [v]).toArray.size - 1)).size == (vs ++ [v]).toArray.size then k else k + 1)) := by
    rw [Heap.get?_update_self _ hm rfl]
    unfold Obj.mapSeq
    dsimp only
    rw [e]
  exact ⟨_, _, h'.update s.toks hs (Heap.SameBut.update ..) ho', h _⟩
theorem W_DelSub {ob ix : Expr} {p : Pos} {Q : Flow → Loc → Led → Prop} (h : W d (eval ob env) m news (fun ov m1 n1 => W d (eval ix env) m1 n1 (fun iv m2 n2 => W d (delItem ov iv) m2 n2 (fun _ m3 n3 => Q .next m3 n3) E) E) E) : W d (exec (.Delete [.Subscript ob ix p] pos) env) m news Q E := .mk fun s hs => by
  refine wpAny_Delete (wpAny_deleteEach_cons ?_)
  rw [arm_delete_Subscript]
  refine wpAny_bind (h.run hs fun ov s1 _ _ hs1 h1 => wpAny_bind (wpAny_holding (h1.run hs1 fun iv s2 _ _ hs2 h2 => wpAny_bind (wpAny_standAt (wpAny_bind (wpAny_holding (h2.run hs2 fun _ s3 m3 n3 hs3 h3 => ?_)))))))
  exact fun Γ p hΓ => by rw [Sem.wp_release]; exact wpAny_deleteEach_nil ⟨m3, n3, hs3, h3⟩
theorem W_cwT0 {T : String} (h : W d (call (.type T) []) m news Q E) : W d (callWith pos (.type T) [] (backTo pos (starEach [] env)) []) m news Q E := .mk fun s hs => callWith_type0 (h.go s hs)
/- a cut that lets returns through -/
theorem W_cutF {st : Stmt} {rest : List Stmt} {Q : Flow → Loc → Led → Prop} (P : Loc → Led → Prop) (h1 : W d (exec st env) m news (fun f m' n' => match f with | .next => P m' n' | f => Q f m' n') E) (h2 : ∀ m' n', P m' n' → W d (execs rest env) m' n' Q E) :
    W d (execs (st :: rest) env) m news Q E := W_cons (h1.mono fun f m' n' hp => by cases f with | next => exact h2 m' n' hp | _ => exact hp)
theorem W_ExprAny {e : Expr} {Q : Flow → Loc → Led → Prop} (h : W d (eval e env) m news (fun v m1 n1 => Q .next m1 n1) E) (hi : interactive env = false := by rfl) (hsw : swapsWith e none pos.line env = pure false := by rfl) : W d (exec (.Expr e pos) env) m news Q E :=
  .mk fun s hs => wpAny_Expr_any (h.go s hs) hi hsw
/- a set of ints -/
noncomputable def SI (w : World) (S : List Nat) (o : Obj) : Prop := Ex2 fun (Sf : Int → Bool) (n : Nat) => And3 (o.SetObjOf (intKind PG w) Sf n) (∀ k : Nat, Sf (k : Int) = decide (k ∈ S)) (n ≤ S.length)
theorem W_set0 (h : ∀ a o, SI d.w [] o → Q (.ref a) m ((a, o) :: news)) : W d (call (.type "set") []) m news Q E := .mk fun s hs =>
  call_set_0 fun led => ⟨_, _, hs.push { cls := .type "set", dict := none, data := .set #[] 0 (.fresh 0 0 led) }, h _ _ ⟨fun _ => false, 0, setObjOf_fresh (knd := intKind PG d.w) led, fun k => by simp, Nat.le_refl _⟩⟩
theorem W_setIn {S : List Nat} {n : Nat} {t : Tok} (hS : SI d.w S o) (hz : S.length < 1000) (hm : (a, o) ∈ news) (h : Q (.bool (decide (n ∈ S))) m news) : W d (compareOp .In (.int n t) (.ref a)) m news Q E := .mk fun s hs => by
  obtain ⟨Sf, nn, h1, h2, h3⟩ := hS
  refine wpAny_inSet_of (intKind_is _ _ _ _) rfl (h1.setOf (hs.mem hm) (by unfold scanBound; omega)) ?_
  rw [h2]
  exact ⟨_, _, hs.toks _, h⟩
theorem W_getAdd {S : List Nat} {pl : Sem Bool} {Q : Value × List Value → Loc → Led → Prop} (hS : SI d.w S o) (hz : S.length < 1000) (hm : (a, o) ∈ news) (h : Q (.builtin "set.add", [.ref a]) m news) : W d (getMethod (.ref a) "add" pl) m news Q E := .mk fun s hs => by
  obtain ⟨Sf, nn, h1, h2, h3⟩ := hS
  exact getMethod_set_add (h1.setOf (hs.mem hm) (by unfold scanBound; omega)) ⟨_, _, hs, h⟩
theorem W_setAdd {S : List Nat} {n : Nat} {t : Tok} (hS : SI d.w S o) (hz : S.length < 1000) (hs : Sel a o news g) (h : ∀ o', SI d.w (n :: S) o' → Q .none m (g o')) : W d (call (.builtin "set.add") [.ref a, .int n t]) m news Q E := .mk fun s h' => by
  obtain ⟨Sf, nn, h1, h2, h3⟩ := hS
  refine call_set_add (intKind_is _ _ _ _) rfl (h1.setOf (h'.mem hs.mem) (by unfold scanBound; omega)) (by unfold scanBound; omega) fun h4 hsb hS' => ?_
  obtain ⟨so', ho', hso'⟩ := hS'.objOf
  refine ⟨_, _, h'.update _ hs hsb ho', h so' ⟨_, _, hso', fun k => ?_, ?_⟩⟩
  · rw [h2]
    by_cases e : k = n <;> simp [e]
    omega
  · split <;> simp <;> omega
end
end Mine

open PySem PySem.W PyProof.Rows
set_option Elab.async false
set_option linter.unusedVariables false
set_option linter.unusedSimpArgs false
set_option maxRecDepth 100000
set_option maxHeartbeats 4000000
namespace Mine
open PySem.Spec PySem.Calls
noncomputable abbrev ceO : Obj := excClassObj "CycleError" "CycleError" 62 61 [.type "ValueError"] [.type "ValueError", .type "Exception", .type "BaseException", .type "object"] true [] [] false none none (some (.ref 53)) none (some (.str "CycleError" 251)) (some (.str "CycleError" 259)) (some (.bool true)) "ValueError.__new__"
theorem ce_at (P : Params) : (hd.heap_39 P).lookup 62 = some ceO := by k_is
theorem ce_ns (P : Params) : nsOkIn (hd.heap_39 P) 61 = true := by first | kernel_rfl | rfl
theorem ce_init (P : Params) : nsIn (hd.heap_39 P) 61 "__init__" = some none := by k_is
/- does an exception of the class cls fall to c? -/
noncomputable def Mat (w : World) (cls c : Value) (b : Bool) : Prop := ∀ (A : Around) (Q : Bool → Shared → Prop) (E : Value → Shared → Prop) (s : Shared) (e : Addr) (oe : Obj), (hd.heap_39 w.params).In s.heap → s.heap.get? e = some oe → oe.cls = cls → Q b s → wpAny (model PG w) A (excMatches (.ref e) c) Q E s
theorem mat_type {w : World} {X T : String} {b : Bool} (hexc : isSubtype (.type T) (.type "BaseException") = pure true) (hnt : isSubtype (.type ((Manifest.find? T).elim "type" fun x => x.metatype)) (.type "tuple") = pure false) (hsub : isSubtype (.type X) (.type T) = pure b) : Mat w (.type X) (.type T) b :=
  fun A Q E s e oe _ he hc hq => wpAny_excMatches_type ⟨oe, he, hc⟩ hexc hnt hsub hq
theorem mat_ce {w : World} : Mat w (.ref 62) (.ref 62) true := fun A Q E s e oe X he hc hq => by
  have hC := X _ _ (ce_at w.params)
  obtain ⟨h, g, d, t, os⟩ := s
  exact wpAny_excMatches_sub_self hC he hc rfl hq
theorem mat_ve {w : World} : Mat w (.type "ValueError") (.ref 62) false := fun A Q E s e oe X he hc hq => by
  have hC := X _ _ (ce_at w.params)
  have f := tc_notTuple
  have hcB : ([.ref 62, .type "ValueError", .type "Exception", .type "BaseException", .type "object"] : List Value).contains (.type "BaseException") = true := by decide
  have hsub : isSubtype (.type "ValueError") (.ref 62) = pure false := by rw [isSubtype_type]; kernel_rfl
  obtain ⟨h, g, d, t, os⟩ := s
  unfold excMatches
  repeat (first | (with_reducible refine wpAny_loadPart_at he ?_; rw [hc]) | with_reducible refine wpAny_loadPart_at hC ?_ | (with_reducible refine wpAny_isSubtype_exc hC ?_; rw [hcB]) | (rw [hsub]) | wp_step)
  exact hq
inductive PutO : List Str → List (Option Value) → Str → Option Value → List (Option Value) → Prop
  | here {x : Str} {v w : Option Value} {xs : List Str} {vs : List (Option Value)} : PutO (x :: xs) (w :: vs) x v (v :: vs)
  | there {x y : Str} {v w : Option Value} {xs : List Str} {vs vs' : List (Option Value)} : PutO xs vs x v vs' → PutO (y :: xs) (w :: vs) x v (w :: vs')
theorem PutO.mem {xs : List Str} {vs vs' : List (Option Value)} {x : Str} {v : Option Value} (h : PutO xs vs x v vs') : x ∈ xs := by
  induction h with
  | here => exact .head _
  | there _ ih => exact .tail _ ih
theorem PutO.eq {xs : List Str} {vs vs' : List (Option Value)} {x : Str} {v : Option Value} (h : PutO xs vs x v vs') (nd : xs.Nodup) : (fun y => if y = x then v else Lv xs vs y) = Lv xs vs' := by
  induction h with
  | @here x v w xs vs =>
    funext y
    show (if y = x then v else if y = x then w else Lv xs vs y) = if y = x then v else Lv xs vs y
    by_cases e : y = x
    · rw [if_pos e, if_pos e]
    · rw [if_neg e, if_neg e, if_neg e]
  | @there x y v w xs vs vs' h ih =>
    have hd := List.nodup_cons.mp nd
    have ne : y ≠ x := fun e => hd.1 (e ▸ h.mem)
    funext z
    have i := congrFun (ih hd.2) z
    show (if z = x then v else if z = y then w else Lv xs vs z) = if z = y then w else Lv xs vs' z
    by_cases e : z = y
    · subst e; rw [if_neg ne, if_pos rfl, if_pos rfl]
    · rw [if_neg e, if_neg e]; exact i
section
variable {d : Dy} {m : Loc} {news : Led} {E : Value → Shared → Prop} {env : Env} {pos : Pos} {s : Shared} {x : Str} {outer : List Env} {LN GN : List Str} {CN : List (Str × Addr)}
theorem W_raiseC {np cpos : Pos} {e : Expr} {rest : List Expr} {Q : Flow → Loc → Led → Prop} (hh : d.A.handled = none)
    (h : W d (eval (.Name x np) env) m news (fun f m1 n1 => f = .ref 62 ∧ W d (spliced (backTo cpos (starEach (e :: rest) env))) m1 n1 (fun vs m2 n2 => vs.length ≤ sizeLine ∧ ∀ ev s t, XF d m2 ((t, tupO vs 0) :: n2) (.ref 62) (.ref t) ev s → E ev s) E) E)
    (hplain : (backTo cpos (starEach (e :: rest) env)).any (·.1) = false := by rfl) (he : starEach (e :: rest) env = (false, eval e env) :: starEach rest env := by rfl) :
    W d (exec (.Raise (some (.Call (.Name x np) (e :: rest) [] cpos)) none pos) env) m news Q E := .mk fun s hs => by
  have Kb := d.K
  refine wpAny_Raise_call_sub (nm := "CycleError") (q := "CycleError") (C := 62) (N := 61) (bs := [.type "ValueError"]) (hdct := true) (sn := []) (sub := []) (ab := false) (col := none) (dd := none) (k0 := some (.ref 53)) (k1 := none) (k2 := some (.str "CycleError" 251)) (k3 := some (.str "CycleError" 259)) (k5 := some (.bool true))
    PySem.F.excBase_ValueError (mN := d.base.nsMap 61) hh hplain (nsMap_none_of_in Kb (ce_ns _) (ce_init _)) (h.run hs fun f s1 m1 n1 hs1 h1 => ⟨h1.1, ?_⟩)
  rw [he] at h1 ⊢
  refine evalArgs_plain (h1.2.run hs1 fun vs s2 m2 n2 hs2 h2 => ⟨rfl, h2.1, hs2.base (Kb _ _ (ce_at _)), (Heap.Ns.of_isNs (isNs_of_in Kb (ce_ns _))).keeps hs2.F.keep, fun h' e hx => ?_⟩)
  obtain ⟨t, hxf⟩ := xf_made hs2 hx
  exact h2.2 _ _ t hxf
/- an exception's args -/
theorem W_argsV {X : String} (FX : ExcAttrFacts X) {expr : Bool} {a t0 : Addr} {o : Obj} {ws : Array Value} {Q : Value → Loc → Led → Prop} (hm : (a, o) ∈ news) (hc : o.cls = .type X) (hd : o.data = .fields ws) (h0 : ws[0]? = some (.ref t0)) (h : Q (.ref t0) m news) : W d (getAttr (.ref a) "args" expr) m news Q E := .mk fun s hs => by
  have hx := hs.mem hm
  have hs' := hs.toks (s.toks + 1)
  obtain ⟨hp, g, dr, t, os⟩ := s
  exact args_attr FX hx hc hd h0 ⟨_, _, hs', h⟩
end
end Mine

open PySem PySem.W PyProof.Rows
set_option Elab.async false
set_option linter.unusedVariables false
set_option linter.unusedSimpArgs false
set_option maxRecDepth 100000
set_option maxHeartbeats 4000000
namespace Mine
open PySem.Spec PySem.Calls
/- an exception that has come to its handlers -/
noncomputable def Lnd (d : Dy) (m : Loc) (news : Led) (cls a0 : Value) (e : Addr) (s : Shared) : Prop := ∃ B, Fly d s m news B ∧ Heap.FlyingW B d.envs e cls a0 s.heap
section
variable {d : Dy} {m : Loc} {news : Led} {E : Value → Shared → Prop} {env : Env} {pos : Pos} {s : Shared} {x : Str} {outer : List Env} {LN GN : List Str} {CN : List (Str × Addr)} {cls a0 c : Value} {e : Addr} {t : Expr}
theorem hb_skip {name : Option Str} {body : List Stmt} {rest : List ExceptHandler} {Q : Flow → Shared → Prop} (hl : Lnd d m news cls a0 e s) (hp : Pe d env t c) (hM : Mat d.w cls c false) (k : wpAny (model PG d.w) d.A (handleBy (.ref e) env rest) Q E s) :
    wpAny (model PG d.w) d.A (handleBy (.ref e) env (.ExceptHandler (some t) name body pos :: rest)) Q E s := by
  obtain ⟨B, hf, hfl⟩ := hl
  obtain ⟨ob, hob, hoc⟩ := hfl.there
  refine wpAny_handleBy_cons (codeAny_handlers_test (hp s m news _ hf.st _ _ ?_)) (by intro q; cases q)
  exact hM _ _ _ s e ob (d.K.keeps hf.st.F.keep) hob hoc k
theorem name_goes {n : Str} {vs : List (Option Value)} {Q : Shared → Prop} (hN : Ev env d.L LN GN CN) (hx : n ∈ LN) (hs : St d s (Lv LN vs) news) (fv : Option Value → List (Option Value)) (hfv : ∀ u, PutO LN vs n u (fv u)) {A : Around}
    (h : ∀ u h' tk, St d { s with heap := h', toks := tk } (Lv LN (fv u)) news → Q { s with heap := h', toks := tk }) : wpAny (model PG d.w) A (do bindName env n .none; unbindBehindTheSuite env n pos) (fun _ s' => Q s') E s := by
  have hp : (env.scope.kind == .class || (env.scope.kind == .module && env.locals != env.globals)) = false := by rw [hN.fn]; rfl
  have hl := (hN.loc n hx).1
  obtain ⟨fs, hf, N, nd⟩ := hs.N
  refine wpAny_bind (wpAny_bindName (wpAny_storeName_local (m := Lv LN vs) hl (hN.hL ▸ hs.F.ns) (fun h₁ hn₁ hs₁ => ?_) hp))
  unfold unbindBehindTheSuite
  refine wpAny_onRaise (wpAny_unbindName_local (v := .none) hl hn₁ (by simp) hp fun h₂ u hn₂ hs₂ => ?_)
  have hsb := hs₁.trans hs₂
  rw [hN.hL] at hn₂ hsb
  have e1 : (fun x => if x = n then u else (fun x => if x = n then some Value.none else Lv LN vs x) x) = Lv LN (fv u) := by
    rw [← (hfv u).eq hN.nd]
    funext y
    by_cases q : y = n <;> simp [q]
  rw [e1] at hn₂
  exact h u h₂ _ (hs.heap hf _ (hs.F.set hn₂ hsb) (N.set hsb) nd)
theorem hb_as {n : Str} {b₀ : Stmt} {suite : List Stmt} {rest : List ExceptHandler} {Q : Flow → Loc → Led → Prop} (hN : Ev env d.L LN GN CN) (hx : n ∈ LN) (hl : Lnd d m news cls a0 e s) (hp : Pe d env t c) (hM : Mat d.w cls c true)
    (hW : ∀ oe ws, oe.cls = cls → oe.data = .fields ws → ws[0]? = some a0 → W (d.mark e) (storeName env n (.ref e)) m ((e, oe) :: news) (fun _ m2 n2 => W (d.mark e) (execs (b₀ :: suite) env) m2 n2 (fun f m3 n3 => Ex2 fun (vs3 : List (Option Value)) (fv : Option Value → List (Option Value)) => And3 (m3 = Lv LN vs3) (∀ u, PutO LN vs3 n u (fv u)) (∀ u, Q f (Lv LN (fv u)) n3)) (fun _ _ => False)) (fun _ _ => False)) :
    wpAny (model PG d.w) d.A (handleBy (.ref e) env (.ExceptHandler (some t) (some n) (b₀ :: suite) pos :: rest)) (fun f s' => Ex2 fun m' n' => St d s' m' n' ∧ Q f m' n') E s := by
  obtain ⟨B, hf, hfl⟩ := hl
  obtain ⟨ob, hob, hoc⟩ := hfl.there
  refine wpAny_handleBy_cons (codeAny_handlers_test (hp s m news _ hf.st _ _ ?_)) (by intro q; cases q)
  refine hM _ _ _ s e ob (d.K.keeps hf.st.F.keep) hob hoc (codeAny_handlers_suite_as ?_)
  obtain ⟨y1, y2, y3, y4⟩ := id hfl
  refine setFlight_any (l := d.envs) y1 y3 y4 fun h3 k1 k2 k3 k4 k5 => ?_
  have hfl3 := hf.step s.toks k1 k4
  obtain ⟨oe, vs, T, oT, ts, he, hc, hd, hv1, hnT, hTe, hT, hdT, h3'⟩ := k3
  have hst := hfl3.show2 (s := { s with heap := h3, toks := s.toks }) he hd y2 hT hdT hnT hTe
  have hst2 : St d { s with heap := h3, toks := s.toks } m ((e, oe) :: news) := hst.sub (List.Sublist.cons_cons _ (List.sublist_cons_self ..))
  refine wpAny_mono ((hW oe vs hc.1 hd hc.2).go _ (St.mark (e := e) hst2)) (fun _ s4 h4 => ?_) fun _ _ q => q.elim
  obtain ⟨m4, n4, hs4, hW4⟩ := h4
  refine wpAny_mono (hW4.go s4 hs4) (fun f s5 h5 => ?_) fun _ _ q => q.elim
  obtain ⟨m5, n5, hs5, vs3, fv, rfl, hfv, hq⟩ := h5
  exact name_goes hN hx hs5.unmark fv hfv fun u h' tk hs6 => ⟨_, _, hs6, hq u⟩
/- try: .. except ..: .., any handlers -/
theorem W_TryH {body orelse : List Stmt} {h₀ : ExceptHandler} {hs : List ExceptHandler} {Q : Flow → Loc → Led → Prop} (R : Loc → Led → Value → Value → Prop) (hE : d.envs = env :: outer) (hf : env.frame = some d.L)
    (h : W d (execs body env) m news (fun f m' n' => match f with | .next => W d (execs orelse env) m' n' Q E | f => Q f m' n') (XE d R))
    (hx : ∀ e m' n' cls a0 s, R m' n' cls a0 → Lnd d m' n' cls a0 e s → wpAny (model PG d.w) d.A (handleBy (.ref e) env (h₀ :: hs)) (fun f s' => Ex2 fun m' n' => St d s' m' n' ∧ Q f m' n') E s) :
    W d (exec (.Try body (h₀ :: hs) orelse [] pos) env) m news Q E := .mk fun s hs0 => by
  refine wpAny_Try_except (wpAny_mono (h.go s hs0) (fun f s' hq => ?_) fun ev s' hxe => ?_)
  · obtain ⟨m', n', hs', hq⟩ := hq
    cases f with
    | next => exact hq.go s' hs'
    | _ => exact ⟨m', n', hs', hq⟩
  · obtain ⟨m', n', cls, a0, hxf, hR⟩ := hxe
    obtain ⟨e, rfl, _⟩ := id hxf
    refine XF.noted hxf hE hf fun h' B hfl hh => ?_
    refine wpAny_landsW hh fun h2 hfly hu => ?_
    exact hx e m' n' cls a0 _ hR ⟨B, hfl.step s'.toks hfly.1 hu, hfly⟩
theorem Pe.gloK {x : Str} {v : Value} {np : Pos} (hN : Ev env d.L LN GN CN) (hx : x ∈ GN) (e : nsIn (hd.heap_39 d.w.params) mainGlobals x = some (some v)) : Pe d env (.Name x np) v := fun s m news A hs Q E h => by
  obtain ⟨loose, mg, mb, mean, T⟩ := d.T
  have T' := topRead_of T
  exact Name_function_global hN.fn (hN.glo x hx).1 (loadGlobal_global (hN.hG ▸ T'.g.keeps hs.F.keep) (mg_of d.K T'.g e) h) (hN.glo x hx).2
theorem Pe.gloB {x : Str} {v : Value} {np : Pos} (hN : Ev env d.L LN GN CN) (hx : x ∈ GN) (e : nsIn (hd.heap_39 d.w.params) mainGlobals x = some none ∧ bootBuiltins x = some v ∧ x ≠ "__name__") : Pe d env (.Name x np) v := fun s m news A hs Q E h => by
  obtain ⟨loose, mg, mb, mean, T⟩ := d.T
  have T' := topRead_of T
  exact Name_function_global hN.fn (hN.glo x hx).1 (loadGlobal_builtin (hN.hG ▸ T'.g.keeps hs.F.keep) (mg_none_of d.K T'.g e.1) (hN.hB ▸ T'.b.keeps hs.F.keep) ((T'.builtins x e.2.2).trans e.2.1) h) (hN.glo x hx).2
theorem W_truthyN {Q : Bool → Loc → Led → Prop} (h : Q false m news) : W d (truthy .none) m news Q E := .mk fun s hs => wpAny_pure ⟨_, _, hs, h⟩
theorem W_fstr1 {v : Expr} {Q : Value → Loc → Led → Prop} (h : W d (eval v env) m news Q E) : W d (eval (.JoinedStr [v] pos) env) m news Q E := .mk fun s hs => JoinedStr_one (h.go s hs)
end
end Mine
namespace Mine
structure JIs (J B : Nat → Loc → Led → Prop) : Prop where
  i : ∀ {i : Nat} {m : Loc} {n : Led}, B i m n → J i m n
  e : ∀ {i : Nat} {m : Loc} {n : Led}, J i m n → B i m n
theorem JIs.ex (B : Nat → Loc → Led → Prop) : ∃ J, JIs J B := ⟨B, ⟨id, id⟩⟩
structure PIs (J B : Loc → Led → Prop) : Prop where
  i : ∀ {m : Loc} {n : Led}, B m n → J m n
  e : ∀ {m : Loc} {n : Led}, J m n → B m n
theorem PIs.ex (B : Loc → Led → Prop) : ∃ J, PIs J B := ⟨B, ⟨id, id⟩⟩
/- the same, for the walker's own leaves -/
structure OpqA {α : Type} (Q QQ : α → Loc → Led → Prop) : Prop where
  le : ∀ {a m n} (h : Q a m n), QQ a m n
theorem W.opqA {d : Dy} {α : Type} {t : Sem α} {m : Loc} {news : Led} {E : Value → Shared → Prop} {Q : α → Loc → Led → Prop} (h : ∀ QQ, OpqA Q QQ → W d t m news QQ E) : W d t m news Q E := h Q ⟨id⟩
/- what stands behind a statement -/
structure Nxt (d : Dy) (env : Env) (rest : List Stmt) (E : Value → Shared → Prop) (Q Q1 : Flow → Loc → Led → Prop) : Prop where
  nx : ∀ {m n} (h : W d (execs rest env) m n Q E), Q1 .next m n
  rt : ∀ {v m n} (h : Q (.ret v) m n), Q1 (.ret v) m n
  bk : ∀ {m n} (h : Q .brk m n), Q1 .brk m n
  ct : ∀ {m n} (h : Q .cont m n), Q1 .cont m n
structure IfK (d : Dy) (env : Env) (body orelse : List Stmt) (E : Value → Shared → Prop) (Q : Flow → Loc → Led → Prop) (Q1 : Bool → Loc → Led → Prop) : Prop where
  le : ∀ {b m n} (h : if b = true then W d (execs body env) m n Q E else W d (execs orelse env) m n Q E), Q1 b m n
/- a statement that the walker enters by itself -/
noncomputable def plainS : Stmt → Bool
  | .While .. => false
  | .For .. => false
  | .Try .. => false
  | _ => true
section
variable {d : Dy} {m : Loc} {news : Led} {E : Value → Shared → Prop} {env : Env} {pos : Pos}
theorem W_consO {st : Stmt} {rest : List Stmt} {Q : Flow → Loc → Led → Prop} (h : ∀ Q1, Nxt d env rest E Q Q1 → W d (exec st env) m news Q1 E) (_ : plainS st = true := by with_unfolding_all rfl) : W d (execs (st :: rest) env) m news Q E := W_cons (h _ ⟨id, id, id, id⟩)
theorem W_last {st : Stmt} {Q : Flow → Loc → Led → Prop} (h : W d (exec st env) m news Q E) (_ : plainS st = true := by with_unfolding_all rfl) : W d (execs [st] env) m news Q E :=
  W_cons (h.mono fun f m n q => by cases f with | next => exact W_nil q | _ => exact q)
theorem W_IfO {test : Expr} {body orelse : List Stmt} {Q : Flow → Loc → Led → Prop} (h : ∀ Q1, IfK d env body orelse E Q Q1 → W d (isTrue test env (eval test env)) m news Q1 E) : W d (exec (.If test body orelse pos) env) m news Q E := W_If (h _ ⟨id⟩)
end
/- only to see whether a post-condition stands under a name already -/
theorem W.tstA {d : Dy} {α : Type} {t : Sem α} {m : Loc} {news : Led} {E : Value → Shared → Prop} {B Q : α → Loc → Led → Prop} (_ : OpqA B Q) (h : W d t m news Q E) : W d t m news Q E := h
theorem W.tstN {d d2 : Dy} {t : Sem Flow} {m : Loc} {news : Led} {E E2 : Value → Shared → Prop} {env : Env} {rest : List Stmt} {B Q : Flow → Loc → Led → Prop} (_ : Nxt d2 env rest E2 B Q) (h : W d t m news Q E) : W d t m news Q E := h
theorem W.unA {d : Dy} {α : Type} {t : Sem α} {m : Loc} {news : Led} {E : Value → Shared → Prop} {B Q : α → Loc → Led → Prop} (q : OpqA B Q) (h : W d t m news B E) : W d t m news Q E := h.mono fun _ _ _ x => q.le x
/- the goal under a name, while hypotheses are taken apart -/
structure GId (P G : Prop) : Prop where
  le : ∀ (h : P), G
theorem W.nmG {d : Dy} {α : Type} {t : Sem α} {m : Loc} {news : Led} {E : Value → Shared → Prop} {Q : α → Loc → Led → Prop} (h : ∀ G, GId (W d t m news Q E) G → G) : W d t m news Q E := h _ ⟨id⟩
section
variable {d : Dy} {m : Loc} {news : Led} {E : Value → Shared → Prop} {env : Env} {pos : Pos} {e : Expr}
theorem W_spl1 {Q : List Value → Loc → Led → Prop} (h : W d (eval e env) m news (fun v m1 n1 => Q [v] m1 n1) E) (he : starEach [e] env = [(false, eval e env)] := by with_unfolding_all rfl) : W d (spliced (backTo pos (starEach [e] env))) m news Q E := W_spl (h.mono fun _ _ _ q => W_spl0 q) he
theorem W_cwB1 {id : String} {first : List Value} {Q : Value → Loc → Led → Prop} (h : W d (eval e env) m news (fun v m1 n1 => W d (call (.builtin id) (first ++ [v])) m1 n1 Q E) E) (he : starEach [e] env = [(false, eval e env)] := by with_unfolding_all rfl) : W d (callWith pos (.builtin id) first (backTo pos (starEach [e] env)) []) m news Q E := W_cwB (W_spl1 h he) he rfl
theorem W_cwT1 {T : String} {Q : Value → Loc → Led → Prop} (h : W d (eval e env) m news (fun v m1 n1 => W d (call (.type T) [v]) m1 n1 Q E) E) (he : starEach [e] env = [(false, eval e env)] := by with_unfolding_all rfl) : W d (callWith pos (.type T) [] (backTo pos (starEach [e] env)) []) m news Q E := W_cwT (W_spl1 h he) he rfl
theorem W_cwK1 {f : Value} {first : List Value} {Q : Value → Loc → Led → Prop} (hk : keepIn (hd.heap_39 d.w.params) f = true) (h : W d (eval e env) m news (fun v m1 n1 => W d (call f (first ++ [v])) m1 n1 Q E) E) (he : starEach [e] env = [(false, eval e env)] := by with_unfolding_all rfl) : W d (callWith pos f first (backTo pos (starEach [e] env)) []) m news Q E := W_cwK hk (W_spl1 h he) he rfl
end
end Mine

open PySem PySem.W PyProof.Rows
set_option Elab.async false
set_option linter.unusedVariables false
set_option linter.unusedSimpArgs false
set_option maxRecDepth 100000
set_option maxHeartbeats 4000000
namespace Mine
open PySem.Spec PySem.Calls
section
variable {d : Dy} {m : Loc} {news : Led} {E : Value → Shared → Prop} {env : Env} {s : Shared}
/- entering a def of the text that has cells -/
theorem W_defCw {f : Addr} {args : List Value} {binds : List (Str × Value)} {LN GN CN : List Str} {vs cs : List (Option Value)} {name qual : Str} {params : Arguments} {body : List Stmt} {scope : Scope} {dV kV doc pm cdv ct oc : Value} {an od : Option Addr} {osl : Array (Option Value)} {Q : Value → Loc → Led → Prop}
    (ho : (hd.heap_39 d.w.params).lookup f = some ⟨oc, od, .func (fnOf name qual params body scope dV kV doc pm an cdv ct), osl⟩) (hcd : codeIn (hd.heap_39 d.w.params) cdv qual = true) (hN : Nm scope LN GN) (hCN : celOk scope CN = true) (hroom : 0 < d.room)
    (hb : bindArgs (fnOf name qual params body scope dV kV doc pm an cdv ct) ⟨args, []⟩ = pure binds) (hBd : Bd (scope.names.lookup ·) LN CN binds (LN.map fun _ => none) (CN.map fun _ => none) vs cs)
    (h : ∀ d' : Dy, d'.room + 1 = d.room → d'.A.handled = d.A.handled → d'.w = d.w → CellsAll news (CN.zip cs) (fun cl led => (∃ outer, d'.envs = envX qual scope d'.L f cdv cl :: outer) → Ev (envX qual scope d'.L f cdv cl) d'.L LN GN cl →
      W d' (execs body (envX qual scope d'.L f cdv cl)) (Lv LN vs) led (fun fl m' n' => ∃ n'', n''.Sublist n' ∧ Q (match fl with | .ret v => v | _ => .none) m n'') (fun _ _ => False)))
    (hco : scope.isCoroutine = false := by rfl) (hgen : scope.isGenerator = false := by rfl) : W d (call (.ref f) args) m news Q E := .mk fun s hs => by
  unfold celOk at hCN
  simp only [Bool.and_eq_true, List.all_eq_true, beq_iff_eq, decide_eq_true_eq] at hCN
  obtain ⟨⟨hc1, hc2⟩, hc3⟩ := hCN
  have hcl : ∀ n, (cellsFrom n scope.names []).map (·.1) = CN := fun n => (cellsFrom_names scope.names n 0 [] [] rfl).trans hc1
  have hk := hN.fn
  obtain ⟨loose, mg, mb, mean, T⟩ := d.T
  have X := d.K.keeps hs.F.keep
  have hr := d.hroom
  refine wpAny_call (codeAny_call_cells (fd := fnOf name qual params body scope dV kV doc pm an cdv ct) (body := body) (binds := binds) (by omega) (X _ _ ho) rfl (T.nolimit.keeps hs.F.keep) (codeRec_of X hcd) rfl hb rfl (fun x hx => ?_) (fun s₁ x => ?_) hco hgen hk)
  · rcases hBd.kinds x hx with q | ⟨q, hm⟩
    · exact .inl q
    · refine .inr ⟨q, ?_⟩
      rw [← hcl (s.heap.objs.size + 1)] at hm
      obtain ⟨p, hp, e⟩ := List.mem_map.mp hm
      have := lookup_of_mem_nodup (hcl (s.heap.objs.size + 1) ▸ hc2) (show (p.1, p.2) ∈ _ from hp)
      show (List.lookup x.1 _).isSome = true
      rw [← e, this]; rfl
  · have hdd := x.done
    obtain ⟨h₁, tk, rfl, _⟩ := hdd
    have hk₁ := x.toInCall.keep
    have e1 : (fun _ => none : Str → Option Value) = Lv LN (LN.map fun _ => none) := funext fun y => (Lv_none LN y).symm
    have e2 : (fun _ => none : Str → Option Value) = Lv CN (CN.map fun _ => none) := funext fun y => (Lv_none CN y).symm
    have hns : h₁.Ns s.heap.objs.size (Lv LN vs) := by
      have := x.toInCall.ns
      rw [e1] at this
      have q := hBd.bindL hN.nd
      exact q ▸ this
    have hcm : ∀ n c, (n, c) ∈ cellsFrom (s.heap.objs.size + 1) scope.names [] → h₁.IsCell c (Lv CN cs n) := fun n c hm => by
      have := x.cell n c (lookup_of_mem_nodup (hcl (s.heap.objs.size + 1) ▸ hc2) hm)
      rw [e2] at this
      have q := hBd.bindC hc2
      exact q ▸ this
    have hlc : cs.length = CN.length := by rw [hBd.len]; simp
    have hcs : ∀ (i : Nat) (n : Str) (c : Addr) (v : Option Value), (cellsFrom (s.heap.objs.size + 1) scope.names [])[i]? = some (n, c) → (CN.zip cs)[i]? = some (n, v) → h₁.IsCell c v := fun i n c v a b => by
      have h1 := hcm n c (List.mem_of_getElem? a)
      have : Lv CN cs n = v := by
        have : ∀ (CN : List Str) (cs : List (Option Value)) (i : Nat), CN.Nodup → (CN.zip cs)[i]? = some (n, v) → Lv CN cs n = v := by
          intro CN
          induction CN with
          | nil => intro cs i _ q; simp at q
          | cons y ys ih =>
            intro cs i nd q
            cases cs with
            | nil => simp at q
            | cons z zs =>
              show (if n = y then z else Lv ys zs n) = v
              cases i with
              | zero => simp at q; rw [if_pos q.1.symm]; exact q.2
              | succ i =>
                have q' : (ys.zip zs)[i]? = some (n, v) := by simpa using q
                have hm : n ∈ ys := (List.of_mem_zip (List.mem_of_getElem? q')).1
                have ne : n ≠ y := fun e => (List.nodup_cons.mp nd).1 (e ▸ hm)
                rw [if_neg ne]
                exact ih zs i (List.nodup_cons.mp nd).2 q'
        exact this CN cs i hc2 b
      rw [this] at h1; exact h1
    obtain ⟨led, hkk, hl1, hl2⟩ := CellsAll.use (h := h₁) (cl := cellsFrom (s.heap.objs.size + 1) scope.names [])
      (h (d.callee (envX qual scope s.heap.objs.size f cdv (cellsFrom (s.heap.objs.size + 1) scope.names [])) s.heap.objs.size m hroom hk rfl) (by show d.room - 1 + 1 = d.room; omega) rfl rfl)
      (by rw [hcl, List.map_fst_zip (by omega)]) hcs
    · have hW := hkk ⟨d.envs, rfl⟩ ⟨hk, rfl, rfl, rfl, hN.nd, hN.loc, hN.glo, fun y c hy => ?_⟩
      · have hab : ∀ p ∈ led, s.heap.objs.size < p.1 := fun p hp => by
          have : p.1 ∈ (cellsFrom (s.heap.objs.size + 1) scope.names []).map (·.2) := hl1 ▸ List.mem_map_of_mem hp
          obtain ⟨q, hq, e⟩ := List.mem_map.mp this
          have := x.above q.1 q.2 hq
          rw [e] at this; exact this
        have hap : (led.map (·.1)).Nodup := by
          rw [hl1]
          exact List.pairwise_map.mpr x.apart
        refine wpAny_mono (hW.go _ (St.enterL (tk := tk) hs rfl hns hk₁ (fun p hp => ⟨hl2 p hp, hab p hp⟩) hap)) (fun fl s' hl => ?_) fun ev s' hx => hx.elim
        obtain ⟨m', n', hs', n'', hsub, hq⟩ := hl
        exact ⟨m, n'', (hs'.leave hs.F.above).sub hsub, hq⟩
      · have hm : y ∈ CN := by rw [← hcl (s.heap.objs.size + 1)]; exact List.mem_map.mpr ⟨_, hy, rfl⟩
        have := hc3 y hm
        exact ⟨.inl this.1.1, lookup_of_mem_nodup (hcl (s.heap.objs.size + 1) ▸ hc2) hy, this.1.2, this.2⟩
end
section
variable {d : Dy} {m : Loc} {news : Led} {E : Value → Shared → Prop} {env : Env} {pos p : Pos} {s : Shared} {a b : Addr} {vs ws : List Value} {k k2 : Nat}
/- a list or a tuple behind a star -/
theorem W_star {Q : List Value → Loc → Led → Prop} {o : Obj} (hm : (a, o) ∈ news) (ho : o = listO vs k ∨ o = tupO vs k) (hz : vs.length ≤ sizeLine) (h : Q vs m news) : ∀ s, St d s m news → StarOf (model PG d.w) d.A E (.ref a) (fun vs' s' => Ex2 fun m' n' => St d s' m' n' ∧ Q vs' m' n') s := fun s hs => by
  obtain ⟨fs, hf, N, nd⟩ := hs.N
  have hm' : (a, o) ∈ news ++ fs := List.mem_append_left _ hm
  rcases ho with rfl | rfl
  · exact star_seq (T := "list") (its := vs.toArray) (n := k) hs.F N hm' rfl rfl (.inl rfl) (by simp) (by simpa using hz) fun h' F' N' => ⟨m, news, hs.heap hf s.toks F' N' nd, h⟩
  · exact star_seq (T := "tuple") (its := vs.toArray) (n := k) hs.F N hm' rfl rfl (.inr rfl) (by simp) (by simpa using hz) fun h' F' N' => ⟨m, news, hs.heap hf s.toks F' N' nd, h⟩
noncomputable def W_Star (d : Dy) (v : Value) (m : Loc) (news : Led) (Q : List Value → Loc → Led → Prop) (E : Value → Shared → Prop) : Prop := ∀ s, St d s m news → StarOf (model PG d.w) d.A E v (fun vs' s' => Ex2 fun m' n' => St d s' m' n' ∧ Q vs' m' n') s
theorem StarOf.mono {M : Model} {A : Around} {v : Value} {Q Q' : List Value → Shared → Prop} (h : StarOf M A E v Q s) (hq : ∀ vs s, Q vs s → Q' vs s) : StarOf M A E v Q' s :=
  wpAny_mono h (fun b s2 h2 => ⟨h2.1, wpAny_mono h2.2 (fun vs s3 h3 => hq vs s3 h3) fun _ _ x => x⟩) fun _ _ x => x
theorem W_splS {e : Expr} {rest : List Expr} {Q : List Value → Loc → Led → Prop}
    (h : W d (eval e env) m news (fun v m1 n1 => W_Star d v m1 n1 (fun here m2 n2 => W d (spliced (backTo pos (starEach rest env))) m2 n2 (fun vs m3 n3 => Q (here ++ vs) m3 n3) E) E) E)
    (he : starEach (.Starred e p :: rest) env = (true, eval e env) :: starEach rest env := by rfl) : W d (spliced (backTo pos (starEach (.Starred e p :: rest) env))) m news Q E :=
  .mk fun s hs => items_star (h.run hs fun v s1 m1 n1 hs1 h1 => StarOf.mono (h1 s1 hs1) fun here s2 ⟨m2, n2, hs2, h2⟩ => h2.run hs2 fun vs s3 m3 n3 hs3 h3 => ⟨m3, n3, hs3, h3⟩) he
theorem W_starL {Q : List Value → Loc → Led → Prop} (hm : (a, listO vs k) ∈ news) (hz : vs.length ≤ sizeLine) (h : Q vs m news) : W_Star d (.ref a) m news Q E := W_star hm (.inl rfl) hz h
theorem W_starT {Q : List Value → Loc → Led → Prop} (hm : (a, tupO vs k) ∈ news) (hz : vs.length ≤ sizeLine) (h : Q vs m news) : W_Star d (.ref a) m news Q E := W_star hm (.inr rfl) hz h
-- is, isinstance, !=
theorem W_isB {x y : Bool} {Q : Value → Loc → Led → Prop} (h : Q (.bool (x == y)) m news) : W d (compareOp .Is (.bool x) (.bool y)) m news Q E := .mk fun s hs =>
  wpAny_is_plain (by rfl) ⟨_, _, hs, by cases x <;> cases y <;> exact h⟩
theorem W_isNotB {x y : Bool} {Q : Value → Loc → Led → Prop} (h : Q (.bool (!(x == y))) m news) : W d (compareOp .IsNot (.bool x) (.bool y)) m news Q E := .mk fun s hs =>
  wpAny_isNot_plain (by rfl) ⟨_, _, hs, by cases x <;> cases y <;> exact h⟩
theorem W_isiTT {Q : Value → Loc → Led → Prop} (hm : (a, tupO vs k) ∈ news) (h : Q (.bool true) m news) : W d (call (.builtin "isinstance") [.ref a, .type "tuple"]) m news Q E := .mk fun s hs =>
  PySem.IsiPair.tuple_tuple (hs.mem hm) rfl ⟨_, _, hs, h⟩
theorem W_neT0 {Q : Value → Loc → Led → Prop} (hm : (a, tupO vs k) ∈ news) (hm2 : (b, tupO [] k2) ∈ news) (h : Q (.bool (vs.length != 0)) m news) : W d (compareOp .NotEq (.ref a) (.ref b)) m news Q E := .mk fun s hs => by
  have hu := d.hroom.2
  refine cmp_ofNotEq (SeqAt.RcNeAt.tuples (e := fun _ => true) (tupO_isTup (hs.mem hm)) (tupO_isTup (hs.mem hm2)) (by omega) (fun j _ h2 => by simp at h2) _ _ _ _ ⟨_, _, hs, ?_⟩)
  have e : (!((List.range (min vs.toArray.size ([] : List Value).toArray.size)).all (fun _ => true) && vs.toArray.size == ([] : List Value).toArray.size)) = (vs.length != 0) := by simp [bne]
  rw [e]; exact h
/- CycleError's args -/
theorem ce_ga (P : Params) : nsIn (hd.heap_39 P) 61 "__getattribute__" = some none := by k_is
theorem ce_gg (P : Params) : nsIn (hd.heap_39 P) 61 "__getattr__" = some none := by k_is
theorem ce_ar (P : Params) : nsIn (hd.heap_39 P) 61 "args" = some none := by k_is
theorem W_argsC {expr : Bool} {t0 : Addr} {o : Obj} {ws : Array Value} {Q : Value → Loc → Led → Prop} (hm : (a, o) ∈ news) (hc : o.cls = .ref 62) (hd' : o.data = .fields ws) (h0 : ws[0]? = some (.ref t0)) (h : Q (.ref t0) m news) : W d (getAttr (.ref a) "args" expr) m news Q E := .mk fun s hs => by
  have hx := hs.mem hm
  have Kb := d.K
  have hC := hs.base (Kb _ _ (ce_at d.w.params))
  have hN := (Heap.Ns.of_isNs (isNs_of_in Kb (ce_ns d.w.params))).keeps hs.F.keep
  have hs' := hs.toks (s.toks + 1)
  obtain ⟨hp, g, dr, t, os⟩ := s
  refine args_attr_own (C := 62) PySem.F.attrBase_ValueError hC hN (fun n hn => ?_) .base hx hc hd' h0 ⟨_, _, hs', h⟩
  simp only [quietNames, List.mem_cons, List.not_mem_nil, or_false] at hn
  rcases hn with rfl | rfl | rfl | rfl
  · exact nsMap_none_of_in Kb (ce_ns _) (ce_init _)
  · exact nsMap_none_of_in Kb (ce_ns _) (ce_ga _)
  · exact nsMap_none_of_in Kb (ce_ns _) (ce_gg _)
  · exact nsMap_none_of_in Kb (ce_ns _) (ce_ar _)
/- o.name(.., *..): the method comes bound -/
theorem W_MethS {o : Expr} {name : Str} {apos : Pos} {args : List Expr} {Q : Value → Loc → Led → Prop}
    (h : W d (eval o env) m news (fun ov m1 n1 => W d (getAttr ov name true) m1 n1 (fun f m2 n2 => W d (callWith pos f [] (backTo pos (starEach args env)) []) m2 n2 Q E) E) E)
    (he : eval (.Call (.Attribute o name apos) args [] pos) env = (do
      let ov ← eval o env
      standAt apos.atName
      let (f, first) ← holding [ov] (do pure (← getAttr ov name true, []))
      callWith pos f first (backTo pos (starEach args env)) []) := by rfl) : W d (eval (.Call (.Attribute o name apos) args [] pos) env) m news Q E := .mk fun s hs => by
  rw [he]
  exact wpAny_bind (h.run hs fun ov s1 m1 n1 hs1 h1 => wpAny_bind (wpAny_standAt (wpAny_bind (wpAny_holding (wpAny_bind (h1.run hs1 fun f s2 m2 n2 hs2 h2 => wpAny_pure (h2.go s2 hs2)))))))
structure BoundN (P : Params) (C : Addr) (name : Str) (f : Addr) : Prop where
  mn : MethN P C name f
  hh : hasDictIn (hd.heap_39 P) C = true
  gt : specialIn (hd.heap_39 P) (.ref f) "__get__" = some (some (.builtin "function.__get__"))
  tk : takesIn (hd.heap_39 P) (.ref f) = some false
  cn : copiedNames.contains name = false
  fi : fnIn (hd.heap_39 P) f = true
theorem bound_add (P : Params) : BoundN P 144 "add" 94 := ⟨⟨by k_is, by k_is, by k_is⟩, by k_is, by k_is, by k_is, by decide +kernel, by k_is⟩
theorem bound_done (P : Params) : BoundN P 144 "done" 127 := ⟨⟨by k_is, by k_is, by k_is⟩, by k_is, by k_is, by k_is, by decide +kernel, by k_is⟩
theorem W_getB {expr : Bool} {x dx C f : Addr} {name : Str} {sl : Array (Option Value)} {es : List DictEntry} {n : Nat} {xs : List Str} {us : List (Option Value)} {Q : Value → Loc → Led → Prop} (H : BoundN d.w.params C name f) (h1 : (x, (⟨.ref C, some dx, .plain, sl⟩ : Obj)) ∈ news) (h2 : (dx, dictOf es n) ∈ news) (hE : Ent xs us es) (hn : name ∉ xs)
    (h : ∀ q, Q (.ref q) m ((q, methodObj (.ref f) (.ref x)) :: news)) : W d (getAttr (.ref x) name expr) m news Q E := .mk fun s hs => by
  obtain ⟨fs, hf, N, nd⟩ := hs.N
  refine kbm_bound hs.F d.K N (hs.inst h1 h2) H.mn.pg H.hh H.mn.fi H.mn.fn H.gt H.tk H.cn (hE.none hn) fun q h' F' N' hlt => ⟨_, _, hs.heap (n' := (q, methodObj (.ref f) (.ref x)) :: news) hf (s.toks + 1) F' N' ?_, h q⟩
  rw [List.cons_append, List.map_cons]
  refine List.nodup_cons.mpr ⟨fun hm => ?_, nd⟩
  obtain ⟨p, hp, e⟩ := List.mem_map.mp hm
  have := hlt p hp
  rw [e] at this
  exact absurd this (Nat.lt_irrefl _)
theorem W_cwSB {q f : Addr} {self : Value} {e : Expr} {Q : Value → Loc → Led → Prop} (hf : fnIn (hd.heap_39 d.w.params) f = true)
    (h : W d (eval e env) m news (fun v m1 n1 => W_Star d v m1 n1 (fun vs m2 n2 => (q, methodObj (.ref f) self) ∈ n2 ∧ W d (call (.ref q) vs) m2 n2 Q E) E) E)
    (he : starEach [.Starred e p] env = [(true, eval e env)] := by rfl) : W d (callWith pos (.ref q) [] (backTo pos (starEach [.Starred e p] env)) []) m news Q E := .mk fun s hs => by
  rw [he]
  exact ks_call (P := MethP (hd.heap_39 d.w.params) q f self) rfl (keeps_M hf) (ks_lone (h.run hs fun v s1 m1 n1 hs1 h1 => StarOf.mono (h1 s1 hs1) fun vs s2 ⟨m2, n2, hs2, hq, h2⟩ => ⟨⟨hs2.mem hq, d.K.keeps hs2.F.keep⟩, h2.go s2 hs2⟩))
theorem W_cwSB2 {q f : Addr} {self : Value} {e : Expr} {rest : List Expr} {Q : Value → Loc → Led → Prop} (hf : fnIn (hd.heap_39 d.w.params) f = true)
    (h : W d (spliced (backTo pos (starEach (e :: rest) env))) m news (fun vs m1 n1 => (q, methodObj (.ref f) self) ∈ n1 ∧ W d (call (.ref q) vs) m1 n1 Q E) E)
    (he : starEach (e :: rest) env = (false, eval e env) :: starEach rest env := by rfl) (hst : (backTo pos (starEach rest env)).any (·.1) = true := by rfl) :
    W d (callWith pos (.ref q) [] (backTo pos (starEach (e :: rest) env)) []) m news Q E := .mk fun s hs => by
  rw [he] at h ⊢
  exact ks_call (P := MethP (hd.heap_39 d.w.params) q f self) (by show (false || (backTo pos (starEach rest env)).any (·.1)) = true; rw [hst]; rfl) (keeps_M hf)
    (evalArgs_plain (h.run hs fun vs s1 m1 n1 hs1 h1 => ⟨⟨hs1.mem h1.1, d.K.keeps hs1.F.keep⟩, h1.2.go s1 hs1⟩))
theorem W_callM {q f : Addr} {self : Value} {args : List Value} {Q : Value → Loc → Led → Prop} (hq : (q, methodObj (.ref f) self) ∈ news) (h : WC d (.call (.ref f) ⟨self :: args, []⟩) m news Q E) : W d (call (.ref q) args) m news Q E := .mk fun s hs =>
  wpAny_call (method_call (hs.mem hq) (h.go s hs))
theorem WC.sub {c : Code} {n' : Led} {Q : Value → Loc → Led → Prop} (h : WC d c m n' Q E) (hs : n'.Sublist news) : WC d c m news Q E := .mk fun s h' => h.go s (h'.sub hs)
/- sorted(a tuple of whole numbers) -/
theorem W_sortedT {ns : List Int} {Q : Value → Loc → Led → Prop} (hm : (a, tupO vs k) ∈ news) (hI : IntsAre vs ns) (h64 : vs.length < 64)
    (h : ∀ l out ns' e, IntsAre out ns' → ns'.Perm ns → ns'.Pairwise (· ≤ ·) → Q (.ref l) m ((l, listO out e) :: news)) : W d (call (.builtin "sorted") [.ref a]) m news Q E := .mk fun s hs => by
  have sL : (64 : Nat) ≤ sizeLine := Nat.le_of_ble_eq_true rfl
  refine Calls.call_function_entry kind_sorted plain_sorted entry_sorted (args_sorted1 _) ?_
  unfold Builtin.«sorted»
  refine wpAny_bind (m := checkCount "sorted" 1 1 _) (wpAny_pure ?_)
  refine wpAny_bind (wpAny_collect_seq a (T := "tuple") (items := vs.toArray) (n := k) (.inr rfl) (hs.mem hm) rfl rfl (fun h' hk => ?_) (by simp; omega))
  have hs1 : St d { s with heap := h' } m news := hs.ext s.toks hk
  refine wpAny_bind (wpAny_newList ?_)
  have hoL : (h'.push (seqObj "list" vs.toArray 0)).get? h'.objs.size = some (seqObj "list" vs.toArray 0) := Heap.get?_push_size _ rfl
  refine wpAny_bind (wpAny_holding (wpAny_call_entry slot_list_sort ⟨_, hoL, rfl⟩ entry_list_sort (list_sort_tree hoL hI h64 fun out ns' a1 a2 a3 => ⟨_, rfl, ?_⟩) (args_list_sort _)))
  refine wpAny_pure ⟨_, rfl, ?_⟩
  obtain ⟨e, he⟩ := sortedHeap_at (out := out) hoL
  have hkk : ∀ b o, h'.get? b = some o → (sortedHeap (h'.push (seqObj "list" vs.toArray 0)) h'.objs.size vs out).get? b = some o := fun b o e => by
    have hlt := Heap.lt_size e
    rw [sortedHeap_old (Nat.ne_of_lt hlt) (by rw [size_push']; exact Nat.lt_succ_of_lt hlt), Heap.get?_push_ne _ _ _ (Nat.ne_of_lt hlt)]
    exact e
  exact ⟨_, _, hs1.grown s.toks hkk he, by have := h h'.objs.size out.toList ns' e a1 a2 a3; simpa using this⟩
end
end Mine

open PySem PySem.W PyProof.Rows
set_option Elab.async false
set_option linter.unusedVariables false
set_option linter.unusedSimpArgs false
set_option maxRecDepth 100000
set_option maxHeartbeats 4000000
namespace Mine
open PySem.Spec PySem.Calls
/- y == x comes to b, n calls deep -/
noncomputable def EqN (n : Nat) (news : Led) (y x : Value) (b : Bool) : Prop := ∀ (A : Around) (s : Shared), A.units + n < cLine → (∀ p ∈ news, s.heap.get? p.1 = some p.2) → SeqAt.EqAt A s y x b
theorem EqN.int {news : Led} {i j : Int} {t u : Tok} : EqN 0 news (.int i t) (.int j u) (i == j) := fun A s _ _ => SeqAt.EqAt.int_int i t j u
theorem EqN.str {news : Led} {x y : Str} {t u : Tok} : EqN 0 news (.str x t) (.str y u) (x == y) := fun A s _ _ => SeqAt.EqAt.str_str x t y u
theorem EqN.mono {n n' : Nat} {news news' : Led} {y x : Value} {b : Bool} (h : EqN n news y x b) (hn : n ≤ n') (hs : ∀ p ∈ news, p ∈ news') : EqN n' news' y x b := fun A s hu hp => h A s (by omega) fun p q => hp p (hs p q)
theorem RcN.tup {n : Nat} {news : Led} {a b : Addr} {vs ws : List Value} {k k2 : Nat} {e : Nat → Bool} (ha : (a, tupO vs k) ∈ news) (hb : (b, tupO ws k2) ∈ news) (he : ∀ (j : Nat) (v w : Value), vs[j]? = some v → ws[j]? = some w → EqN n news v w (e j)) (A : Around) (s : Shared) (hu : A.units + (n + 1) < cLine) (hp : ∀ p ∈ news, s.heap.get? p.1 = some p.2) :
    SeqAt.RcAt A s (.ref a) (.ref b) ((List.range (min vs.length ws.length)).all e && vs.length == ws.length) := by
  have := SeqAt.RcAt.tuples (A := A) (s := s) (e := e) (tupO_isTup (hp _ ha)) (tupO_isTup (hp _ hb)) (by omega) (fun j h1 h2 => he j _ _ (by simp) (by simp) A.in1 s (by show A.units + 1 + n < cLine; omega) hp)
  simpa using this
theorem EqN.tup {n : Nat} {news : Led} {a b : Addr} {vs ws : List Value} {k k2 : Nat} {e : Nat → Bool} (ha : (a, tupO vs k) ∈ news) (hb : (b, tupO ws k2) ∈ news) (he : ∀ (j : Nat) (v w : Value), vs[j]? = some v → ws[j]? = some w → EqN n news v w (e j))
    (hr : vs = ws → ((List.range (min vs.length ws.length)).all e && vs.length == ws.length) = true) : EqN (n + 1) news (.ref a) (.ref b) ((List.range (min vs.length ws.length)).all e && vs.length == ws.length) := fun A s hu hp => by
  by_cases hab : a = b
  · subst hab
    have h1 := hp _ ha
    have h2 := hp _ hb
    have h3 := Option.some.inj (h1.symm.trans h2)
    have : vs = ws := by
      have := congrArg (fun o : Obj => match o.data with | .seq x _ => x.toList | _ => []) h3
      simpa using this
    rw [hr this]
    exact SeqAt.EqAt.same _
  · exact SeqAt.EqAt.of_refs hab (RcN.tup ha hb he A s hu hp)
theorem EqN.listT {n : Nat} {news : Led} {a b : Addr} {vs ws : List Value} {k k2 : Nat} (ha : (a, listO vs k) ∈ news) (hb : (b, listO ws k2) ∈ news) (hl : vs.length = ws.length) (he : ∀ (j : Nat) (v w : Value), vs[j]? = some v → ws[j]? = some w → EqN n news v w true) : EqN (n + 1) news (.ref a) (.ref b) true := fun A s hu hp => by
  by_cases hab : a = b
  · subst hab; exact SeqAt.EqAt.same _
  · refine SeqAt.EqAt.of_refs hab ?_
    have := SeqAt.RcAt.lists (A := A) (s := s) (e := fun _ => true) (listO_isList (hp _ ha)) (listO_isList (hp _ hb)) (by simpa using hl) (by omega) (fun j h1 h2 => he j _ _ (by simp) (by simp) A.in1 s (by show A.units + 1 + n < cLine; omega) hp)
    rw [show ((List.range vs.toArray.size).all fun _ => true) = true from List.all_eq_true.mpr fun _ _ => rfl] at this
    exact this
theorem ints_nth : ∀ {vs : List Value} {ns : List Int}, IntsAre vs ns → ∀ {j : Nat} {v : Value}, vs[j]? = some v → Ex2 fun i t => ns[j]? = some i ∧ v = .int i t
  | _, _, .nil, j, v, h => by simp at h
  | _, _, .cons i t r, j, v, h => by
    cases j with
    | zero => exact ⟨i, t, rfl, by simpa using h.symm⟩
    | succ j => exact ints_nth r (by simpa using h)
theorem all_get_eq {ns ms : List Int} (hl : ns.length = ms.length) : (List.range ns.length).all (fun j => (ns.getD j 0) == (ms.getD j 0)) = decide (ns = ms) := by
  rw [Bool.eq_iff_iff, List.all_eq_true, decide_eq_true_eq]
  constructor
  · intro h
    refine List.ext_getElem hl fun j h1 h2 => ?_
    have := h j (List.mem_range.mpr h1)
    simpa [h1, h2] using this
  · rintro rfl j _
    exact beq_self_eq_true _
theorem row_eq {ns ms : List Int} : ((List.range (min ns.length ms.length)).all (fun j => (ns.getD j 0) == (ms.getD j 0)) && ns.length == ms.length) = decide (ns = ms) := by
  by_cases h : ns.length = ms.length
  · rw [h, Nat.min_self, beq_self_eq_true, Bool.and_true, ← h]
    exact all_get_eq h
  · have h1 : (ns.length == ms.length) = false := by simpa using h
    have h2 : ns ≠ ms := fun e => h (by rw [e])
    rw [h1, Bool.and_false, decide_eq_false h2]
theorem EqN.row {news : Led} {a b : Addr} {vs ws : List Value} {k k2 : Nat} {ns ms : List Int} (ha : (a, tupO vs k) ∈ news) (hb : (b, tupO ws k2) ∈ news) (hv : IntsAre vs ns) (hw : IntsAre ws ms) : EqN 1 news (.ref a) (.ref b) (decide (ns = ms)) := by
  have l1 := hv.length
  have l2 := hw.length
  have := EqN.tup (n := 0) (e := fun j => (ns.getD j 0) == (ms.getD j 0)) ha hb (fun j v w h1 h2 => by
    obtain ⟨i, t, e1, rfl⟩ := ints_nth hv h1
    obtain ⟨i', t', e2, rfl⟩ := ints_nth hw h2
    have := EqN.int (news := news) (i := i) (j := i') (t := t) (u := t')
    simpa [List.getD_eq_getElem?_getD, e1, e2] using this) (by
    rintro rfl
    have : ns = ms := by
      refine List.ext_getElem (by omega) fun j h1 h2 => ?_
      obtain ⟨i, t, e1, h3⟩ := ints_nth hv (List.getElem?_eq_getElem (by omega : j < vs.length))
      obtain ⟨i', t', e2, h4⟩ := ints_nth hw (List.getElem?_eq_getElem (by omega : j < vs.length))
      rw [h3] at h4
      cases h4
      rw [List.getElem?_eq_getElem h1] at e1
      rw [List.getElem?_eq_getElem h2] at e2
      exact (Option.some.inj e1).trans (Option.some.inj e2).symm
    subst this
    rw [l1, row_eq]; simp)
  rw [l1, l2, row_eq] at this
  exact this
section
variable {d : Dy} {m : Loc} {news : Led} {E : Value → Shared → Prop} {env : Env} {pos p : Pos} {s : Shared} {a b : Addr} {vs ws : List Value} {k k2 : Nat}
theorem St.look (hs : St d s m news) : ∀ p ∈ news, s.heap.get? p.1 = some p.2 := fun p hp => hs.mem hp
theorem W_notL {Q : Value → Loc → Led → Prop} (hm : (a, listO vs k) ∈ news) (hf : (vs.length : Int) < 2 ^ 62) (h : Q (.bool (!(vs.length != 0))) m news) : W d (unaryOp .Not (.ref a)) m news Q E := .mk fun s hs =>
  not_of ((W_truthyL (Q := fun c m' n' => Q (.bool (!c)) m' n') (E := E) hm hf h).go s hs |> fun z => wpAny_mono z (fun c s' h' => h') fun _ _ x => x)
theorem W_isiLL {Q : Value → Loc → Led → Prop} (hm : (a, listO vs k) ∈ news) (h : Q (.bool true) m news) : W d (call (.builtin "isinstance") [.ref a, .type "list"]) m news Q E := .mk fun s hs =>
  PySem.IsiPair.list_list (hs.mem hm) rfl ⟨_, _, hs, h⟩
theorem W_neRow {ns ms : List Int} {Q : Value → Loc → Led → Prop} (ha : (a, tupO vs k) ∈ news) (hb : (b, tupO ws k2) ∈ news) (hv : IntsAre vs ns) (hw : IntsAre ws ms) (h : Q (.bool (!decide (ns = ms))) m news) : W d (compareOp .NotEq (.ref a) (.ref b)) m news Q E := .mk fun s hs => by
  have hu := d.hroom.2
  have l1 := hv.length
  have l2 := hw.length
  refine cmp_ofNotEq (SeqAt.RcNeAt.tuples (e := fun j => (ns.getD j 0) == (ms.getD j 0)) (tupO_isTup (hs.mem ha)) (tupO_isTup (hs.mem hb)) (by omega) (fun j h1 h2 => ?_) _ _ _ _ ⟨_, _, hs, ?_⟩)
  · obtain ⟨i, t, e1, h3⟩ := ints_nth hv (j := j) (v := vs.toArray[j]) (by simp)
    obtain ⟨i', t', e2, h4⟩ := ints_nth hw (j := j) (v := ws.toArray[j]) (by simp)
    rw [h3, h4]
    have := SeqAt.EqAt.int_int (A := d.A.in1) (s := s) i t i' t'
    simpa [List.getD_eq_getElem?_getD, e1, e2] using this
  · have e : ((List.range (min vs.toArray.size ws.toArray.size)).all (fun j => (ns.getD j 0) == (ms.getD j 0)) && vs.toArray.size == ws.toArray.size) = decide (ns = ms) := by
      rw [List.size_toArray, List.size_toArray, l1, l2, row_eq]
    rw [e]; exact h
/- list.count, whole numbers -/
theorem W_countI {ns : List Int} {i : Int} {t : Tok} {Q : Value → Loc → Led → Prop} (hm : (a, listO vs k) ∈ news) (hv : IntsAre vs ns) (h : ∀ t', Q (.int (ns.count i : Nat) t') m news) : W d (call (.builtin "list.count") [.ref a, .int i t]) m news Q E := .mk fun s hs =>
  count_list_ints (listO_isList (hs.mem hm)) hv ⟨_, _, hs.toks _, h _⟩
end
inductive RowsAre (news : Led) : List Value → List (List Int) → Prop
  | nil : RowsAre news [] []
  | cons {a : Addr} {tv vs : List Value} {k : Nat} {r : List Int} {rs : List (List Int)} : (a, tupO tv k) ∈ news → IntsAre tv r → RowsAre news vs rs → RowsAre news (.ref a :: vs) (r :: rs)
theorem RowsAre.mono {news news' : Led} {vs : List Value} {rs : List (List Int)} (h : RowsAre news vs rs) (hs : ∀ p ∈ news, p ∈ news') : RowsAre news' vs rs := by
  induction h with
  | nil => exact .nil
  | cons h1 h2 _ ih => exact .cons (hs _ h1) h2 ih
theorem RowsAre.length {news : Led} {vs : List Value} {rs : List (List Int)} (h : RowsAre news vs rs) : vs.length = rs.length := by
  induction h with
  | nil => rfl
  | cons _ _ _ ih => simp [ih]
theorem RowsAre.append {news : Led} {vs ws : List Value} {rs qs : List (List Int)} (h : RowsAre news vs rs) (h2 : RowsAre news ws qs) : RowsAre news (vs ++ ws) (rs ++ qs) := by
  induction h with
  | nil => exact h2
  | cons h1 h3 _ ih => exact .cons h1 h3 ih
theorem led_lookup {a : Addr} {o : Obj} (news : Led) : (news.map (·.1)).Nodup → (a, o) ∈ news → news.lookup a = some o := by
  induction news with
  | nil => intro _ h; exact nomatch h
  | cons p r ih =>
    intro nd h
    rw [List.map_cons, List.nodup_cons] at nd
    obtain ⟨b, o'⟩ := p
    by_cases e : a = b
    · subst e
      rcases List.mem_cons.mp h with e2 | h
      · rw [List.lookup_cons, beq_self_eq_true]
        exact congrArg some (Prod.mk.inj e2).2.symm
      · exact absurd (List.mem_map.mpr ⟨(a, o), h, rfl⟩) nd.1
    · rw [List.lookup_cons, beq_eq_false_iff_ne.mpr e]
      rcases List.mem_cons.mp h with e2 | h
      · exact absurd (Prod.mk.inj e2).1 e
      · exact ih nd.2 h
noncomputable def intOf : Value → Option Int
  | .int i _ => some i
  | _ => none
theorem ints_map : ∀ {vs : List Value} {ns : List Int}, IntsAre vs ns → vs.map intOf = ns.map some
  | _, _, .nil => rfl
  | _, _, .cons i t r => by rw [List.map_cons, List.map_cons, ints_map r]; rfl
noncomputable def rowOf (news : Led) : Value → List (Option Int)
  | .ref a => match news.lookup a with
    | some o => (match o.data with | .seq its _ => its.toList.map intOf | _ => [])
    | none => []
  | _ => []
theorem map_some_inj : ∀ {ns ms : List Int}, ns.map some = ms.map some → ns = ms
  | [], [], _ => rfl
  | [], _ :: _, h => nomatch h
  | _ :: _, [], h => nomatch h
  | a :: ns, b :: ms, h => by
    have h' := List.cons.inj h
    rw [Option.some.inj h'.1, map_some_inj h'.2]
end Mine

open PySem PySem.W PyProof.Rows
set_option Elab.async false
set_option linter.unusedVariables false
set_option linter.unusedSimpArgs false
set_option maxRecDepth 100000
set_option maxHeartbeats 4000000
namespace Mine
open PySem.Spec PySem.Calls
theorem rows_count {news : Led} (nd : (news.map (·.1)).Nodup) (ns : List Int) : ∀ {vs : List Value} {rs : List (List Int)}, RowsAre news vs rs → vs.countP (fun y => decide (rowOf news y = ns.map some)) = rs.count ns ∧ ∀ y ∈ vs, ∀ {b : Addr} {ws : List Value} {k : Nat}, (b, tupO ws k) ∈ news → IntsAre ws ns → EqN 1 news y (.ref b) (decide (rowOf news y = ns.map some))
  | _, _, .nil => ⟨rfl, fun _ h => nomatch h⟩
  | _, _, .cons (a := a) (tv := tv) (k := k) (r := r) h1 h2 h3 => by
    obtain ⟨i1, i2⟩ := rows_count nd ns h3
    have hr : rowOf news (.ref a) = r.map some := by
      have hl : news.lookup a = some (tupO tv k) := led_lookup _ nd h1
      show (match news.lookup a with | some o => (match o.data with | .seq its _ => its.toList.map intOf | _ => []) | none => []) = _
      rw [hl]
      exact ints_map h2
    have hd : decide (rowOf news (.ref a) = ns.map some) = decide (r = ns) := by
      rw [hr, Bool.eq_iff_iff, decide_eq_true_eq, decide_eq_true_eq]
      exact ⟨map_some_inj, fun e => by rw [e]⟩
    refine ⟨?_, fun y hy b ws k2 hb hw => ?_⟩
    · rw [List.countP_cons, i1, List.count_cons]
      congr 1
      rw [hd]
      by_cases e : r = ns <;> simp [e]
    · rcases List.mem_cons.mp hy with rfl | hy
      · rw [hd]; exact EqN.row h1 hb h2 hw
      · exact i2 y hy hb hw
section
variable {d : Dy} {m : Loc} {news : Led} {E : Value → Shared → Prop} {env : Env} {pos p : Pos} {s : Shared} {a b : Addr} {vs ws : List Value} {k k2 : Nat}
/- list.count, tuples of whole numbers -/
theorem W_countT {rs : List (List Int)} {ns : List Int} {Q : Value → Loc → Led → Prop} (hm : (a, listO vs k) ∈ news) (hb : (b, tupO ws k2) ∈ news) (hv : RowsAre news vs rs) (hw : IntsAre ws ns) (h : ∀ t', Q (.int (rs.count ns : Nat) t') m news) : W d (call (.builtin "list.count") [.ref a, .ref b]) m news Q E := .mk fun s hs => by
  have hu := d.hroom.2
  have nd : (news.map (·.1)).Nodup := by
    obtain ⟨fs, _, _, nd⟩ := hs.N
    rw [List.map_append] at nd
    exact (List.nodup_append.mp nd).1
  obtain ⟨i1, i2⟩ := rows_count nd ns hv
  refine call_meets PySem.F.slot_list_count ⟨_, hs.mem hm, rfl⟩ PySem.F.entry_list_count (PySem.F.args_list_count_2 _ _) (SeqAt.list_countAt a vs.toArray k none #[] (.ref b) (fun y => decide (rowOf news y = ns.map some))) ⟨hs.mem hm, fun y hy => i2 y (by simpa using hy) hb hw _ s ?_ hs.look, ?_⟩
  · show d.A.units + _ + 1 < cLine
    omega
  · rw [show vs.toArray.toList = vs from rfl, i1]
    exact ⟨_, _, hs.toks _, h _⟩
end
end Mine

open PySem PySem.W PyProof.Rows
set_option Elab.async false
set_option linter.unusedVariables false
set_option linter.unusedSimpArgs false
set_option maxRecDepth 100000
set_option maxHeartbeats 4000000
namespace Mine
open PySem.Spec PySem.Calls
section
variable {d : Dy} {m : Loc} {news : Led} {E : Value → Shared → Prop} {env : Env} {pos p : Pos} {s : Shared} {a b : Addr} {vs ws : List Value} {k k2 : Nat}
theorem W_maxL {ns : List Int} {Q : Value → Loc → Led → Prop} (hh : d.A.handled = none) (hm : (a, listO vs k) ∈ news) (hv : IntsAre vs ns) (hne : 0 < ns.length) (h : ∀ M t', M ∈ ns → (∀ a, a ∈ ns → a ≤ M) → Q (.int M t') m news) : W d (call (.builtin "max") [.ref a]) m news Q E := .mk fun s hs => by
  obtain ⟨fs, hf, N, nd⟩ := hs.N
  exact max_list_N hh hs.F N (listO_isList (hs.mem hm)) hv hne fun h' M t' tk F' N' h1 h2 => ⟨_, _, hs.heap hf _ F' N' nd, h _ _ h1 h2⟩
/- a for whose source is told only behind its evaluation -/
theorem W_ForK {x : Str} {px : Pos} {iterE : Expr} {body : List Stmt} {Q : Flow → Loc → Led → Prop} (hh : d.A.handled = none)
    (h : W d (eval iterE env) m news (fun v m1 n1 => Ex6 fun (n : Nat) (I : Addr → Nat → Obj → Prop) (V : Nat → Value → Prop) (C₀ C : Led → Prop) (J : Nat → Loc → Led → Prop) => And6 (Iter d.w v n I V C₀ C) (C₀ n1) (J 0 m1 n1) (∀ i m₁ n₁, J i m₁ n₁ → C n₁) (∀ it i v m₁ n₁, i < n → V i v → J i m₁ n₁ → W (d.hide it (I it (i + 1))) (storeName env x v) m₁ n₁ (fun _ m₂ n₂ => W (d.hide it (I it (i + 1))) (execs body env) m₂ n₂ (fun f m₃ n₃ => match f with
        | .next | .cont => J (i + 1) m₃ n₃
        | .brk => Q .next m₃ n₃
        | .ret v => Q (.ret v) m₃ n₃) E) E) (∀ m₁ n₁, J n m₁ n₁ → Q .next m₁ n₁)) E)
    (hE : PassesOwn (model PG d.w) d.A env E) (hi : ∀ v, foldedSetIterable iterE env v = pure v := by intro _; rfl) : W d (exec (.For (.Name x px) iterE body [] pos) env) m news Q E := .mk fun s hs => by
  refine wpAny_For (h.run hs fun v s1 m1 n1 hs1 h1 => ?_) hi
  obtain ⟨n, I, V, C₀, C, J, It, hC0, hJ, hC, turn, done⟩ := h1
  refine It.start d s1 m1 n1 rfl hh hs1 hC0 fun it o h' tk hI hs2 => ?_
  exact W_loop (It.src d it rfl hh) J hC (fun i v m₁ n₁ hi hv hj => turn it i v m₁ n₁ hi hv hj) done hE hI hJ hs2
/- a call of a builtin with one keyword -/
theorem W_CallKw {f name : Str} {fp kp : Pos} {e value : Expr} {rest : List Expr} {Q : Value → Loc → Led → Prop}
    (h : W d (eval (.Name f fp) env) m news (fun fv m1 n1 => ∃ id, fv = .builtin id ∧ W d (spliced (backTo pos (starEach (e :: rest) env))) m1 n1 (fun vs m2 n2 => W d (eval value env) m2 n2 (fun kv m3 n3 => W d (call (.builtin id) vs [(name, kv)]) m3 n3 Q E) E) E) E)
    (he : backTo pos (starEach (e :: rest) env) = (false, eval e env) :: backTo pos (starEach rest env) := by rfl) (hplain : (backTo pos (starEach (e :: rest) env)).any (·.1) = false := by rfl) :
    W d (eval (.Call (.Name f fp) (e :: rest) [⟨some name, value, kp⟩] pos) env) m news Q E := .mk fun s hs => by
  refine wpAny_Call_Name_kw (h.run hs fun fv s1 m1 n1 hs1 h1 => ?_)
  obtain ⟨id, rfl, h1⟩ := h1
  refine callWith_kw (h1.run hs1 fun vs s2 m2 n2 hs2 h2 => ?_) he hplain
  refine kws_cons (h2.run hs2 fun kv s3 m3 n3 hs3 h3 => kws_nil ?_)
  exact h3.go s3 hs3
/- equal lists are not unequal -/
theorem W_neEq {n : Nat} {Q : Value → Loc → Led → Prop} (ha : (a, listO vs k) ∈ news) (hb : (b, listO ws k2) ∈ news) (hl : vs.length = ws.length) (he : ∀ (j : Nat) (v w : Value), vs[j]? = some v → ws[j]? = some w → EqN n news v w true) (hn : n ≤ 6)
    (h : Q (.bool false) m news) : W d (compareOp .NotEq (.ref a) (.ref b)) m news Q E := .mk fun s hs => by
  have hu := d.hroom.2
  refine cmp_ofNotEq (SeqAt.RcNeAt.lists (e := fun _ => true) (listO_isList (hs.mem ha)) (listO_isList (hs.mem hb)) (by simpa using hl) (by omega) (fun j h1 h2 => ?_) _ _ _ _ ⟨_, _, hs, ?_⟩)
  · exact he j _ _ (by simp) (by simp) d.A.in1 s (by show d.A.units + 1 + n < cLine; omega) hs.look
  · rw [show ((List.range vs.toArray.size).all fun _ => true) = true from List.all_eq_true.mpr fun _ _ => rfl]
    exact h
/- the lambda's code: none yet, or made -/
inductive TabS (qual : Str) (pos : Pos) : Array Value → Led → Prop
  | none : TabS qual pos #[] []
  | made {c' : Addr} {oc : Obj} {vs : Array Value} {t : Tok} : oc.data = .fields vs → vs[1]? = some (.str qual t) → TabS qual pos #[rawInt pos.line, rawInt pos.col, .ref c'] [(c', oc)]
theorem W_Lambda {cn : Str} {cs : Scope} {f₀ c P : Addr} {cl clos : List (Str × Addr)} {params : Arguments} {body : Expr} {scope : Scope} {ps : Array Value} {X rest : Led} {Q : Value → Loc → Led → Prop}
    (hC : codeHdIn (hd.heap_39 d.w.params) c P = true) (hT : TabS ((envX cn cs d.L f₀ (.ref c) cl).qual ++ "<lambda>") pos ps X)
    (hdef : defaultsOf params (envX cn cs d.L f₀ (.ref c) cl) = ([], [])) (hcl : closureFor scope (envX cn cs d.L f₀ (.ref c) cl) = pure clos)
    (h : ∀ f c' oc vs t ctv pm, oc.data = .fields vs → vs[1]? = some (.str ((envX cn cs d.L f₀ (.ref c) cl).qual ++ "<lambda>") t) → Q (.ref f) m ((f, kla_obj "<lambda>" ((envX cn cs d.L f₀ (.ref c) cl).qual ++ "<lambda>") params body scope clos pm c' ctv) :: (P, tabObj #[rawInt pos.line, rawInt pos.col, .ref c']) :: (c', oc) :: rest)) :
    W d (eval (.Lambda params body scope pos) (envX cn cs d.L f₀ (.ref c) cl)) m ((P, tabObj ps) :: (X ++ rest)) Q E := .mk fun s hs => by
  obtain ⟨loose, mg, mb, mean, T⟩ := d.T
  obtain ⟨fs, hf, N, nd⟩ := hs.N
  have C := codeHd_of_K d.K hC
  refine kla_eval hdef ?_
  cases hT with
  | none =>
    have U := (Sel.app (Sel.here (a := P) (o := tabObj #[]) (r := [] ++ rest)) fs).updF nd
    refine kla_nest hs.F N T C rfl U trivial rfl hcl fun f c' oc vs t ctv h' tk F' N' h1 h2 l1 l2 => ?_
    have N2 : News d.base d.L h' (((f, kla_obj "<lambda>" ((envX cn cs d.L f₀ (.ref c) cl).qual ++ "<lambda>") params body scope clos ((mg "__name__").getD .none) c' ctv) :: (P, tabObj #[rawInt pos.line, rawInt pos.col, .ref c']) :: (c', oc) :: rest) ++ fs) := by
      intro q hq
      refine N' q ?_
      simp at hq ⊢
      rcases hq with r | r | r | r | r
      · exact .inl r
      · exact .inr (.inr (.inl r))
      · exact .inr (.inl r)
      · exact .inr (.inr (.inr (.inl r)))
      · exact .inr (.inr (.inr (.inr r)))
    refine ⟨m, _, hs.heap (n' := (f, kla_obj "<lambda>" ((envX cn cs d.L f₀ (.ref c) cl).qual ++ "<lambda>") params body scope clos ((mg "__name__").getD .none) c' ctv) :: (P, tabObj #[rawInt pos.line, rawInt pos.col, .ref c']) :: (c', oc) :: rest) hf tk F' N2 ?_, h _ _ _ _ _ _ _ h1 h2⟩
    have nd2 : (((P, tabObj #[]) :: (rest ++ fs)).map (·.1)).Nodup := by simpa using nd
    have lt : ∀ q ∈ (P, tabObj #[]) :: (rest ++ fs), q.1 < c' := fun q hq => l1 q (by simpa using hq)
    have e1 : (((f, kla_obj "<lambda>" ((envX cn cs d.L f₀ (.ref c) cl).qual ++ "<lambda>") params body scope clos ((mg "__name__").getD .none) c' ctv) :: (P, tabObj #[rawInt pos.line, rawInt pos.col, .ref c']) :: (c', oc) :: rest) ++ fs).map (·.1) = f :: P :: c' :: (rest ++ fs).map (·.1) := by simp
    rw [e1]
    have nd3 : (P :: (rest ++ fs).map (·.1)).Nodup := nd2
    have ltP : P < c' := lt _ (.head _)
    have ltR : ∀ q ∈ (rest ++ fs).map (·.1), q < c' := fun q hq => by
      obtain ⟨r, hr, rfl⟩ := List.mem_map.mp hq
      exact lt r (.tail _ hr)
    refine List.nodup_cons.mpr ⟨fun hm => ?_, List.nodup_cons.mpr ⟨fun hm => ?_, List.nodup_cons.mpr ⟨fun hm => ?_, (List.nodup_cons.mp nd3).2⟩⟩⟩
    · rcases List.mem_cons.mp hm with e | hm
      · rw [e] at l2; exact absurd l2 (Nat.not_lt.mpr (Nat.le_of_lt ltP))
      · rcases List.mem_cons.mp hm with e | hm
        · rw [e] at l2; exact Nat.lt_irrefl _ l2
        · have := ltR _ hm; exact absurd (Nat.lt_trans l2 this) (Nat.lt_irrefl _)
    · rcases List.mem_cons.mp hm with e | hm
      · rw [e] at ltP; exact Nat.lt_irrefl _ ltP
      · exact (List.nodup_cons.mp nd3).1 hm
    · exact Nat.lt_irrefl _ (ltR _ hm)
  | @made c' oc vs t h1 h2 =>
    refine kla_hit (c' := c') hs.F N T C rfl (List.mem_append_left _ (.head _)) trivial ?_ hcl fun f ctv h' tk F' N' l1 => ?_
    · show (if ((pos.line : Int) == pos.line && (pos.col : Int) == pos.col) = true then some (Value.ref c') else _) = _
      simp
    · refine ⟨m, _, hs.heap (n' := (f, kla_obj "<lambda>" ((envX cn cs d.L f₀ (.ref c) cl).qual ++ "<lambda>") params body scope clos ((mg "__name__").getD .none) c' ctv) :: (P, tabObj #[rawInt pos.line, rawInt pos.col, .ref c']) :: (c', oc) :: rest) hf tk F' N' ?_, h _ _ _ _ _ _ _ h1 h2⟩
      rw [List.cons_append, List.map_cons]
      refine List.nodup_cons.mpr ⟨fun hm => ?_, nd⟩
      obtain ⟨q, hq, e⟩ := List.mem_map.mp hm
      have := l1 q hq
      rw [e] at this
      exact Nat.lt_irrefl _ this
end
end Mine

set_option linter.unusedSimpArgs false
open PySem PySem.W PyProof.Rows
set_option Elab.async false
set_option linter.unusedVariables false
set_option linter.unusedSimpArgs false
set_option maxRecDepth 100000
set_option maxHeartbeats 4000000
namespace Mine
open PySem.Spec PySem.Calls
set_option hygiene false
set_option compiler.extract_closed false
local macro_rules | `(tactic| wtm_at "at") => `(tactic| first | with_reducible exact At.here | (apply At.there; wtm_at "at"))
local macro_rules | `(tactic| wtm_at "put") => `(tactic| first | with_reducible exact Put.here | (apply Put.there; wtm_at "put"))
local macro_rules | `(tactic| wtm_at "mem") => `(tactic| first | with_reducible exact List.mem_cons_self | (refine List.mem_cons_of_mem _ ?_; wtm_at "mem"))
local macro_rules | `(tactic| wtm_at "gk") => `(tactic| with_reducible first | exact gk0 _ | exact gk1 _ | exact gk2 _ | exact gk3 _ | exact gk4 _ | exact gk5 _ | exact gk6 _ | exact gk7 _ | exact gk8 _ | exact gk9 _ | exact gk10 _ | exact gk11 _ | exact gk12 _ | exact gk13 _ | exact gk14 _ | exact gk15 _ | exact gk16 _ | exact gk17 _ | exact gk18 _ | exact gk19 _)
local macro_rules | `(tactic| wtm_at "gb") => `(tactic| with_reducible first | exact gb0 _ | exact gb1 _ | exact gb2 _ | exact gb3 _ | exact gb4 _ | exact gb5 _ | exact gb6 _ | exact gb7 _ | exact gb8 _ | exact gb9 _ | exact gb10 _ | exact gb11 _ | exact ge0 _ | exact ge1 _ | exact ge2 _)
local macro_rules | `(tactic| wtm_at "lmem") => `(tactic| first | assumption | with_reducible exact List.mem_cons_self | (refine List.mem_cons_of_mem _ ?_; wtm_at "lmem"))
local macro_rules | `(tactic| wtm_at "sub") => `(tactic| first | with_reducible exact List.Sublist.refl _ | assumption | ((with_reducible refine List.Sublist.cons_cons _ ?_); wtm_at "sub") | ((with_reducible refine List.Sublist.cons _ ?_); wtm_at "sub"))
local macro_rules | `(tactic| wtm_at "perm") => `(tactic| (refine perm_by fun f => ?_; simp only [List.map_append, List.map_cons, List.map_nil, List.sum_append, List.sum_cons, List.sum_nil]; omega))
local macro_rules | `(tactic| wtm_at "sel") => `(tactic| first | assumption | with_reducible exact Sel.here | (apply Sel.there; wtm_at "sel"))
local macro_rules | `(tactic| wtm_at "meth") => `(tactic| with_reducible first | exact meth0 _ | exact meth1 _ | exact meth2 _ | exact meth3 _ | exact meth4 _ | exact meth5 _ | exact meth6 _)
local macro_rules | `(tactic| wtm_at "own") => `(tactic| with_reducible first | exact own0 _ | exact own1 _ | exact own2 _ | exact own3 _)
local macro_rules | `(tactic| wtm_at "slot") => `(tactic| with_reducible first | exact slot0 _ | exact slot1 _ | exact slot2 _)
local macro_rules | `(tactic| wtm_at "wx") => `(tactic| first | (with_reducible first | refine W_nil ?_ | refine W_last ?_ | refine W_Assign ?_ | refine W_AsgAttr ?_ | refine W_AugAttr ?_ | refine W_Assign2 ?_ | refine W_Aug ?_ | refine W_Ret ?_ | refine W_Expr ?_ | refine W_Break ?_ | refine W_DelSub ?_ | refine W_AsgSub ?_ | refine W_Continue ?_) | ((with_reducible first | refine W_consO ?_ | refine W_IfO ?_); intro _ _))
local macro_rules | `(tactic| wtm_at "wn") => `(tactic| first | ((fail_if_success (fail_if_success (with_reducible rename Nm _ _ _ => hNm))); (fail_if_success (fail_if_success (with_reducible show W _ (eval (Expr.Name _ _) (envX _ _ _ _ _ _)) _ _ _ _))); first | refine W_nameV (by assumption) (by wtm_at "at") ?_ | refine W_gloK (by assumption) (by wtm_at "mem") (by wtm_at "gk") ?_ | refine W_gloB (by assumption) (by wtm_at "mem") (by wtm_at "gb") ?_) | refine W_nameE (by assumption) (by wtm_at "at") ?_ | refine W_nameC (by assumption) (by wtm_at "mem") (by wtm_at "lmem") (by assumption) ?_ | refine W_gloKE (by assumption) (by wtm_at "mem") (by wtm_at "gk") ?_ | refine W_gloBE (by assumption) (by wtm_at "mem") (by wtm_at "gb") ?_)
local macro_rules | `(tactic| wtm_at "we") => `(tactic| first | ((with_reducible show W _ (eval (Expr.Name _ _) _) _ _ _ _); wtm_at "wn") | ((with_reducible first | refine W_int ?_ | refine W_str ?_); intro _) | (with_reducible first | refine W_Attr ?_ | refine W_Meth ?_ | refine W_Call ?_ | refine W_BinOp ?_ | refine W_Compare ?_ | refine W_sliceS ?_ | refine W_sliceFrom ?_ | refine W_Subscript ?_ | refine W_bool ?_ | refine W_none ?_ | refine W_Unary ?_ | refine W_Or ?_ | refine W_And ?_ | refine W_Bool1 ?_ | refine W_Named ?_ | refine W_fstr1 ?_ | refine W_IfExp ?_ | refine W_Tuple ?_ | refine W_List ?_))
local macro_rules | `(tactic| wtm_at "wi") => `(tactic| with_reducible first | refine W_isCompare ?_ | refine W_isAnd0 ?_ | refine W_isAnd ?_ | refine W_isOr0 ?_ | refine W_isOr ?_ | refine W_isNot ?_ | refine W_isPlain ?_)
local macro_rules | `(tactic| wtm_at "wg") => `(tactic| first | refine W_getMI (by wtm_at "meth") (by wtm_at "lmem") (by wtm_at "lmem") (by assumption) (by decide +kernel) ?_ | ((with_reducible show W _ (getMethod _ (Str.ofString "get") _) _ _ _ _); refine W_getD PySem.F.slot_dict_get PySem.F.type_dict_get (by assumption) (by wtm_at "lmem") ?_) | ((with_reducible show W _ (getMethod _ (Str.ofString "values") _) _ _ _ _); refine W_getD PySem.F.slot_dict_values PySem.F.type_dict_values (by assumption) (by wtm_at "lmem") ?_) | (with_reducible refine W_getStr PySem.F.slot_str_join PySem.F.type_str_join ?_) | (with_reducible refine W_getL PySem.F.slot_list_append PySem.F.type_list_append (by wtm_at "lmem") ?_) | (with_reducible refine W_getL PySem.F.slot_list_clear PySem.F.type_list_clear (by wtm_at "lmem") ?_) | (with_reducible refine W_getL PySem.F.slot_list_pop PySem.F.type_list_pop (by wtm_at "lmem") ?_) | (with_reducible refine W_getL PySem.F.slot_list_extend PySem.F.type_list_extend (by wtm_at "lmem") ?_))
local macro_rules | `(tactic| wtm_at "wa") => `(tactic| first | refine W_getA (by wtm_at "own") (by wtm_at "lmem") (by wtm_at "lmem") (by assumption) (by wtm_at "at") (by decide +kernel) ?_ (by rfl) | refine W_getSl (by wtm_at "slot") (by wtm_at "lmem") (by wtm_at "lmem") (by rfl) ?_ (by rfl))
local macro_rules | `(tactic| wtm_at "ws") => `(tactic| first | (refine W_setA (by wtm_at "own") (by wtm_at "lmem") (by wtm_at "sel") (by assumption) (by wtm_at "put") (by decide +kernel) (by decide) ?_; (intro _ _ _)) | refine W_setSl (by wtm_at "slot") (by wtm_at "sel") (by wtm_at "lmem") (by decide) (by with_reducible first | exact slE0 _ | exact slE1 _ _ | exact slE2 _ _ _ | exact slU1 _ _ _ _) ?_)
local macro_rules | `(tactic| wtm_at "wo") => `(tactic| first | (with_reducible first | refine W_ord0 ?_ | refine W_ord ?_ | refine W_bindName ?_ | refine W_asgName ?_ | refine W_truthyB ?_ | refine W_truthyI ?_ | refine W_truthyN ?_ | refine W_eqI ?_ | refine W_geI ?_ | refine W_isNone ?_ | refine W_isNotNone ?_ | refine W_asgSub ?_ | refine W_neI ?_ | refine W_ltI ?_ | refine W_gtI ?_ | refine W_eqS ?_ | refine W_neS ?_) | ((with_reducible first | refine W_add ?_ | refine W_sub ?_ | refine W_xor ?_ | refine W_iadd ?_ | refine W_isub ?_ | refine W_neg ?_); intro _) | ((with_reducible show W _ (getAttr _ _ _) _ _ _ _); wtm_at "wa") | ((with_reducible show W _ (setAttr _ _ _) _ _ _ _); wtm_at "ws") | ((with_reducible show W _ (getMethod _ _ _) _ _ _ _); wtm_at "wg") | ((with_reducible show W _ (loadName _ _) _ _ _ _); first | ((fail_if_success (fail_if_success (with_reducible show W _ (loadName (envX _ _ _ _ _ _) _) _ _ _ _))); refine W_loadV (by assumption) (by wtm_at "at") ?_) | refine W_loadC (by assumption) (by wtm_at "mem") (by wtm_at "lmem") (by assumption) ?_) | ((with_reducible show W _ (storeName _ _ _) _ _ _ _); first | ((fail_if_success (fail_if_success (with_reducible show W _ (storeName (envX _ _ _ _ _ _) _ _) _ _ _ _))); refine W_storeV (by assumption) (by wtm_at "put") ?_; try wtm_at "q") | (refine W_storeE (by assumption) (by wtm_at "put") ?_; try wtm_at "q") | (refine W_storeC (by assumption) (by wtm_at "mem") (by rfl) (by wtm_at "sel") (by assumption) ?_; (intro _ _))))
local macro_rules | `(tactic| wtm_at "wc") => `(tactic| first | (with_reducible first | refine W_cwB0 ?_ | refine W_cwB1 ?_ | refine W_cwB ?_ | refine W_cwT0 ?_ | refine W_cwT1 ?_ | refine W_cwT ?_ | refine W_spl1 ?_ | refine W_spl0 ?_ | refine W_spl ?_) | ((with_reducible first | refine W_range ?_); intro _ _ _ _) | ((with_reducible show W _ (callWith _ (Value.ref _) _ _ _) _ _ _ _); first | ((fail_if_success (fail_if_success (with_reducible show W _ (callWith _ _ _ (backTo _ (starEach [] _)) _) _ _ _ _))); refine W_cwK0 (by k_is) ?_) | ((fail_if_success (fail_if_success (with_reducible show W _ (callWith _ _ _ (backTo _ (starEach [_] _)) _) _ _ _ _))); refine W_cwK1 (by k_is) ?_) | refine W_cwK (by k_is) ?_))
local macro_rules | `(tactic| wtm_at "q") => `(tactic| (fail_if_success (with_reducible first | refine W.tstA (by assumption) ?_ | refine W.tstN (by assumption) ?_)); refine W.opqA ?_; intro _ _)
local macro_rules | `(tactic| wtm_at "g") => `(tactic| refine W.nmG ?_; intro _ _)
local macro_rules | `(tactic| wtm_at "ug") => `(tactic| refine GId.le (by assumption) ?_)
local macro_rules | `(tactic| wtm_at "uq") => `(tactic| with_reducible refine W.unA (by assumption) ?_)
local macro_rules | `(tactic| wtm_at "lf") => `(tactic| with_reducible first | refine Nxt.nx (by assumption) ?_ | refine IfK.le (by assumption) ?_ | refine Nxt.rt (by assumption) ?_ | refine OpqA.le (by assumption) ?_ | refine Nxt.bk (by assumption) ?_ | refine Nxt.ct (by assumption) ?_)
local macro_rules | `(tactic| wtm_at "w") => `(tactic| first | ((with_reducible show W _ (execs _ _) _ _ _ _); wtm_at "wx") | ((with_reducible show W _ (exec _ _) _ _ _ _); wtm_at "wx") | ((with_reducible show W _ (eval _ _) _ _ _ _); wtm_at "we"; try dsimp only) | ((with_reducible show W _ (isTrue _ _ _) _ _ _ _); wtm_at "wi"; try dsimp only) | ((with_reducible show W _ (callWith _ _ _ _ _) _ _ _ _); wtm_at "wc") | ((with_reducible show W _ (spliced _) _ _ _ _); wtm_at "wc"; try dsimp only) | ((with_reducible show W _ (call _ _ _) _ _ _ _); wtm_at "wc"; try dsimp only) | ((with_reducible show W _ (_) _ _ _ _); wtm_at "wo"; try dsimp only) | ((with_reducible first | refine ifT ?_ | refine ifF ?_); try wtm_at "q") | (wtm_at "lf"; (try dsimp only); try wtm_at "q"))

noncomputable def tstep (one two : Int) (w : Int) (k : Nat) : Int := if ((two.fdiv (2 ^ k)).fmod 2 == 1) = true then Builtin.bitXor w (one * 2 ^ k) else w
noncomputable def timesF (one two : Int) : Int := (List.range 4).foldl (tstep one two) 0
theorem times_c {d : Dy} {m : Loc} {news : Led} {E : Value → Shared → Prop} {one two : Int} {t1 t2 : Tok} {Q : Value → Loc → Led → Prop} (hr : 1 ≤ d.room) (hh : d.A.handled = none)
   (h : ∀ t, Q (.int (timesF one two) t) m news) : W d (call (.ref 169) [.int one t1, .int two t2]) m news Q E := by
  refine W_def (ps := ["one", "two"]) (LN := ["whole", "k"]) (GN := ["range"]) ["one", "two", "whole", "k"] (by k_is) (by k_is) (Nm.of (by decide +kernel)) rfl hr rfl rfl ?_
  intro d' hr' hh' hO hN
  show W d' _ (Lv ["one", "two", "whole", "k"] [some _, some _, none, none]) _ _ _
  try wtm_at "q"
  repeat wtm_at "w"
  refine W_cut (fun m1 n1 => news.Sublist n1 ∧ Ex2 fun t o => m1 = Lv ["one", "two", "whole", "k"] [some (.int one t1), some (.int two t2), some (.int (timesF one two) t), o]) ?_ ?_
  · try wtm_at "q"
    refine W_ForRange (n := 4) (fun i m1 n1 => news.Sublist n1 ∧ Ex2 fun t o => m1 = Lv ["one", "two", "whole", "k"] [some (.int one t1), some (.int two t2), some (.int ((List.range i).foldl (tstep one two) 0) t), o])
      (by decide) (hh'.trans hh) ?_ ?_ ?_ PassesOwn.never
    · repeat wtm_at "w"
      (repeat wtm_at "lf")
      exact ⟨_, _, _, _, rfl, .head _, List.sublist_cons_self .., _, _, rfl⟩
    · intro it i t m₁ n₁ hi hj91
      try wtm_at "q"
      obtain ⟨hn, tw, o, rfl⟩ := hj91
      repeat wtm_at "w"
      refine W_pow (by omega) (by omega) (by decide) ?_
      intro _
      have hp : (2 : Int) ^ (i : Int).toNat ≠ 0 ∧ ((2 : Int) ^ (i : Int).toNat).natAbs < 1073741824 := by
        rcases (by omega : i = 0 ∨ i = 1 ∨ i = 2 ∨ i = 3) with rfl | rfl | rfl | rfl <;> decide
      refine W_div hp.1 (PyProof.noPylong_small hp.2) ?_
      intro _
      repeat wtm_at "w"
      refine W_mod (by decide) ?_
      intro _
      repeat wtm_at "w"
      have hs : (List.range (i + 1)).foldl (tstep one two) 0 = tstep one two ((List.range i).foldl (tstep one two) 0) i := by
        rw [List.range_succ, List.foldl_append]; rfl
      split
      · rename_i hc
        rw [Int.toNat_natCast] at hc
        repeat wtm_at "w"
        refine W_pow (by omega) (by omega) (by decide) ?_
        intro _
        refine W_mul ?_ (IntMulOk.of_right ?_)
        · intro _
          repeat wtm_at "w"
          (repeat wtm_at "lf")
          refine ⟨hn, ?_⟩
          rw [hs, tstep, if_pos hc]
          (repeat wtm_at "lf")
          exact ⟨_, _, rfl⟩
        · rcases (by omega : i = 0 ∨ i = 1 ∨ i = 2 ∨ i = 3) with rfl | rfl | rfl | rfl <;> decide
      · rename_i hc
        rw [Int.toNat_natCast] at hc
        repeat wtm_at "w"
        (repeat wtm_at "lf")
        refine ⟨hn, ?_⟩
        rw [hs, tstep, if_neg hc]
        (repeat wtm_at "lf")
        exact ⟨_, _, rfl⟩
    · intro m₁ n₁ hj91
      try wtm_at "q"
      obtain ⟨hn, tw, o, rfl⟩ := hj91
      (repeat wtm_at "lf")
      exact ⟨rfl, hn, tw, o, rfl⟩
  · intro m₁ n₁ hj91
    try wtm_at "q"
    obtain ⟨hn, tw, o, rfl⟩ := hj91
    repeat wtm_at "w"
    (repeat wtm_at "lf")
    exact ⟨_, hn, h _⟩

noncomputable def cutN (n : Int) (k : Nat) : Nat := if n < 0 then k else min n.toNat k
theorem cutN_le (n : Int) (k : Nat) : cutN n k ≤ k := by unfold cutN; split <;> omega
theorem cutN_is (n : Int) (k : Nat) : (n < 0 ∧ cutN n k = k) ∨ (0 ≤ n ∧ cutN n k = min n.toNat k) := by
  unfold cutN
  by_cases q : n < 0
  · exact .inl ⟨q, if_pos q⟩
  · exact .inr ⟨by omega, if_neg q⟩
theorem cutN_stop {n : Int} {k i : Nat} (h : i ≤ cutN n k) (hs : n - i = 0 ∨ i = k) : i = cutN n k := by
  rcases cutN_is n k with ⟨a, b⟩ | ⟨a, b⟩ <;> rw [b] at h ⊢ <;> omega
theorem cutN_more {n : Int} {k i : Nat} (h : i ≤ cutN n k) (h1 : n - i ≠ 0) (h2 : i < k) : i + 1 ≤ cutN n k := by
  rcases cutN_is n k with ⟨a, b⟩ | ⟨a, b⟩ <;> rw [b] at h ⊢ <;> omega
noncomputable abbrev blankAt (S : Str) (i : Int) : Bool := Txt.item S i == Str.ofString " "
noncomputable abbrev stripF (S : Str) (n : Int) (lead trail : Nat) : Str := Txt.slice S (some (cutN n lead : Int)) (some ((S.length : Int) - 1 - (cutN (n - cutN n lead) trail : Nat) + 1))
/- _strip_padding upon a text that holds a sign that is no blank: nothing is raised -/
theorem strip_c {d : Dy} {m : Loc} {news : Led} {E : Value → Shared → Prop} {S : Str} {n : Int} {t1 t2 : Tok} {Q : Value → Loc → Led → Prop} {lead trail : Nat} (hr : 1 ≤ d.room)
    (hz : S.length ≤ 1000000) (hlead : lead < S.length) (htrail : trail < S.length) (hl : ∀ i : Nat, i < lead → blankAt S i = true) (hl' : blankAt S lead = false)
    (ht : ∀ j : Nat, j < trail → blankAt S ((S.length : Int) - 1 - j) = true) (ht' : blankAt S ((S.length : Int) - 1 - trail) = false)
    (h : ∀ t, Q (.str (stripF S n lead trail) t) m news) : W d (call (.ref 28) [.str S t1, .int n t2]) m news Q E := by
  refine W_def (ps := ["s", "amount"]) (LN := ["lpos", "rpos"]) (GN := ["len"]) ["s", "amount", "lpos", "rpos"] (by k_is) (by k_is) (Nm.of (by decide +kernel)) rfl hr rfl rfl ?_
  intro d' hr' hh' hO hN
  show W d' _ (Lv ["s", "amount", "lpos", "rpos"] [some _, some _, none, none]) _ _ _
  try wtm_at "q"
  repeat wtm_at "w"
  refine W_cut (fun m1 n1 => n1 = news ∧ Ex2 fun t t' => m1 = Lv ["s", "amount", "lpos", "rpos"] [some (.str S t1), some (.int (n - (cutN n lead : Nat)) t), some (.int (cutN n lead : Nat) t'), none]) ?_ ?_
  · try wtm_at "q"
    refine W_While (fun r m1 n1 => n1 = news ∧ Ex3 fun (i : Nat) (t t' : Tok) => And3 (r = lead - i) (i ≤ cutN n lead) (m1 = Lv ["s", "amount", "lpos", "rpos"] [some (.str S t1), some (.int (n - i) t), some (.int i t'), none]))
      (n₀ := lead) ⟨rfl, 0, _, _, rfl, Nat.zero_le _, by rw [show n - ((0 : Nat) : Int) = n by omega]; rfl⟩ ?_ PassesOwn.never
    intro r m1 n1 hj91
    try wtm_at "q"
    obtain ⟨rfl, i, ta, ti, rfl, hi, rfl⟩ := hj91
    have c1 := cutN_le n lead
    repeat wtm_at "w"
    split
    · rename_i hne
      repeat wtm_at "w"
      refine W_itemS (fits_small (by omega) (by omega)) (by omega) (by omega) ?_
      intro _
      repeat wtm_at "w"
      split
      · rename_i hb
        repeat wtm_at "w"
        have hlt : i < lead := by
          rcases Nat.lt_or_ge i lead with q | q
          · exact q
          · have : i = lead := by omega
            subst this
            exact absurd hb (by rw [show (Txt.item S (i : Int) == Str.ofString " ") = false from hl']; decide)
        (repeat wtm_at "lf")
        exact ⟨lead - (i + 1), by omega, rfl, i + 1, _, _, rfl, cutN_more hi (by simpa using hne) hlt, by rw [show n - ((i + 1 : Nat) : Int) = n - i - 1 by omega, show ((i + 1 : Nat) : Int) = (i : Int) + 1 by omega]⟩
      · rename_i hb
        repeat wtm_at "w"
        have e : i = cutN n lead := cutN_stop hi (.inr (by
          rcases Nat.lt_or_ge i lead with q | q
          · exact absurd (hl i q) hb
          · omega))
        (repeat wtm_at "lf")
        exact ⟨rfl, rfl, _, _, by rw [← e]⟩
    · rename_i hne
      repeat wtm_at "w"
      have e : i = cutN n lead := cutN_stop hi (.inl (by simpa using hne))
      (repeat wtm_at "lf")
      exact ⟨rfl, rfl, _, _, by rw [← e]⟩
  · intro m1 n1 hj91
    try wtm_at "q"
    obtain ⟨rfl, ta, ti, rfl⟩ := hj91
    generalize hN2 : n - (cutN n lead : Nat) = n2
    repeat wtm_at "w"
    refine W_lenS (by omega) ?_
    intro _
    repeat wtm_at "w"
    refine W_cut (fun m1 n2' => n2' = n1 ∧ Ex3 fun o t t' => m1 = Lv ["s", "amount", "lpos", "rpos"] [some (.str S t1), o, some (.int (cutN n lead : Nat) t), some (.int ((S.length : Int) - 1 - (cutN n2 trail : Nat)) t')]) ?_ ?_
    · try wtm_at "q"
      refine W_While (fun r m1 n2' => n2' = n1 ∧ Ex4 fun (i : Nat) (t t' t'' : Tok) => And3 (r = trail - i) (i ≤ cutN n2 trail) (m1 = Lv ["s", "amount", "lpos", "rpos"] [some (.str S t1), some (.int (n2 - i) t''), some (.int (cutN n lead : Nat) t), some (.int ((S.length : Int) - 1 - i) t')]))
        (n₀ := trail) ⟨rfl, 0, _, _, _, rfl, Nat.zero_le _, by rw [show n2 - ((0 : Nat) : Int) = n2 by omega, show (S.length : Int) - 1 - ((0 : Nat) : Int) = (S.length : Int) - 1 by omega]⟩ ?_ PassesOwn.never
      intro r m1 n1 hj91
      try wtm_at "q"
      obtain ⟨rfl, i, tl, ti, ta, rfl, hi, rfl⟩ := hj91
      have c1 := cutN_le n2 trail
      repeat wtm_at "w"
      split
      · rename_i hne
        repeat wtm_at "w"
        refine W_itemS (fits_small (by omega) (by omega)) (by omega) (by omega) ?_
        intro _
        repeat wtm_at "w"
        split
        · rename_i hb
          repeat wtm_at "w"
          have hlt : i < trail := by
            rcases Nat.lt_or_ge i trail with q | q
            · exact q
            · have : i = trail := by omega
              subst this
              exact absurd hb (by rw [show (Txt.item S ((S.length : Int) - 1 - (i : Int)) == Str.ofString " ") = false from ht']; decide)
          (repeat wtm_at "lf")
          exact ⟨trail - (i + 1), by omega, rfl, i + 1, _, _, _, rfl, cutN_more hi (by simpa using hne) hlt, by rw [show (S.length : Int) - 1 - ((i + 1 : Nat) : Int) = (S.length : Int) - 1 - i - 1 by omega, show n2 - ((i + 1 : Nat) : Int) = n2 - i - 1 by omega]⟩
        · rename_i hb
          repeat wtm_at "w"
          have e : i = cutN n2 trail := cutN_stop hi (.inr (by
            rcases Nat.lt_or_ge i trail with q | q
            · exact absurd (ht i q) hb
            · omega))
          (repeat wtm_at "lf")
          exact ⟨rfl, rfl, _, _, _, by rw [← e]⟩
      · rename_i hne
        repeat wtm_at "w"
        have e : i = cutN n2 trail := cutN_stop hi (.inl (by simpa using hne))
        (repeat wtm_at "lf")
        exact ⟨rfl, rfl, _, _, _, by rw [← e]⟩
    · intro m1 n1 hj91
      try wtm_at "q"
      obtain ⟨rfl, o, t, t', rfl⟩ := hj91
      repeat wtm_at "w"
      subst hN2
      (repeat wtm_at "lf")
      exact ⟨_, _, _, _, _, _, rfl, rfl, rfl, by unfold sizeLine; omega, fun t' => by (repeat wtm_at "lf"); exact ⟨_, List.Sublist.refl _, h t'⟩⟩

noncomputable def sldF : List Int → List Int → List Int × List Int
  | [], ys => ([], ys)
  | xs, [] => (xs, [])
  | x :: xs, y :: ys =>
    if x < y then (x :: (sldF xs (y :: ys)).1, (sldF xs (y :: ys)).2)
    else if y < x then ((sldF (x :: xs) ys).1, y :: (sldF (x :: xs) ys).2)
    else sldF xs ys
termination_by xs ys => xs.length + ys.length
theorem sldF_l (ys : List Int) : sldF [] ys = ([], ys) := by unfold sldF; rfl
theorem sldF_r (xs : List Int) : sldF xs [] = (xs, []) := by cases xs <;> (unfold sldF; rfl)
theorem sldF_lt {x y : Int} {xs ys : List Int} (h : x < y) : sldF (x :: xs) (y :: ys) = (x :: (sldF xs (y :: ys)).1, (sldF xs (y :: ys)).2) := by rw [sldF, if_pos h]
theorem sldF_gt {x y : Int} {xs ys : List Int} (h : y < x) : sldF (x :: xs) (y :: ys) = ((sldF (x :: xs) ys).1, y :: (sldF (x :: xs) ys).2) := by rw [sldF, if_neg (by omega), if_pos h]
theorem sldF_eq {x : Int} {xs ys : List Int} : sldF (x :: xs) (x :: ys) = sldF xs ys := by rw [sldF, if_neg (by omega), if_neg (by omega)]
theorem sldF_len : ∀ (xs ys : List Int), (sldF xs ys).1.length ≤ xs.length ∧ (sldF xs ys).2.length ≤ ys.length
  | [], ys => by rw [sldF_l]; simp
  | x :: xs, [] => by rw [sldF_r]; simp
  | x :: xs, y :: ys => by
    rcases Int.lt_trichotomy x y with h | h | h
    · rw [sldF_lt h]; have := sldF_len xs (y :: ys); simp at *; omega
    · subst h; rw [sldF_eq]; have := sldF_len xs ys; simp at *; omega
    · rw [sldF_gt h]; have := sldF_len (x :: xs) ys; simp at *; omega
termination_by xs ys => xs.length + ys.length
theorem ints_at {vs : List Value} {xs : List Int} (h : IntsAre vs xs) : ∀ i, i < xs.length → ∃ t, vs[i]? = some (.int (xs.getD i 0) t) := by
  induction h with
  | nil => intro i hi; simp at hi
  | cons n t _ ih =>
    intro i hi
    cases i with
    | zero => exact ⟨t, by simp⟩
    | succ i => obtain ⟨t', h'⟩ := ih i (by simpa using hi); exact ⟨t', by simpa using h'⟩
theorem inc_ne {xs : List Int} (h : xs.Pairwise (· < ·)) {i j : Nat} (hij : i < j) (hj : j < xs.length) : xs.getD i 0 < xs.getD j 0 := by
  have := List.pairwise_iff_getElem.mp h i j (by omega) hj hij
  simpa [List.getD_eq_getElem?_getD, hj, show i < xs.length by omega] using this
theorem drop_at {xs : List Int} {i : Nat} (h : i < xs.length) : xs.drop i = xs.getD i 0 :: xs.drop (i + 1) := by
  rw [List.drop_eq_getElem_cons h]; simp [List.getD_eq_getElem?_getD, h]
noncomputable abbrev sldLv (p q mi un : Addr) (i j : Int) (ti tj : Tok) (o1 o2 : Option Value) : Loc := Lv ["expected", "actual", "i", "j", "missing", "unexpected", "e", "a"] [some (.ref p), some (.ref q), some (.int i ti), some (.int j tj), some (.ref mi), some (.ref un), o1, o2]
/- what stands when the lists' end is met -/
noncomputable def sldR (p q mi un : Addr) (xs ys : List Int) (news : Led) : Loc → Led → Value → Value → Prop := fun m' n' cls _ => cls = .type "IndexError" ∧ Ex12 fun (i j : Nat) (ti tj : Tok) (ms us : List Value) (nm nu : List Int) (km ku : Nat) (o1 o2 : Option Value) =>
    And6 (IntsAre ms nm) (IntsAre us nu) (nm ++ xs.drop i = (sldF xs ys).1) (nu ++ ys.drop j = (sldF xs ys).2) (n' = (un, listO us ku) :: (mi, listO ms km) :: news) (m' = sldLv p q mi un i j ti tj o1 o2)
/- at a turn's head -/
noncomputable def sldJ (p q mi un : Addr) (xs ys : List Int) (news : Led) : Nat → Loc → Led → Prop := fun r m' n' => Ex12 fun (i j : Nat) (ti tj : Tok) (ms us : List Value) (nm nu : List Int) (km ku : Nat) (o1 o2 : Option Value) =>
    And11 (r = (xs.length - i) + (ys.length - j)) (i ≤ xs.length) (j ≤ ys.length) (ms.length ≤ 1000 + i) (us.length ≤ 1000 + j) (IntsAre ms nm) (IntsAre us nu) (nm ++ (sldF (xs.drop i) (ys.drop j)).1 = (sldF xs ys).1) (nu ++ (sldF (xs.drop i) (ys.drop j)).2 = (sldF xs ys).2) (n' = (un, listO us ku) :: (mi, listO ms km) :: news) (m' = sldLv p q mi un i j ti tj o1 o2)
theorem sld_c {d : Dy} {m : Loc} {news : Led} {E : Value → Shared → Prop} {p q : Addr} {vs ws : List Value} {kv kw : Nat} {xs ys : List Int} {Q : Value → Loc → Led → Prop} (hr : 1 ≤ d.room) (hh : d.A.handled = none)
    (hp : (p, listO vs kv) ∈ news) (hq : (q, listO ws kw) ∈ news) (hv : IntsAre vs xs) (hw : IntsAre ws ys) (hx : xs.Pairwise (· < ·)) (hy : ys.Pairwise (· < ·)) (lx : xs.length ≤ 1000) (ly : ys.length ≤ 1000)
    (h : ∀ r mi un ms us km ku, IntsAre ms (sldF xs ys).1 → IntsAre us (sldF xs ys).2 → Q (.ref r) m ((r, tupO [.ref mi, .ref un] 0) :: (un, listO us ku) :: (mi, listO ms km) :: news)) :
    W d (call (.ref 155) [.ref p, .ref q]) m news Q E := by
  refine W_def (ps := ["expected", "actual"]) (LN := ["i", "j", "missing", "unexpected", "e", "a"]) (GN := ["IndexError"]) ["expected", "actual", "i", "j", "missing", "unexpected", "e", "a"] (by k_is) (by k_is) (Nm.of (by decide +kernel)) rfl hr rfl rfl ?_
  intro d' hr' hh' hO hN
  obtain ⟨outer, hO⟩ := hO
  show W d' _ (Lv ["expected", "actual", "i", "j", "missing", "unexpected", "e", "a"] [some _, some _, none, none, none, none, none, none]) _ _ _
  try wtm_at "q"
  have hh2 := hh'.trans hh
  have lv := hv.length
  have lw := hw.length
  have sL : (3000 : Nat) ≤ sizeLine := Nat.le_of_ble_eq_true rfl
  repeat wtm_at "w"
  refine W_newList (Nat.zero_le _) ?_
  intro mi
  repeat wtm_at "w"
  refine W_newList (Nat.zero_le _) ?_
  intro un
  repeat wtm_at "w"
  refine W_cut (fun m1 n1 => Ex8 fun ms us km ku o1 o2 o3 o4 => And4 (IntsAre ms (sldF xs ys).1) (IntsAre us (sldF xs ys).2) (((un, listO us ku) :: (mi, listO ms km) :: news).Sublist n1) (m1 = Lv ["expected", "actual", "i", "j", "missing", "unexpected", "e", "a"] [some (.ref p), some (.ref q), o1, o2, some (.ref mi), some (.ref un), o3, o4])) ?_ ?_
  · try wtm_at "q"
    refine W_While (sldJ p q mi un xs ys news) (n₀ := xs.length + ys.length) ⟨0, 0, _, _, [], [], [], [], _, _, _, _, by simp, Nat.zero_le _, Nat.zero_le _, by simp, by simp, .nil, .nil, by simp, by simp, rfl, rfl⟩ ?_ PassesOwn.never
    intro r m1 n1 hj91
    try wtm_at "q"
    obtain ⟨i, j, ti, tj, ms, us, nm, nu, km, ku, o1, o2, rfl, hi, hj, hlm, hlu, hm, hu, e1, e2, rfl, rfl⟩ := hj91
    repeat wtm_at "w"
    refine W_cons ?_
    refine W_Try (sldR p q mi un xs ys news) PySem.F.isExc_IndexError PySem.F.notTuple_IndexError hO rfl (Pe.glo hN (by wtm_at "mem") (by wtm_at "gb")) ?_ ?_
    · repeat wtm_at "w"
      rcases Nat.lt_or_ge i xs.length with hlt | hge
      rotate_left
      · refine W_itemL_out hh2 (by wtm_at "lmem") (by omega) (by omega) fun ev s a0 q => ⟨_, _, _, _, q, rfl, i, j, ti, tj, ms, us, nm, nu, km, ku, _, _, hm, hu, ?_, ?_, rfl, rfl⟩
        · rw [List.drop_eq_nil_of_le hge] at e1 ⊢; rw [sldF_l] at e1; exact e1
        · rw [List.drop_eq_nil_of_le hge] at e2; rw [sldF_l] at e2; exact e2
      obtain ⟨te, hve⟩ := ints_at hv i hlt
      refine W_itemL (by wtm_at "lmem") (by omega) hve ?_ (by omega)
      repeat wtm_at "w"
      rcases Nat.lt_or_ge j ys.length with jlt | jge
      rotate_left
      · refine W_itemL_out hh2 (by wtm_at "lmem") (by omega) (by omega) fun ev s a0 q => ⟨_, _, _, _, q, rfl, i, j, ti, tj, ms, us, nm, nu, km, ku, _, _, hm, hu, ?_, ?_, rfl, rfl⟩
        · rw [List.drop_eq_nil_of_le jge] at e1; rw [sldF_r] at e1; exact e1
        · rw [List.drop_eq_nil_of_le jge] at e2 ⊢; rw [sldF_r] at e2; exact e2
      obtain ⟨ta, hva⟩ := ints_at hw j jlt
      refine W_itemL (by wtm_at "lmem") (by omega) hva ?_ (by omega)
      repeat wtm_at "w"
      rw [drop_at hlt, drop_at jlt] at e1 e2
      split
      · rename_i hc
        have hc : xs.getD i 0 < ys.getD j 0 := by simpa using hc
        rw [sldF_lt hc] at e1 e2
        repeat wtm_at "w"
        refine W_append (by wtm_at "sel") (by omega) ?_
        (repeat wtm_at "lf")
        refine ⟨rfl, ?_⟩
        repeat wtm_at "w"
        refine W_cons (W_While0 ?_ (XE.passes hO rfl _))
        repeat wtm_at "w"
        rcases Nat.lt_or_ge (i + 1) xs.length with h1 | h1
        · obtain ⟨te2, hve2⟩ := ints_at hv (i + 1) h1
          refine W_itemL (by wtm_at "lmem") (by omega) hve2 ?_ (by omega)
          repeat wtm_at "w"
          have lt := inc_ne hx (show i < i + 1 by omega) h1
          (repeat wtm_at "lf")
          refine ⟨beq_eq_false_iff_ne.mpr (by omega), ?_⟩
          repeat wtm_at "w"
          (repeat wtm_at "lf")
          refine ⟨(xs.length - (i + 1)) + (ys.length - j), by omega, i + 1, j, _, _, _, _, _, _, _, _, _, _, rfl, by omega, by omega, by simp; omega, by omega, hm.append (.cons _ _ .nil), hu, ?_, ?_, rfl, rfl⟩
          · rw [drop_at jlt]; simpa using e1
          · rw [drop_at jlt]; exact e2
        · refine W_itemL_out hh2 (by wtm_at "lmem") (by omega) (by omega) fun ev s a0 z => ⟨_, _, _, _, z, rfl, i + 1, j, _, _, _, _, _, _, _, _, _, _, hm.append (.cons _ _ .nil), hu, ?_, ?_, rfl, rfl⟩
          · rw [List.drop_eq_nil_of_le h1, sldF_l] at e1; rw [List.drop_eq_nil_of_le h1]; simpa using e1
          · rw [List.drop_eq_nil_of_le h1, sldF_l] at e2; rw [drop_at jlt]; exact e2
      · rename_i hc
        have hc : ys.getD j 0 ≤ xs.getD i 0 := by simpa using hc
        repeat wtm_at "w"
        split
        · rename_i hc'
          have hc' : ys.getD j 0 < xs.getD i 0 := by simpa using hc'
          rw [sldF_gt hc'] at e1 e2
          repeat wtm_at "w"
          refine W_append (by wtm_at "sel") (by omega) ?_
          (repeat wtm_at "lf")
          refine ⟨rfl, ?_⟩
          repeat wtm_at "w"
          refine W_cons (W_While0 ?_ (XE.passes hO rfl _))
          repeat wtm_at "w"
          rcases Nat.lt_or_ge (j + 1) ys.length with h1 | h1
          · obtain ⟨te2, hve2⟩ := ints_at hw (j + 1) h1
            refine W_itemL (by wtm_at "lmem") (by omega) hve2 ?_ (by omega)
            repeat wtm_at "w"
            have lt := inc_ne hy (show j < j + 1 by omega) h1
            (repeat wtm_at "lf")
            refine ⟨beq_eq_false_iff_ne.mpr (by omega), ?_⟩
            repeat wtm_at "w"
            (repeat wtm_at "lf")
            refine ⟨(xs.length - i) + (ys.length - (j + 1)), by omega, i, j + 1, _, _, _, _, _, _, _, _, _, _, rfl, by omega, by omega, by omega, by simp; omega, hm, hu.append (.cons _ _ .nil), ?_, ?_, rfl, rfl⟩
            · rw [drop_at hlt]; exact e1
            · rw [drop_at hlt]; simpa using e2
          · refine W_itemL_out hh2 (by wtm_at "lmem") (by omega) (by omega) fun ev s a0 z => ⟨_, _, _, _, z, rfl, i, j + 1, _, _, _, _, _, _, _, _, _, _, hm, hu.append (.cons _ _ .nil), ?_, ?_, rfl, rfl⟩
            · rw [List.drop_eq_nil_of_le h1, sldF_r] at e1; rw [drop_at hlt]; exact e1
            · rw [List.drop_eq_nil_of_le h1, sldF_r] at e2; rw [List.drop_eq_nil_of_le h1]; simpa using e2
        · rename_i hc'
          have hc' : ys.getD j 0 = xs.getD i 0 := by
            have : xs.getD i 0 ≤ ys.getD j 0 := by simpa using hc'
            omega
          rw [hc', sldF_eq] at e1 e2
          repeat wtm_at "w"
          refine W_cons ?_
          refine W_TryFin (fun m' n' cls a0 => And4 (xs.length ≤ i + 1) (cls = .type "IndexError") (n' = (un, listO us ku) :: (mi, listO ms km) :: news) (∃ ti', m' = sldLv p q mi un (i + 1 : Nat) j ti' tj (some (.int (xs.getD i 0) te)) (some (.int (ys.getD j 0) ta)))) (sldR p q mi un xs ys news) hO rfl ?_ ?_
          · refine W_cons (W_While0 ?_ (XGE.passes hO rfl _))
            repeat wtm_at "w"
            rcases Nat.lt_or_ge (i + 1) xs.length with h1 | h1
            · obtain ⟨te2, hve2⟩ := ints_at hv (i + 1) h1
              refine W_itemL (by wtm_at "lmem") (by omega) hve2 ?_ (by omega)
              repeat wtm_at "w"
              have lt := inc_ne hx (show i < i + 1 by omega) h1
              (repeat wtm_at "lf")
              refine ⟨beq_eq_false_iff_ne.mpr (by omega), ?_⟩
              repeat wtm_at "w"
              (repeat wtm_at "lf")
              refine ⟨rfl, ?_⟩
              repeat wtm_at "w"
              refine W_cons (W_While0 ?_ (XE.passes hO rfl _))
              repeat wtm_at "w"
              rcases Nat.lt_or_ge (j + 1) ys.length with j1 | j1
              · obtain ⟨te3, hve3⟩ := ints_at hw (j + 1) j1
                refine W_itemL (by wtm_at "lmem") (by omega) hve3 ?_ (by omega)
                repeat wtm_at "w"
                have lt2 := inc_ne hy (show j < j + 1 by omega) j1
                (repeat wtm_at "lf")
                refine ⟨beq_eq_false_iff_ne.mpr (by omega), ?_⟩
                repeat wtm_at "w"
                (repeat wtm_at "lf")
                refine ⟨rfl, ?_⟩
                repeat wtm_at "w"
                (repeat wtm_at "lf")
                exact ⟨(xs.length - (i + 1)) + (ys.length - (j + 1)), by omega, i + 1, j + 1, _, _, _, _, _, _, _, _, _, _, rfl, by omega, by omega, by omega, by omega, hm, hu, e1, e2, rfl, rfl⟩
              · refine W_itemL_out hh2 (by wtm_at "lmem") (by omega) (by omega) fun ev s a0 z => ⟨_, _, _, _, z, rfl, i + 1, j + 1, _, _, _, _, _, _, _, _, _, _, hm, hu, ?_, ?_, rfl, rfl⟩
                · rw [List.drop_eq_nil_of_le j1, sldF_r] at e1; exact e1
                · rw [List.drop_eq_nil_of_le j1, sldF_r] at e2; rw [List.drop_eq_nil_of_le j1]; exact e2
            · exact W_itemL_outG hh2 (by wtm_at "lmem") (by omega) (by omega) fun ev s a0 z => ⟨_, _, _, _, z, h1, rfl, rfl, _, rfl⟩
          · intro e T oe oT m' n' cls a0 hj91 hoe
            try wtm_at "q"
            obtain ⟨h1, rfl, rfl, ti', rfl⟩ := hj91
            rw [List.drop_eq_nil_of_le h1, sldF_l] at e1 e2
            repeat wtm_at "w"
            refine W_cons (W_While0 ?_ (XE.passes (d := ((d'.hide e (· = oe)).hide T (· = oT)).mark e) hO rfl _))
            repeat wtm_at "w"
            rcases Nat.lt_or_ge (j + 1) ys.length with j1 | j1
            · obtain ⟨te3, hve3⟩ := ints_at hw (j + 1) j1
              refine W_itemL (by wtm_at "lmem") (by omega) hve3 ?_ (by omega)
              repeat wtm_at "w"
              have lt2 := inc_ne hy (show j < j + 1 by omega) j1
              (repeat wtm_at "lf")
              refine ⟨beq_eq_false_iff_ne.mpr (by omega), ?_⟩
              repeat wtm_at "w"
              (repeat wtm_at "lf")
              refine ⟨rfl, rfl, i + 1, j + 1, _, _, _, _, _, _, _, _, _, _, hm, hu, ?_, e2, rfl, rfl⟩
              rw [List.drop_eq_nil_of_le h1]; exact e1
            · refine W_itemL_outH (e₁ := e) rfl (.tail _ (.head _)) (fun o ho => by subst ho; exact hoe) (by wtm_at "lmem") (by omega) (by omega) fun ev s a0 z => ⟨_, _, _, _, z, rfl, i + 1, j + 1, _, _, _, _, _, _, _, _, _, _, hm, hu, ?_, e2, rfl, rfl⟩
              rw [List.drop_eq_nil_of_le h1]; exact e1
    · intro e m' n' cls a0 hj91
      try wtm_at "q"
      obtain ⟨rfl, i, j, ti, tj, ms, us, nm, nu, km, ku, o1, o2, hm, hu, e1, e2, rfl, rfl⟩ := hj91
      (repeat wtm_at "lf")
      refine ⟨"IndexError", rfl, PySem.F.self_IndexError, ?_⟩
      have l1 := hm.length
      have l2 := hu.length
      have b1 : nm.length + (xs.length - i) ≤ 2000 := by
        have := congrArg List.length e1
        have := sldF_len xs ys
        simp at *; omega
      have b2 : nu.length + (ys.length - j) ≤ 2000 := by
        have := congrArg List.length e2
        have := sldF_len xs ys
        simp at *; omega
      repeat wtm_at "w"
      (repeat wtm_at "lf")
      refine ⟨p, vs, kv, i, ti, rfl, by wtm_at "lmem", rfl, by omega, by omega, ?_⟩
      intro l'
      repeat wtm_at "w"
      refine W_extend (by wtm_at "sel") (by wtm_at "lmem") (by simp; omega) ?_
      intro k'
      (repeat wtm_at "lf")
      refine ⟨rfl, ?_⟩
      repeat wtm_at "w"
      (repeat wtm_at "lf")
      refine ⟨q, ws, kw, j, tj, rfl, by wtm_at "lmem", rfl, by omega, by omega, ?_⟩
      intro l''
      repeat wtm_at "w"
      refine W_extend (by wtm_at "sel") (by wtm_at "lmem") (by simp; omega) ?_
      intro k''
      (repeat wtm_at "lf")
      refine ⟨rfl, ?_⟩
      repeat wtm_at "w"
      (repeat wtm_at "lf")
      exact ⟨rfl, _, _, k', k'', _, _, _, _, e1 ▸ hm.append (hv.drop i), e2 ▸ hu.append (hw.drop j), (List.sublist_cons_self _ _).trans (List.sublist_cons_self _ _), rfl⟩
  · intro m1 n1 hj91
    try wtm_at "q"
    obtain ⟨ms, us, km, ku, o1, o2, o3, o4, hms, hus, hsub, rfl⟩ := hj91
    repeat wtm_at "w"
    refine W_newTuple (Nat.le_of_ble_eq_true rfl) ?_
    intro r
    (repeat wtm_at "lf")
    exact ⟨_, hsub.cons_cons _, h _ _ _ _ _ _ _ hms hus⟩

/- _strip_padding upon blanks alone, with an amount below nought: IndexError -/
theorem strip_x {d : Dy} {m : Loc} {news : Led} {E : Value → Shared → Prop} {S : Str} {n : Int} {t1 t2 : Tok} {Q : Value → Loc → Led → Prop} (hr : 1 ≤ d.room) (hh : d.A.handled = none)
    (hz : S.length ≤ 1000000) (hn : n < 0) (hl : ∀ i : Nat, i < S.length → blankAt S i = true)
    (hx : ∀ ev s a0, XF d m news (.type "IndexError") a0 ev s → E ev s) : W d (call (.ref 28) [.str S t1, .int n t2]) m news Q E := by
  refine W_defX (ps := ["s", "amount"]) (LN := ["lpos", "rpos"]) (GN := ["len"]) ["s", "amount", "lpos", "rpos"] (fun m' n' cls a0 => n' = news ∧ cls = .type "IndexError") (by k_is) (by k_is) (Nm.of (by decide +kernel)) rfl hr rfl rfl ?_ ?_
  · intro m' n' cls a0 hj91
    try wtm_at "q"
    obtain ⟨rfl, rfl⟩ := hj91
    (repeat wtm_at "lf")
    exact ⟨_, List.Sublist.refl _, fun ev s q => hx ev s a0 q⟩
  intro d' hr' hh' hO hN
  obtain ⟨outer, hO⟩ := hO
  show W d' _ (Lv ["s", "amount", "lpos", "rpos"] [some _, some _, none, none]) _ _ _
  try wtm_at "q"
  repeat wtm_at "w"
  refine W_cut (fun m1 n1 => False) ?_ (fun _ _ q => q.elim)
  refine W_While (fun r m1 n1 => n1 = news ∧ Ex3 fun (i : Nat) (t t' : Tok) => And3 (r = S.length - i) (i ≤ S.length) (m1 = Lv ["s", "amount", "lpos", "rpos"] [some (.str S t1), some (.int (n - i) t), some (.int i t'), none]))
      (n₀ := S.length) ⟨rfl, 0, _, _, rfl, Nat.zero_le _, by rw [show n - ((0 : Nat) : Int) = n by omega]; rfl⟩ ?_ (XE.passes hO rfl _)
  intro r m1 n1 hj91
  try wtm_at "q"
  obtain ⟨rfl, i, ta, ti, rfl, hi, rfl⟩ := hj91
  repeat wtm_at "w"
  try rw [if_pos (by simp; omega)]
  repeat wtm_at "w"
  rcases Nat.lt_or_ge i S.length with hlt | hge
  · refine W_itemS (fits_small (by omega) (by omega)) (by omega) (by omega) ?_
    intro _
    repeat wtm_at "w"
    rw [if_pos (hl i hlt)]
    repeat wtm_at "w"
    (repeat wtm_at "lf")
    exact ⟨S.length - (i + 1), by omega, rfl, i + 1, _, _, rfl, hlt, by rw [show n - ((i + 1 : Nat) : Int) = n - i - 1 by omega, show ((i + 1 : Nat) : Int) = (i : Int) + 1 by omega]⟩
  · exact W_itemS_out (hh'.trans hh) (fits_small (by omega) (by omega)) (by omega) fun ev s a0 q => ⟨_, _, _, _, q, rfl, rfl⟩
/- _law_bare, a text with a mark -/
theorem bare_c {d : Dy} {m : Loc} {news : Led} {E : Value → Shared → Prop} {S : Str} {t1 : Tok} {Q : Value → Loc → Led → Prop} {lead trail : Nat} (hr : 2 ≤ d.room) (hh : d.A.handled = none)
    (hz : S.length ≤ 1000000) (hlead : lead < S.length) (htrail : trail < S.length) (hl : ∀ i : Nat, i < lead → blankAt S i = true) (hl' : blankAt S lead = false)
    (ht : ∀ j : Nat, j < trail → blankAt S ((S.length : Int) - 1 - j) = true) (ht' : blankAt S ((S.length : Int) - 1 - trail) = false)
    (h : ∀ t, Q (.str (stripF S (-1) lead trail) t) m news) : W d (call (.ref 183) [.str S t1]) m news Q E := by
  refine W_def (ps := ["row"]) (LN := []) (GN := ["_strip_padding", "IndexError"]) ["row"] (by k_is) (by k_is) (Nm.of (by decide +kernel)) rfl (by omega) rfl rfl ?_
  intro d' hr' hh' hO hN
  obtain ⟨outer, hO⟩ := hO
  show W d' _ (Lv ["row"] [some _]) _ _ _
  try wtm_at "q"
  refine W_cons ?_
  refine W_Try (fun _ _ _ _ => False) PySem.F.isExc_IndexError PySem.F.notTuple_IndexError hO rfl (Pe.glo hN (by wtm_at "mem") (by wtm_at "gb")) ?_ (fun _ _ _ _ _ q => q.elim)
  repeat wtm_at "w"
  refine strip_c (by omega) hz hlead htrail hl hl' ht ht' ?_
  intro t
  (repeat wtm_at "lf")
  exact ⟨_, List.Sublist.refl _, h t⟩
/- _law_bare, blanks alone -/
theorem bare_x {d : Dy} {m : Loc} {news : Led} {E : Value → Shared → Prop} {S : Str} {t1 : Tok} {Q : Value → Loc → Led → Prop} (hr : 2 ≤ d.room) (hh : d.A.handled = none)
    (hz : S.length ≤ 1000000) (hl : ∀ i : Nat, i < S.length → blankAt S i = true) (h : ∀ t, Q (.str (Str.ofString "") t) m news) : W d (call (.ref 183) [.str S t1]) m news Q E := by
  refine W_def (ps := ["row"]) (LN := []) (GN := ["_strip_padding", "IndexError"]) ["row"] (by k_is) (by k_is) (Nm.of (by decide +kernel)) rfl (by omega) rfl rfl ?_
  intro d' hr' hh' hO hN
  obtain ⟨outer, hO⟩ := hO
  show W d' _ (Lv ["row"] [some _]) _ _ _
  try wtm_at "q"
  refine W_cons ?_
  refine W_Try (fun m' n' cls a0 => m' = Lv ["row"] [some (.str S t1)] ∧ n' = news ∧ cls = .type "IndexError") PySem.F.isExc_IndexError PySem.F.notTuple_IndexError hO rfl (Pe.glo hN (by wtm_at "mem") (by wtm_at "gb")) ?_ ?_
  · repeat wtm_at "w"
    refine strip_x (by omega) (hh'.trans hh) hz (by omega) hl fun ev s a0 q => ⟨_, _, _, _, q, rfl, rfl, rfl⟩
  · intro e m' n' cls a0 hj91
    try wtm_at "q"
    obtain ⟨rfl, rfl, rfl⟩ := hj91
    (repeat wtm_at "lf")
    refine ⟨"IndexError", rfl, PySem.F.self_IndexError, ?_⟩
    repeat wtm_at "w"
    (repeat wtm_at "lf")
    exact ⟨_, List.Sublist.refl _, h _⟩

theorem min_cut (a : Nat) (k : Nat) : (if (k : Int) < (a : Int) then (k : Int) else (a : Int)) = (cutN a k : Nat) := by
  rcases cutN_is (a : Int) k with ⟨x, y⟩ | ⟨x, y⟩ <;> rw [y] <;> split <;> omega
theorem min_cut2 (n : Int) (h : 0 ≤ n) (k : Nat) : (if (k : Int) < n then (k : Int) else n) = (cutN n k : Nat) := by
  rcases cutN_is n k with ⟨x, y⟩ | ⟨x, y⟩ <;> rw [y] <;> split <;> omega
theorem blanks_c {d : Dy} {m : Loc} {news : Led} {E : Value → Shared → Prop} {S : Str} {t1 t2 t3 : Tok} {Q : Value → Loc → Led → Prop} {lead trail : Nat} (hr : 2 ≤ d.room) (hh : d.A.handled = none)
    (hz : S.length ≤ 1000) (hlead : lead < S.length) (htrail : trail < S.length) (hl : ∀ i : Nat, i < lead → blankAt S i = true) (hl' : blankAt S lead = false)
    (ht : ∀ j : Nat, j < trail → blankAt S ((S.length : Int) - 1 - j) = true) (ht' : blankAt S ((S.length : Int) - 1 - trail) = false)
    (h : Q (.bool true) m news) : W d (call (.ref 190) [.str S t1, .int lead t2, .int trail t3]) m news Q E := by
  refine W_def (ps := ["row", "ahead", "behind"]) (LN := ["amount", "front", "back"]) (GN := ["range", "min", "_strip_padding", "len"]) ["row", "ahead", "behind", "amount", "front", "back"] (by k_is) (by k_is) (Nm.of (by decide +kernel)) rfl (by omega) rfl rfl ?_
  intro d' hr' hh' hO hN
  show W d' _ (Lv ["row", "ahead", "behind", "amount", "front", "back"] [some _, some _, some _, none, none, none]) _ _ _
  try wtm_at "q"
  have hh2 := hh'.trans hh
  refine W_cut (fun m1 n1 => news.Sublist n1 ∧ Ex3 fun o1 o2 o3 => m1 = Lv ["row", "ahead", "behind", "amount", "front", "back"] [some (.str S t1), some (.int lead t2), some (.int trail t3), o1, o2, o3]) ?_ ?_
  · try wtm_at "q"
    refine W_ForRange (n := lead + trail + 3) (fun i m1 n1 => news.Sublist n1 ∧ Ex3 fun o1 o2 o3 => m1 = Lv ["row", "ahead", "behind", "amount", "front", "back"] [some (.str S t1), some (.int lead t2), some (.int trail t3), o1, o2, o3])
      (by omega) hh2 ?_ ?_ ?_ PassesOwn.never
    · repeat wtm_at "w"
      (repeat wtm_at "lf")
      exact ⟨_, _, _, _, rfl, .head _, List.sublist_cons_self .., _, _, _, rfl⟩
    · intro it i t m₁ n₁ hi hj91
      try wtm_at "q"
      obtain ⟨hn, o1, o2, o3, rfl⟩ := hj91
      repeat wtm_at "w"
      refine W_min hh2 ?_
      intro _
      rw [min_cut]
      have c1 := cutN_le (i : Int) lead
      have c2 : (cutN (i : Int) lead : Int) ≤ i := by rcases cutN_is (i : Int) lead with ⟨x, y⟩ | ⟨x, y⟩ <;> omega
      repeat wtm_at "w"
      refine W_min hh2 ?_
      intro _
      rw [min_cut2 _ (by omega)]
      repeat wtm_at "w"
      refine strip_c (by show 1 ≤ d'.room; omega) (by omega) hlead htrail hl hl' ht ht' ?_
      intro _
      repeat wtm_at "w"
      refine W_lenS (by omega) ?_
      intro _
      repeat wtm_at "w"
      (repeat wtm_at "lf")
      refine ⟨_, _, _, _, _, _, rfl, rfl, rfl, by unfold sizeLine; omega, fun t' => ?_⟩
      repeat wtm_at "w"
      rw [if_neg]
      · repeat wtm_at "w"
        (repeat wtm_at "lf")
        exact ⟨hn, _, _, _, rfl⟩
      · have e : (S.length : Int) - 1 - (cutN ((i : Int) - (cutN (i : Int) lead : Nat)) trail : Nat) + 1 = (S.length : Int) - (cutN ((i : Int) - (cutN (i : Int) lead : Nat)) trail : Nat) := by omega
        simp only [stripF, e, bne_self_eq_false, Bool.false_eq_true, not_false_eq_true]
    · intro m₁ n₁ hj91
      try wtm_at "q"
      obtain ⟨hn, o1, o2, o3, rfl⟩ := hj91
      (repeat wtm_at "lf")
      exact ⟨rfl, hn, o1, o2, o3, rfl⟩
  · intro m₁ n₁ hj91
    try wtm_at "q"
    obtain ⟨hn, o1, o2, o3, rfl⟩ := hj91
    repeat wtm_at "w"
    (repeat wtm_at "lf")
    exact ⟨_, hn, h⟩

noncomputable abbrev mkS (l : List Nat) : Str := ⟨l.toArray⟩
noncomputable def facF (k : Nat) : Int := ([3, 7, 11] : List Int).getD k 0
noncomputable def powT (w f : Int) (n : Nat) : Int := (List.range n).foldl (fun w _ => timesF w f) w
theorem powT_succ (w f : Int) (n : Nat) : powT w f (n + 1) = timesF (powT w f n) f := by unfold powT; rw [List.range_succ, List.foldl_append]; rfl
noncomputable def wAt (ps : List Nat) (i : Nat) : Int := (List.range i).foldl (fun w k => powT w (facF k) (ps.getD k 0)) 1
theorem wAt_succ (ps : List Nat) (i : Nat) : wAt ps (i + 1) = powT (wAt ps i) (facF i) (ps.getD i 0) := by unfold wAt; rw [List.range_succ, List.foldl_append]; rfl
noncomputable def bitsL : Nat → Nat → List Nat
  | 0, _ => []
  | f + 1, w => if w = 0 then [] else (if w % 2 = 1 then 120 else 32) :: bitsL f (w / 2)
theorem mkS_app (l : List Nat) (c : Nat) : (mkS l ++ mkS [c] : Str) = mkS (l ++ [c]) := by
  apply Str.ext'
  rw [Str.cps_append]
  simp
theorem text_item (w : Nat) : Txt.item (Str.ofString " x") ((w % 2 : Nat) : Int) = mkS [if w % 2 = 1 then 120 else 32] := by
  rcases (by omega : w % 2 = 0 ∨ w % 2 = 1) with h | h <;> rw [h] <;> decide +kernel
theorem fac_at {i : Nat} (h : i < 3) (ta tb tc : Tok) : ∃ tv, ([.int 3 ta, .int 7 tb, .int 11 tc] : List Value)[i]? = some (.int (facF i) tv) := by
  rcases (by omega : i = 0 ∨ i = 1 ∨ i = 2) with rfl | rfl | rfl <;> exact ⟨_, rfl⟩
theorem text_c {d : Dy} {m : Loc} {news : Led} {E : Value → Shared → Prop} {a : Addr} {o : Obj} {p0 p1 p2 : Nat} {t0 t1 t2 : Tok} {w : Nat} {Q : Value → Loc → Led → Prop} (hr : 2 ≤ d.room) (hh : d.A.handled = none)
    (ho : IsSeqO o [.int p0 t0, .int p1 t1, .int p2 t2]) (hm : (a, o) ∈ news) (hp : p0 < 1000 ∧ p1 < 1000 ∧ p2 < 1000) (hw : wAt [p0, p1, p2] 3 = (w : Int)) (hw2 : w < 2 ^ 20)
    (h : ∀ t, Q (.str (mkS (bitsL 20 w)) t) m news) : W d (call (.ref 176) [.ref a]) m news Q E := by
  refine W_def (ps := ["powers"]) (LN := ["whole", "k", "turn", "text"]) (GN := ["range", "_law_times"]) ["powers", "whole", "k", "turn", "text"] (by k_is) (by k_is) (Nm.of (by decide +kernel)) rfl (by omega) rfl rfl ?_
  intro d' hr' hh' hO hN
  show W d' _ (Lv ["powers", "whole", "k", "turn", "text"] [some _, none, none, none, none]) _ _ _
  try wtm_at "q"
  have hh2 := hh'.trans hh
  repeat wtm_at "w"
  refine W_cut (fun m1 n1 => news.Sublist n1 ∧ Ex3 fun t o1 o2 => m1 = Lv ["powers", "whole", "k", "turn", "text"] [some (.ref a), some (.int (wAt [p0, p1, p2] 3) t), o1, o2, none]) ?_ ?_
  · try wtm_at "q"
    refine W_ForRange (n := 3) (fun i m1 n1 => news.Sublist n1 ∧ Ex3 fun t o1 o2 => m1 = Lv ["powers", "whole", "k", "turn", "text"] [some (.ref a), some (.int (wAt [p0, p1, p2] i) t), o1, o2, none])
      (by omega) hh2 ?_ ?_ ?_ PassesOwn.never
    · repeat wtm_at "w"
      (repeat wtm_at "lf")
      exact ⟨_, _, _, _, rfl, .head _, List.sublist_cons_self .., _, _, _, rfl⟩
    · intro it i tk m₁ n₁ hi hj91
      try wtm_at "q"
      obtain ⟨hn, tw, o1, o2, rfl⟩ := hj91
      repeat wtm_at "w"
      have hv : ∃ tv, ([.int p0 t0, .int p1 t1, .int p2 t2] : List Value)[(i : Int).toNat]? = some (.int (([p0, p1, p2] : List Nat).getD i 0 : Nat) tv) := by
        rcases (by omega : i = 0 ∨ i = 1 ∨ i = 2) with rfl | rfl | rfl <;> exact ⟨_, rfl⟩
      obtain ⟨tv, hv⟩ := hv
      have hpn : ([p0, p1, p2] : List Nat).getD i 0 < 1000 := by rcases (by omega : i = 0 ∨ i = 1 ∨ i = 2) with rfl | rfl | rfl <;> simp [hp]
      refine W_cut (fun m2 n2 => news.Sublist n2 ∧ Ex3 fun t o2 o3 => m2 = Lv ["powers", "whole", "k", "turn", "text"] [some (.ref a), some (.int (wAt [p0, p1, p2] (i + 1)) t), o2, o3, none]) ?_ ?_
      · try wtm_at "q"
        refine W_ForRange (n := ([p0, p1, p2] : List Nat).getD i 0) (fun j m1 n1 => news.Sublist n1 ∧ Ex2 fun t o3 => m1 = Lv ["powers", "whole", "k", "turn", "text"] [some (.ref a), some (.int (powT (wAt [p0, p1, p2] i) (facF i) j) t), some (.int i tk), o3, none])
          (by omega) hh2 ?_ ?_ ?_ PassesOwn.never
        · repeat wtm_at "w"
          refine W_itemQ ho (hn.subset hm) (by omega) (by omega) hv ?_
          repeat wtm_at "w"
          (repeat wtm_at "lf")
          exact ⟨_, _, _, _, rfl, .head _, hn.trans (List.sublist_cons_self ..), _, _, rfl⟩
        · intro it2 j t2 m₂ n₂ hj hj91
          try wtm_at "q"
          obtain ⟨hn2, tw2, o3, rfl⟩ := hj91
          repeat wtm_at "w"
          refine W_newTuple (Nat.le_of_ble_eq_true rfl) ?_
          intro tp
          repeat wtm_at "w"
          refine W_itemT (n := i) (.head _) (by rw [seqIndex_in (by omega) (by simp; omega)]; simp) (fac_at hi _ _ _).choose_spec ?_ (by omega) (by omega)
          repeat wtm_at "w"
          refine times_c (by show 1 ≤ d'.room; omega) hh2 ?_
          intro _
          repeat wtm_at "w"
          rw [← powT_succ]
          (repeat wtm_at "lf")
          exact ⟨hn2.trans (List.sublist_cons_self ..), _, _, rfl⟩
        · intro m₂ n₂ hj91
          try wtm_at "q"
          obtain ⟨hn2, tw2, o3, rfl⟩ := hj91
          rw [← wAt_succ]
          (repeat wtm_at "lf")
          exact ⟨rfl, hn2, _, _, _, rfl⟩
      · intro m₂ n₂ hj91
        try wtm_at "q"
        obtain ⟨hn2, tw2, o2, o3, rfl⟩ := hj91
        repeat wtm_at "w"
        (repeat wtm_at "lf")
        exact ⟨hn2, _, _, _, rfl⟩
    · intro m₁ n₁ hj91
      try wtm_at "q"
      obtain ⟨hn, tw, o1, o2, rfl⟩ := hj91
      (repeat wtm_at "lf")
      exact ⟨rfl, hn, _, _, _, rfl⟩
  · intro m₁ n₁ hj91
    try wtm_at "q"
    obtain ⟨hn, tw, o1, o2, rfl⟩ := hj91
    repeat wtm_at "w"
    rw [hw]
    refine W_cut (fun m2 n2 => news.Sublist n2 ∧ Ex4 fun t o0 o1 o2 => m2 = Lv ["powers", "whole", "k", "turn", "text"] [some (.ref a), o0, o1, o2, some (.str (mkS (bitsL 20 w)) t)]) ?_ ?_
    · try wtm_at "q"
      refine W_While (fun r m1 n1 => news.Sublist n1 ∧ Ex7 fun (l : List Nat) (f x : Nat) (t t' : Tok) (o1 o2 : Option Value) => And6 (r = x) (l.length ≤ 100) (l.length + f = 20) (x < 2 ^ f) (l ++ bitsL f x = bitsL 20 w) (m1 = Lv ["powers", "whole", "k", "turn", "text"] [some (.ref a), some (.int (x : Nat) t), o1, o2, some (.str (mkS l) t')]))
        (n₀ := w) ⟨hn, [], 20, w, _, _, _, _, rfl, by decide, rfl, hw2, rfl, rfl⟩ ?_ PassesOwn.never
      intro r m1 n1 hj91
      try wtm_at "q"
      obtain ⟨hn, l, f, x, t, t', o1, o2, rfl, hl, hf, hx, hb, rfl⟩ := hj91
      repeat wtm_at "w"
      split
      · rename_i hpos
        have hx0 : 0 < r := by simpa using hpos
        repeat wtm_at "w"
        refine W_mod (by decide) ?_
        intro _
        have e1 : (r : Int).fmod 2 = ((r % 2 : Nat) : Int) := by rw [Int.fmod_eq_emod_of_nonneg _ (by decide)]; omega
        rw [e1]
        refine W_itemS (fits_small (by omega) (by omega)) (by have : (Str.ofString " x").length = 2 := (by decide +kernel); omega) (by have : (Str.ofString " x").length = 2 := (by decide +kernel); omega) ?_
        intro _
        rw [text_item]
        refine W_addS ?_ (by simp [sizeLine, Str.length]; omega)
        intro _
        rw [mkS_app]
        repeat wtm_at "w"
        refine W_div (by decide) (PyProof.noPylong_small (by decide)) ?_
        intro _
        have e2 : (r : Int).fdiv 2 = ((r / 2 : Nat) : Int) := by rw [Int.fdiv_eq_ediv_of_nonneg _ (by decide)]; omega
        rw [e2]
        repeat wtm_at "w"
        obtain ⟨f, rfl⟩ : ∃ f', f = f' + 1 := by
          cases f with
          | zero => simp at hx; omega
          | succ f => exact ⟨f, rfl⟩
        (repeat wtm_at "lf")
        refine ⟨r / 2, by omega, hn, l ++ [if r % 2 = 1 then 120 else 32], f, r / 2, _, _, _, _, rfl, by simp; omega, by simp; omega, by rw [Nat.pow_succ] at hx; omega, ?_, rfl⟩
        rw [← hb, bitsL, if_neg (show ¬ r = 0 by omega)]
        simp
      · rename_i hpos
        have hx0 : r = 0 := by simpa using hpos
        subst hx0
        have : bitsL f 0 = [] := by cases f <;> simp [bitsL]
        rw [this, List.append_nil] at hb
        subst hb
        repeat wtm_at "w"
        (repeat wtm_at "lf")
        exact ⟨rfl, hn, _, _, _, _, rfl⟩
    · intro m2 n2 hj91
      try wtm_at "q"
      obtain ⟨hn2, t, o0, o1, o2, rfl⟩ := hj91
      repeat wtm_at "w"
      (repeat wtm_at "lf")
      exact ⟨_, hn2, h _⟩

noncomputable def markAt (l : List Nat) (k : Nat) : Bool := l.getD k 0 == 120
noncomputable def onesF (l : List Nat) (sh : Int) (i : Nat) : List Int := (List.range i).filterMap fun k => if markAt l k then some ((k : Int) + sh) else none
theorem onesF_succ (l : List Nat) (sh : Int) (i : Nat) : onesF l sh (i + 1) = onesF l sh i ++ if markAt l i then [(i : Int) + sh] else [] := by
  unfold onesF
  rw [List.range_succ, List.filterMap_append]
  congr 1
  by_cases h : markAt l i = true
  · simp [h]
  · simp [h]
theorem onesF_mem {l : List Nat} {sh : Int} {i : Nat} {x : Int} : x ∈ onesF l sh i ↔ ∃ k, And3 (k < i) (markAt l k = true) (x = (k : Int) + sh) := by
  unfold onesF
  rw [List.mem_filterMap]
  constructor
  · rintro ⟨k, hk, h⟩
    split at h
    · rename_i hm
      exact ⟨k, List.mem_range.mp hk, hm, (Option.some.inj h).symm⟩
    · cases h
  · rintro ⟨k, hk, hm, rfl⟩
    exact ⟨k, List.mem_range.mpr hk, by rw [if_pos hm]⟩
theorem onesF_len (l : List Nat) (sh : Int) (i : Nat) : (onesF l sh i).length ≤ i := by
  unfold onesF
  exact Nat.le_trans (List.length_filterMap_le _ _) (by simp)
theorem onesF_inc (l : List Nat) (sh : Int) : ∀ i, (onesF l sh i).Pairwise (· < ·)
  | 0 => by simp [onesF]
  | i + 1 => by
    rw [onesF_succ, List.pairwise_append]
    refine ⟨onesF_inc l sh i, ?_, fun a ha b hb => ?_⟩
    · split <;> simp
    · obtain ⟨k, hk, _, rfl⟩ := onesF_mem.mp ha
      split at hb
      · rw [List.mem_singleton] at hb; omega
      · cases hb
theorem sldF_mem : ∀ (xs ys : List Int), xs.Pairwise (· < ·) → ys.Pairwise (· < ·) → ∀ x, x ∈ (sldF xs ys).1 ++ (sldF xs ys).2 ↔ (x ∈ xs ∧ x ∉ ys) ∨ (x ∉ xs ∧ x ∈ ys)
  | [], ys, _, _, x => by rw [sldF_l]; simp
  | a :: xs, [], _, _, x => by rw [sldF_r]; simp
  | a :: xs, b :: ys, hx, hy, x => by
    have hx' := List.pairwise_cons.mp hx
    have hy' := List.pairwise_cons.mp hy
    rcases Int.lt_trichotomy a b with h | h | h
    · rw [sldF_lt h]
      have ih := sldF_mem xs (b :: ys) hx'.2 hy x
      have na : a ∉ b :: ys := by
        intro hm
        rcases List.mem_cons.mp hm with e | hm
        · omega
        · have := hy'.1 a hm; omega
      have na' : a ∉ xs := fun hm => by have := hx'.1 a hm; omega
      by_cases e : x = a
      · subst e
        simp only [List.cons_append, List.mem_cons_self, true_and, true_iff, not_true_eq_false, false_and, or_false]
        exact na
      · rw [List.cons_append, List.mem_cons, ih, List.mem_cons (a := x) (b := a)]
        simp [e]
    · subst h
      rw [sldF_eq]
      have ih := sldF_mem xs ys hx'.2 hy'.2 x
      have na : a ∉ ys := fun hm => by have := hy'.1 a hm; omega
      have na' : a ∉ xs := fun hm => by have := hx'.1 a hm; omega
      rw [ih]
      by_cases e : x = a
      · subst e; simp [na, na']
      · simp [e]
    · rw [sldF_gt h]
      have ih := sldF_mem (a :: xs) ys hx hy'.2 x
      have na : b ∉ a :: xs := by
        intro hm
        rcases List.mem_cons.mp hm with e | hm
        · omega
        · have := hx'.1 b hm; omega
      have na' : b ∉ ys := fun hm => by have := hy'.1 b hm; omega
      by_cases e : x = b
      · subst e
        simp only [List.mem_append, List.mem_cons_self, or_true, true_iff, not_true_eq_false, and_false, false_or, and_true]
        exact na
      · rw [List.mem_append, List.mem_cons (a := x) (b := b)]
        rw [List.mem_append] at ih
        simp only [e, false_or]
        rw [ih]
        simp [e]
termination_by xs ys => xs.length + ys.length
/- the longer one, the shorter one laid on it from sh on and taken out -/
noncomputable def sumF (l r : List Nat) (sh : Nat) : List Nat := (List.range l.length).map fun k => if (markAt l k != (decide (sh ≤ k) && (decide (k - sh < r.length) && markAt r (k - sh)))) then 120 else 32
theorem sumF_at (l r : List Nat) (sh k : Nat) (hk : k < l.length) : ((sldF (onesF l 0 l.length) (onesF r sh r.length)).1 ++ (sldF (onesF l 0 l.length) (onesF r sh r.length)).2).any (· == (k : Int)) = (markAt l k != (decide (sh ≤ k) && (decide (k - sh < r.length) && markAt r (k - sh)))) := by
  have h := sldF_mem _ _ (onesF_inc l 0 l.length) (onesF_inc r sh r.length) (k : Int)
  have h1 : (k : Int) ∈ onesF l 0 l.length ↔ markAt l k = true := by
    rw [onesF_mem]
    constructor
    · rintro ⟨j, hj, hm, e⟩
      have : j = k := by omega
      subst this; exact hm
    · intro hm
      exact ⟨k, hk, hm, by omega⟩
  have h2 : (k : Int) ∈ onesF r sh r.length ↔ (decide (sh ≤ k) && (decide (k - sh < r.length) && markAt r (k - sh))) = true := by
    rw [onesF_mem]
    simp only [Bool.and_eq_true, decide_eq_true_eq]
    constructor
    · rintro ⟨j, hj, hm, e⟩
      have : k - sh = j := by omega
      rw [this]
      exact ⟨by omega, hj, hm⟩
    · rintro ⟨a, b, c⟩
      exact ⟨k - sh, b, c, by omega⟩
  rw [h1, h2] at h
  rw [Bool.eq_iff_iff, List.any_eq_true]
  constructor
  · rintro ⟨y, hy, e⟩
    have e : y = (k : Int) := by simpa using e
    subst e
    have := h.mp hy
    revert this
    generalize markAt l k = p
    generalize (decide (sh ≤ k) && (decide (k - sh < r.length) && markAt r (k - sh))) = q
    cases p <;> cases q <;> simp
  · intro e
    refine ⟨k, h.mpr ?_, by simp⟩
    revert e
    generalize markAt l k = p
    generalize (decide (sh ≤ k) && (decide (k - sh < r.length) && markAt r (k - sh))) = q
    cases p <;> cases q <;> simp
theorem mkS_len (l : List Nat) : (mkS l).length = l.length := by simp [Str.length]
theorem mkS_item {l : List Nat} {k : Nat} (h : k < l.length) : Txt.item (mkS l) (k : Int) = mkS [l.getD k 0] := by
  unfold Txt.item Txt.charAt
  rw [seqIndex_in (by omega) (by rw [mkS_len]; omega)]
  simp [h]
theorem mkS_inj {a b : List Nat} (h : mkS a = mkS b) : a = b := by
  have := congrArg (fun s : Str => s.cps.toList) h
  simpa using this
theorem mkS_x (c : Nat) : (mkS [c] == Str.ofString "x") = (c == 120) := by
  have e : Str.ofString "x" = mkS [120] := by decide +kernel
  rw [e, Bool.eq_iff_iff, beq_iff_eq, beq_iff_eq]
  constructor
  · intro h; simpa using mkS_inj h
  · rintro rfl; rfl
theorem str_x : Str.ofString "x" = mkS [120] := by decide +kernel
theorem str_b : Str.ofString " " = mkS [32] := by decide +kernel
theorem str_0 : Str.ofString "" = mkS [] := by decide +kernel
theorem join_mkS : ∀ l : List Nat, Txt.join (Str.ofString "") (l.map fun c => mkS [c]) = mkS l := by
  intro l
  rw [str_0]
  have : Txt.join (mkS []) (l.map fun c => mkS [c]) = Str.join (mkS []) (l.map fun c => mkS [c]) := by
    have := join_plain_closes (mkS []) (l.map fun c => mkS [c])
    simpa using this
  rw [this]
  exact join_ones l
theorem W_lenM {d : Dy} {m : Loc} {news : Led} {E : Value → Shared → Prop} {l : List Nat} {t : Tok} {Q : Value → Loc → Led → Prop} (hf : l.length < 1000000) (h : ∀ t', Q (.int l.length t') m news) : W d (call (.builtin "len") [.str (mkS l) t]) m news Q E :=
  W_lenS (by rw [mkS_len]; omega) (by rw [mkS_len]; exact h)
theorem sum_c {d : Dy} {m : Loc} {news : Led} {E : Value → Shared → Prop} {l r : List Nat} {t1 t2 t3 : Tok} {back : Nat} {Q : Value → Loc → Led → Prop} (hr : 2 ≤ d.room) (hh : d.A.handled = none) (hb : back ≤ 1)
    (hz : l.length ≤ 1000) (hlr : r.length ≤ l.length) (h : ∀ t, Q (.str (mkS (sumF l r ((l.length - r.length) * back))) t) m news) : W d (call (.ref 195) [.str (mkS l) t1, .str (mkS r) t2, .int back t3]) m news Q E := by
  have sL : (3000 : Nat) ≤ sizeLine := Nat.le_of_ble_eq_true rfl
  refine W_defC (LN := ["back", "ones", "twos", "missing", "unexpected"]) (GN := ["len", "range", "sorted_list_difference"]) (CN := ["marks", "shift", "shorter", "longer"]) (by k_is) (by k_is) (Nm.of (by decide +kernel)) (by decide +kernel) (by omega) rfl
    (.cel (by decide +kernel) (.there (.there (.there .here))) (.cel (by decide +kernel) (.there (.there .here)) (.loc (by decide +kernel) .here .nil))) ?_
  intro d' hr' hh'
  have hh2 := hh'.trans hh
  intro c1 o1 ho1 c2 o2 ho2 c3 o3 ho3 c4 o4 ho4
  intro hj91 hN
  try wtm_at "q"
  obtain ⟨outer, hO⟩ := hj91
  show W d' _ (Lv ["back", "ones", "twos", "missing", "unexpected"] [some _, none, none, none, none]) _ _ _
  try wtm_at "q"
  repeat wtm_at "w"
  refine W_lenM (by omega) ?_
  intro _
  repeat wtm_at "w"
  refine W_lenM (by omega) ?_
  intro _
  repeat wtm_at "w"
  refine W_mul ?_ (IntMulOk.of_right (intBits_le_64 (by omega) (by omega)))
  intro _
  have es : ((l.length : Int) - (r.length : Int)) * (back : Int) = (((l.length - r.length) * back : Nat) : Int) := by
    rw [Int.natCast_mul]; congr 1; omega
  rw [es]
  generalize hsh : (l.length - r.length) * back = sh
  have hsh2 : sh ≤ 1000 := by
    subst hsh
    rcases (by omega : back = 0 ∨ back = 1) with rfl | rfl <;> omega
  rw [hsh] at h
  repeat wtm_at "w"
  rename_i osh hosh _ _
  refine W_AsgCompR hN hh2 [] [("longer", c4)] (CompOk.of (by show compOk _ ["k"] [] ["longer"] = true; decide +kernel)) (by simp) (by decide) l.length
    (fun i ys n₁ => IntsAre ys (onesF l 0 i) ∧ n₁ = (c1, o1) :: (c2, osh) :: (c3, o3) :: (c4, o4) :: news) (by omega) (by rfl) ?_ ?_ ?_
  · repeat wtm_at "w"
    refine W_lenM (by omega) ?_
    intro _
    repeat wtm_at "w"
    (repeat wtm_at "lf")
    exact ⟨rfl, ⟨_, _, _, _, rfl, .head _⟩, _, List.sublist_cons_self .., .nil, rfl⟩
  · intro Ca it D k i tv ys n₁ hi hj91 hE
    try wtm_at "q"
    obtain ⟨hys, rfl⟩ := hj91
    refine W_tests1 ?_
    repeat wtm_at "w"
    refine W_itemS (fits_small (by omega) (by omega)) (by omega) (by rw [mkS_len]; omega) ?_
    intro _
    rw [mkS_item hi]
    repeat wtm_at "w"
    rw [mkS_x]
    split
    · rename_i hm
      repeat wtm_at "w"
      (repeat wtm_at "lf")
      refine ⟨⟨_, rfl⟩, _, List.Sublist.refl _, ?_, rfl⟩
      rw [onesF_succ, if_pos (show markAt l i = true from hm)]
      simpa using hys.append (.cons _ _ .nil)
    · rename_i hm
      (repeat wtm_at "lf")
      refine ⟨⟨_, rfl⟩, _, List.Sublist.refl _, ?_, rfl⟩
      rw [onesF_succ, if_neg (show ¬ markAt l i = true from hm)]
      simpa using hys
  · intro Ca D k ys n₁ hj91
    try wtm_at "q"
    obtain ⟨hys, rfl⟩ := hj91
    repeat wtm_at "w"
    refine W_AsgCompR hN hh2 [] [("shift", c2), ("shorter", c3)] (CompOk.of (by show compOk _ ["k"] [] ["shift", "shorter"] = true; decide +kernel)) (by simp) (by decide) r.length
      (fun i zs n₁ => IntsAre zs (onesF r sh i) ∧ n₁ = (D, listO ys k) :: (c1, o1) :: (c2, osh) :: (c3, o3) :: (c4, o4) :: news) (by omega) (by rfl) ?_ ?_ ?_
    · repeat wtm_at "w"
      refine W_lenM (by omega) ?_
      intro _
      repeat wtm_at "w"
      (repeat wtm_at "lf")
      exact ⟨rfl, ⟨_, _, _, _, rfl, .head _⟩, _, List.sublist_cons_self .., .nil, rfl⟩
    · intro Ca it D k i tv ys n₁ hi hj91 hE
      try wtm_at "q"
      obtain ⟨hys, rfl⟩ := hj91
      refine W_tests1 ?_
      repeat wtm_at "w"
      refine W_itemS (fits_small (by omega) (by omega)) (by omega) (by rw [mkS_len]; omega) ?_
      intro _
      rw [mkS_item hi]
      repeat wtm_at "w"
      rw [mkS_x]
      split
      · rename_i hm
        repeat wtm_at "w"
        (repeat wtm_at "lf")
        refine ⟨⟨_, rfl⟩, _, List.Sublist.refl _, ?_, rfl⟩
        rw [onesF_succ, if_pos (show markAt r i = true from hm)]
        exact hys.append (.cons _ _ .nil)
      · rename_i hm
        (repeat wtm_at "lf")
        refine ⟨⟨_, rfl⟩, _, List.Sublist.refl _, ?_, rfl⟩
        rw [onesF_succ, if_neg (show ¬ markAt r i = true from hm)]
        simpa using hys
    · intro Ca2 D2 k2 zs n₁ hj91
      try wtm_at "q"
      obtain ⟨hzs, rfl⟩ := hj91
      repeat wtm_at "w"
      refine W_AsgTup hh2 ?_
      repeat wtm_at "w"
      have l1 := onesF_len l 0 l.length
      have l2 := onesF_len r sh r.length
      refine sld_c (by show 1 ≤ d'.room; omega) hh2 (by wtm_at "lmem") (by wtm_at "lmem") hys hzs (onesF_inc _ _ _) (onesF_inc _ _ _) (by omega) (by omega) ?_
      intro rt mi un ms us km ku hms hus
      have l3 := hms.length
      have l4 := hus.length
      have l5 := sldF_len (onesF l 0 l.length) (onesF r sh r.length)
      (repeat wtm_at "lf")
      refine ⟨_, _, _, rfl, .head _, rfl, ?_⟩
      show W d' (assignInOrder [assign _ _, assign _ _] [_, _]) _ _ _ _
      repeat wtm_at "w"
      refine W_addL (by wtm_at "lmem") (by wtm_at "lmem") (by omega) ?_
      intro mk
      repeat wtm_at "w"
      rename_i omk homk _
      refine W_ListCompR hN hh2 [] [("marks", c1)] (CompOk.of (by show compOk _ ["k"] [] ["marks"] = true; decide +kernel)) (by simp) (by decide) l.length
        (fun i zs n₁ => StrsAre zs (((sumF l r sh).take i).map fun c => mkS [c]) ∧ n₁ = (mk, listO (ms ++ us) 0) :: (c1, omk) :: (c2, osh) :: (c3, o3) :: (c4, o4) :: news) (by omega) ?_ ?_ ?_
      · repeat wtm_at "w"
        refine W_lenM (by omega) ?_
        intro _
        repeat wtm_at "w"
        (repeat wtm_at "lf")
        exact ⟨rfl, ⟨_, _, _, _, rfl, .head _⟩, _, by wtm_at "sub", .nil, rfl⟩
      · intro Ca it D k i tv ys n₁ hi hj91 hE
        try wtm_at "q"
        obtain ⟨hys, rfl⟩ := hj91
        refine W_tests0 ?_
        (repeat wtm_at "lf")
        rw [if_pos rfl]
        try wtm_at "q"
        repeat wtm_at "w"
        refine W_inInts (by wtm_at "lmem") (hms.append hus) ?_
        rw [sumF_at _ _ _ _ hi]
        have hts : (sumF l r sh).take (i + 1) = (sumF l r sh).take i ++ [if (markAt l i != (decide (sh ≤ i) && (decide (i - sh < r.length) && markAt r (i - sh)))) then 120 else 32] := by
          have hl : i < (sumF l r sh).length := by simp [sumF]; exact hi
          rw [List.take_succ_eq_append_getElem hl]
          simp [sumF]
        repeat wtm_at "w"
        split
        · rename_i hm
          repeat wtm_at "w"
          (repeat wtm_at "lf")
          refine ⟨⟨_, rfl⟩, _, List.Sublist.refl _, ?_, rfl⟩
          rw [hts, if_pos hm, List.map_append, str_x]
          exact StrsAre.append' hys (.cons _ _ .nil)
        · rename_i hm
          repeat wtm_at "w"
          (repeat wtm_at "lf")
          refine ⟨⟨_, rfl⟩, _, List.Sublist.refl _, ?_, rfl⟩
          rw [hts, if_neg hm, List.map_append, str_b]
          exact StrsAre.append' hys (.cons _ _ .nil)
      · intro D k ys n₁ hj91
        try wtm_at "q"
        obtain ⟨hys, rfl⟩ := hj91
        have hl : (sumF l r sh).length = l.length := by simp [sumF]
        rw [List.take_of_length_le (by omega)] at hys
        repeat wtm_at "w"
        refine W_join (by wtm_at "lmem") hys ?_ ?_
        · have : (((sumF l r sh).map fun c => mkS [c]).map (·.length)).sum = (sumF l r sh).length := by
            generalize sumF l r sh = z
            induction z with
            | nil => rfl
            | cons a z ih => simp only [List.map_cons, List.sum_cons, ih, mkS_len, List.length_cons, List.length_nil]; omega
          rw [this, str_0, mkS_len]
          simp; omega
        · intro t'
          rw [join_mkS]
          (repeat wtm_at "lf")
          exact ⟨_, by wtm_at "sub", h t'⟩

noncomputable def isB (c : Nat) : Bool := c == 32
noncomputable def leadN (l : List Nat) : Nat := (l.takeWhile isB).length
noncomputable def bareF (l : List Nat) : List Nat := (l.drop (leadN l)).take (l.length - leadN l.reverse - leadN l)
theorem bareF_len (l : List Nat) : (bareF l).length ≤ l.length := by unfold bareF; simp; omega
theorem leadN_le (l : List Nat) : leadN l ≤ l.length := by
  unfold leadN
  exact (List.takeWhile_sublist _).length_le
theorem leadN_at : ∀ (l : List Nat) (i : Nat), i < leadN l → l.getD i 0 = 32
  | [], i, h => by simp [leadN] at h
  | a :: l, i, h => by
    unfold leadN at h
    rw [List.takeWhile_cons] at h
    split at h
    · rename_i ha
      cases i with
      | zero => simpa [isB] using ha
      | succ i =>
        have := leadN_at l i (by simpa [leadN] using h)
        simpa using this
    · simp at h
theorem leadN_end : ∀ (l : List Nat), leadN l < l.length → l.getD (leadN l) 0 ≠ 32
  | [], h => by simp at h
  | a :: l, h => by
    unfold leadN at h ⊢
    rw [List.takeWhile_cons] at h ⊢
    split
    · rename_i ha
      rw [if_pos ha] at h
      have := leadN_end l (by simpa [leadN] using h)
      simpa [leadN] using this
    · rename_i ha
      simpa [isB] using ha
theorem leadN_rev {l : List Nat} (h : leadN l < l.length) : leadN l.reverse < l.length := by
  rcases Nat.lt_or_ge (leadN l.reverse) l.length with q | q
  · exact q
  · exfalso
    have e := leadN_end l h
    have k := leadN_at l.reverse (l.length - 1 - leadN l) (by omega)
    rw [List.getD_eq_getElem?_getD, List.getElem?_reverse (by omega)] at k
    rw [show l.length - 1 - (l.length - 1 - leadN l) = leadN l by omega, ← List.getD_eq_getElem?_getD] at k
    exact e k
theorem rev_getD {l : List Nat} {j : Nat} (h : j < l.length) : l.reverse.getD j 0 = l.getD (l.length - 1 - j) 0 := by
  rw [List.getD_eq_getElem?_getD, List.getElem?_reverse h, ← List.getD_eq_getElem?_getD]
theorem lead_sum {l : List Nat} (h : leadN l < l.length) : leadN l + leadN l.reverse < l.length := by
  rcases Nat.lt_or_ge (leadN l + leadN l.reverse) l.length with q | q
  · exact q
  · exfalso
    have e := leadN_end l h
    have r := leadN_rev h
    have k := leadN_at l.reverse (l.length - 1 - leadN l) (by omega)
    rw [rev_getD (by omega), show l.length - 1 - (l.length - 1 - leadN l) = leadN l by omega] at k
    exact e k
theorem blank_mkS {l : List Nat} {k : Nat} (h : k < l.length) : blankAt (mkS l) (k : Int) = (l.getD k 0 == 32) := by
  unfold blankAt
  rw [mkS_item h, str_b, Bool.eq_iff_iff, beq_iff_eq, beq_iff_eq]
  constructor
  · intro h; simpa using mkS_inj h
  · intro h; rw [h]
theorem strip_mkS {l : List Nat} {n : Int} {a b : Nat} (h : cutN n a + cutN (n - cutN n a) b ≤ l.length) : stripF (mkS l) n a b = mkS ((l.drop (cutN n a)).take (l.length - cutN (n - cutN n a) b - cutN n a)) := by
  unfold stripF
  have := slice_closes (x := mkS l) (i := (cutN n a : Nat)) (j := ((mkS l).length : Int) - 1 - (cutN (n - cutN n a) b : Nat) + 1) ⟨by omega, by rw [mkS_len]; omega, by simp [mkS_len]; omega⟩
  rw [beq_iff_eq] at this
  rw [this, mkS_len]
  congr 2
  simp only [Int.toNat_natCast]
  congr 1
  omega
/- _law_bare, any text -/
theorem bare_l {d : Dy} {m : Loc} {news : Led} {E : Value → Shared → Prop} {l : List Nat} {t1 : Tok} {Q : Value → Loc → Led → Prop} (hr : 2 ≤ d.room) (hh : d.A.handled = none)
    (hz : l.length ≤ 1000000) (h : ∀ t, Q (.str (mkS (bareF l)) t) m news) : W d (call (.ref 183) [.str (mkS l) t1]) m news Q E := by
  have L := mkS_len l
  rcases Nat.lt_or_ge (leadN l) l.length with hlt | hge
  · have r := leadN_rev hlt
    have sm := lead_sum hlt
    refine bare_c (lead := leadN l) (trail := leadN l.reverse) hr hh (by omega) (by omega) (by omega) ?_ ?_ ?_ ?_ ?_
    · intro i hi
      rw [blank_mkS (by omega), leadN_at l i hi]; rfl
    · rw [blank_mkS hlt]
      exact beq_eq_false_iff_ne.mpr (leadN_end l hlt)
    · intro j hj
      rw [show ((mkS l).length : Int) - 1 - (j : Int) = ((l.length - 1 - j : Nat) : Int) by omega, blank_mkS (by omega)]
      have := leadN_at l.reverse j hj
      rw [rev_getD (by omega)] at this
      rw [this]; rfl
    · rw [show ((mkS l).length : Int) - 1 - (leadN l.reverse : Int) = ((l.length - 1 - leadN l.reverse : Nat) : Int) by omega, blank_mkS (by omega)]
      have := leadN_end l.reverse (by simpa using r)
      rw [rev_getD (by omega)] at this
      exact beq_eq_false_iff_ne.mpr this
    · intro t
      have c1 : cutN (-1) (leadN l) = leadN l := rfl
      have c2 : cutN (-1 - (cutN (-1) (leadN l) : Nat)) (leadN l.reverse) = leadN l.reverse := by
        unfold cutN
        rw [if_pos (by omega)]
      rw [strip_mkS (by rw [c2, c1]; omega), c2, c1]
      exact h t
  · refine bare_x hr hh (by omega) ?_ ?_
    · intro i hi
      rw [blank_mkS (by omega), leadN_at l i (by omega)]; rfl
    · intro t
      have e : bareF l = [] := by unfold bareF; rw [List.drop_eq_nil_of_le hge]; simp
      have := h t
      rw [e, ← str_0] at this
      exact this
noncomputable def commonL : Nat → List Nat → List Nat → Nat → List Nat
  | 0, _, _, _ => []
  | f + 1, a, b, back =>
    if a.length < b.length then (if bareF (sumF b a ((b.length - a.length) * back)) = [] then a else commonL f (bareF (sumF b a ((b.length - a.length) * back))) a back)
    else if bareF (sumF a b ((a.length - b.length) * back)) = [] then b else commonL f (bareF (sumF a b ((a.length - b.length) * back))) b back
theorem sumF_len (l r : List Nat) (sh : Nat) : (sumF l r sh).length = l.length := by simp [sumF]
theorem mkS_nil (l : List Nat) : (mkS l == Str.ofString "") = decide (l = []) := by
  rw [str_0, Bool.eq_iff_iff, beq_iff_eq, decide_eq_true_eq]
  exact ⟨fun h => mkS_inj h, fun h => by rw [h]⟩
theorem common_c {d : Dy} {m : Loc} {news : Led} {E : Value → Shared → Prop} {l r : List Nat} {t1 t2 t3 : Tok} {back : Nat} {Q : Value → Loc → Led → Prop} (hr : 4 ≤ d.room) (hh : d.A.handled = none) (hb : back ≤ 1)
    (hz : l.length ≤ 1000) (hz2 : r.length ≤ 1000) (h : ∀ t, Q (.str (mkS (commonL 14 (bareF l) (bareF r) back)) t) m news) : W d (call (.ref 202) [.str (mkS l) t1, .str (mkS r) t2, .int back t3]) m news Q E := by
  refine W_def (ps := ["one", "two", "back"]) (LN := ["turn", "rest"]) (GN := ["_law_bare", "range", "len", "_law_sum"]) ["one", "two", "back", "turn", "rest"] (by k_is) (by k_is) (Nm.of (by decide +kernel)) rfl (by omega) rfl rfl ?_
  intro d' hr' hh' hO hN
  show W d' _ (Lv ["one", "two", "back", "turn", "rest"] [some _, some _, some _, none, none]) _ _ _
  try wtm_at "q"
  have hh2 := hh'.trans hh
  have q1 := bareF_len l
  have q2 := bareF_len r
  refine W_cons ?_
  refine W_AsgSwap ["one", "two"] hh2 ?_ rfl
  repeat wtm_at "w"
  refine bare_l (by omega) hh2 (by omega) ?_
  intro _
  repeat wtm_at "w"
  refine bare_l (by omega) hh2 (by omega) ?_
  intro _
  repeat wtm_at "w"
  refine W_newTuple (Nat.le_of_ble_eq_true rfl) ?_
  intro tp
  (repeat wtm_at "lf")
  refine ⟨_, _, _, rfl, .head _, rfl, ?_⟩
  show W d' (assignInOrder [bindName _ _, bindName _ _] [_, _]) _ _ _ _
  repeat wtm_at "w"
  refine W_cons ?_
  generalize bareF l = a at *
  generalize bareF r = b at *
  refine W_ForRange (n := 14) (fun i m1 n1 => news.Sublist n1 ∧ Ex6 fun (x y : List Nat) (ta tb : Tok) (o1 o2 : Option Value) => And4 (x.length ≤ 1000) (y.length ≤ 1000) (commonL (14 - i) x y back = commonL 14 a b back) (m1 = Lv ["one", "two", "back", "turn", "rest"] [some (.str (mkS x) ta), some (.str (mkS y) tb), some (.int back t3), o1, o2]))
      (by omega) hh2 ?_ ?_ ?_ PassesOwn.never
  · repeat wtm_at "w"
    (repeat wtm_at "lf")
    exact ⟨_, _, _, _, rfl, .head _, .cons _ (.cons _ (.refl _)), a, b, _, _, _, _, by omega, by omega, rfl, rfl⟩
  · intro it i tk m₁ n₁ hi hj91
    try wtm_at "q"
    obtain ⟨hn, x, y, ta, tb, o1, o2, hx, hy, hc, rfl⟩ := hj91
    obtain ⟨f, hf⟩ : ∃ f, 14 - i = f + 1 := ⟨13 - i, by omega⟩
    rw [hf] at hc
    have hf2 : 14 - (i + 1) = f := by omega
    unfold commonL at hc
    wtm_at "w"
    (repeat wtm_at "lf")
    try wtm_at "q"
    refine W_cut (fun m2 n2 => news.Sublist n2 ∧ Ex4 fun (p q : List Nat) (tp tq : Tok) => And5 (p.length ≤ 1000) (q.length ≤ 1000) (q.length ≤ p.length) ((if bareF (sumF p q ((p.length - q.length) * back)) = [] then q else commonL f (bareF (sumF p q ((p.length - q.length) * back))) q back) = commonL 14 a b back) (m2 = Lv ["one", "two", "back", "turn", "rest"] [some (.str (mkS p) tp), some (.str (mkS q) tq), some (.int back t3), some (.int i tk), o2])) ?_ ?_
    · repeat wtm_at "w"
      refine W_lenM (by omega) ?_
      intro _
      repeat wtm_at "w"
      refine W_lenM (by omega) ?_
      intro _
      repeat wtm_at "w"
      split
      · rename_i hlt
        have hlt : x.length < y.length := by simpa using hlt
        rw [if_pos hlt] at hc
        refine W_cons ?_
        refine W_AsgSwap ["one", "two"] hh2 ?_ rfl
        repeat wtm_at "w"
        refine W_newTuple (Nat.le_of_ble_eq_true rfl) ?_
        intro tp
        (repeat wtm_at "lf")
        refine ⟨_, _, _, rfl, .head _, rfl, ?_⟩
        show W (d'.hide it (rangeIt (i + 1) 14)) (assignInOrder [bindName _ _, bindName _ _] [_, _]) _ _ _ _
        repeat wtm_at "w"
        (repeat wtm_at "lf")
        exact ⟨rfl, hn.cons _, _, _, _, _, hy, hx, by omega, hc, rfl⟩
      · rename_i hlt
        have hlt : ¬ x.length < y.length := by simpa using hlt
        rw [if_neg hlt] at hc
        repeat wtm_at "w"
        (repeat wtm_at "lf")
        exact ⟨rfl, hn, _, _, _, _, hx, hy, by omega, hc, rfl⟩
    · intro m2 n2 hj91
      try wtm_at "q"
      obtain ⟨hn2, p, q, tp, tq, hp, hq, hqp, hc2, rfl⟩ := hj91
      repeat wtm_at "w"
      refine sum_c (by show 2 ≤ d'.room; omega) hh2 hb hp hqp ?_
      intro _
      repeat wtm_at "w"
      have s1 := sumF_len p q ((p.length - q.length) * back)
      refine bare_l (by show 2 ≤ d'.room; omega) hh2 (by omega) ?_
      intro _
      have s2 := bareF_len (sumF p q ((p.length - q.length) * back))
      generalize bareF (sumF p q ((p.length - q.length) * back)) = z at *
      repeat wtm_at "w"
      rw [mkS_nil]
      split
      · rename_i hz
        rw [if_pos (by simpa using hz)] at hc2
        subst hc2
        repeat wtm_at "w"
        (repeat wtm_at "lf")
        exact ⟨_, hn2, h _⟩
      · rename_i hz
        rw [if_neg (by simpa using hz)] at hc2
        repeat wtm_at "w"
        (repeat wtm_at "lf")
        exact ⟨hn2, z, q, _, _, _, _, by omega, hq, by rw [hf2]; exact hc2, rfl⟩
  · intro m₁ n₁ hj91
    try wtm_at "q"
    obtain ⟨hn, x, y, ta, tb, o1, o2, hx, hy, hc, rfl⟩ := hj91
    repeat wtm_at "w"
    have : commonL (14 - 14) x y back = [] := rfl
    rw [this] at hc
    rw [← hc, ← str_0] at h
    (repeat wtm_at "lf")
    exact ⟨_, hn, h _⟩

noncomputable abbrev nodeO (dy : Addr) (n np : Value) (sa : Addr) : Obj := ⟨.ref 47, some dy, .plain, #[some n, some np, some (.ref sa)]⟩
/- _NodeInfo(node) -/
theorem node_c {d : Dy} {m : Loc} {news : Led} {E : Value → Shared → Prop} {v : Value} {Q : Value → Loc → Led → Prop} (hr : 2 ≤ d.room)
    (h : ∀ y dy sa t, Q (.ref y) m ((sa, listO [] 0) :: (y, nodeO dy v (.int 0 t) sa) :: (dy, emptyDict) :: news)) : W d (call (.ref 47) [v]) m news Q E := by
  refine W_make (by omega) (ni_mk _).1 (ni_mk _).2.1 (ni_mk _).2.2 ?_
  intro d' hr' hh' hw y dy
  refine WC_defB (ps := ["self", "node"]) (LN := []) (GN := []) ["self", "node"] (fun _ _ _ _ => False) (P := fun vals n1 => vals = [.ref y, v] ∧ n1 = (y, instObj 47 dy) :: (dy, emptyDict) :: news) (by k_is) (by k_is) (Nm.of (by decide +kernel)) rfl (by omega)
    (fun s hs _ _ k => BindW.pure rfl s hs fun b n1 s1 hs1 hp => k b n1 s1 hs1 ⟨[.ref y, v], hp.1, rfl, rfl, hp.2⟩) (fun _ _ _ _ q => q.elim) ?_
  rintro d'' hr'' hh'' hO hN hw' vals n1 ⟨rfl, rfl⟩
  show W d'' _ (Lv ["self", "node"] [some _, some _]) _ _ _
  repeat wtm_at "w"
  refine W_newList (Nat.zero_le _) ?_
  intro sa
  repeat wtm_at "w"
  exact ⟨_, List.Sublist.refl _, rfl, h _ _ _ _⟩

set_option genInjectivity false
set_option genSizeOfSpec false
structure PN where
  node : Nat
  np : Int
  succ : List Nat
noncomputable abbrev ofN (l : List Nat) : List Int := l.map Int.ofNat
/- the nodes' objects -/
inductive GL (rest : Led) : List PN → Led → List (Int × Value) → Prop
  | nil : GL rest [] rest []
  | cons {r : PN} {rs : List PN} {led : Led} {kvs : List (Int × Value)} {ia da sa : Addr} {tn tp : Tok} {sv : List Value} {k : Nat} : IntsAre sv (ofN r.succ) → GL rest rs led kvs →
      GL rest (r :: rs) ((ia, nodeO da (.int r.node tn) (.int r.np tp) sa) :: (da, emptyDict) :: (sa, listO sv k) :: led) (((r.node : Int), .ref ia) :: kvs)
noncomputable def updP (rs : List PN) (node : Nat) (f : PN → PN) : List PN := rs.map fun r => if r.node = node then f r else r
theorem updP_none {rs : List PN} {node : Nat} {f : PN → PN} (h : node ∉ rs.map (·.node)) : updP rs node f = rs := by
  induction rs with
  | nil => rfl
  | cons r rs ih =>
    rw [List.map_cons, List.mem_cons, not_or] at h
    show (if r.node = node then f r else r) :: updP rs node f = _
    rw [if_neg (Ne.symm h.1), ih h.2]
theorem updP_nodes {rs : List PN} {node : Nat} {f : PN → PN} (hf : ∀ r, (f r).node = r.node) : (updP rs node f).map (·.node) = rs.map (·.node) := by
  induction rs with
  | nil => rfl
  | cons r rs ih =>
    show (if r.node = node then f r else r).node :: (updP rs node f).map (·.node) = _
    rw [ih]
    split
    · rw [hf]; rfl
    · rfl
theorem GL.kvs {rest led : Led} {rs : List PN} {kvs : List (Int × Value)} (h : GL rest rs led kvs) : kvs.map (·.1) = rs.map (fun r => (r.node : Int)) := by
  induction h with
  | nil => rfl
  | cons _ _ ih => simp [ih]
theorem GL.none {rest led : Led} {rs : List PN} {kvs : List (Int × Value)} (h : GL rest rs led kvs) {n : Nat} (hn : n ∉ rs.map (·.node)) : valueAt kvs (n : Int) = none := by
  refine valueAt_none_of_not_mem ?_
  rw [h.kvs]
  intro hm
  obtain ⟨r, hr, e⟩ := List.mem_map.mp hm
  exact hn (List.mem_map.mpr ⟨r, hr, by omega⟩)
theorem valueAt_head (k : Int) (v : Value) (kvs : List (Int × Value)) : valueAt ((k, v) :: kvs) k = some v := by simp [valueAt]
theorem valueAt_tail {k k' : Int} {v : Value} {kvs : List (Int × Value)} (h : k ≠ k') : valueAt ((k, v) :: kvs) k' = valueAt kvs k' := by simp [valueAt, h]
/- one node of them -/
structure GAt (rest : Led) (rs : List PN) (led : Led) (kvs : List (Int × Value)) (r : PN) (ia da sa : Addr) (tn tp : Tok) (sv : List Value) (k : Nat) (g1 g2 : Obj → Led) : Prop where
  val : valueAt kvs (r.node : Int) = some (.ref ia)
  s1 : Sel ia (nodeO da (.int r.node tn) (.int r.np tp) sa) led g1
  md : (da, emptyDict) ∈ led
  s2 : Sel sa (listO sv k) led g2
  is : IntsAre sv (ofN r.succ)
  setN : ∀ np tp', GL rest (updP rs r.node fun r => { r with np := np }) (g1 (nodeO da (.int r.node tn) (.int np tp') sa)) kvs
  setS : ∀ sv' l' k', IntsAre sv' (ofN l') → GL rest (updP rs r.node fun r => { r with succ := l' }) (g2 (listO sv' k')) kvs
theorem GL.find {rest led : Led} {rs : List PN} {kvs : List (Int × Value)} (h : GL rest rs led kvs) {r : PN} (hr : r ∈ rs) (nd : (rs.map (·.node)).Nodup) : Ex9 fun ia da sa tn tp sv k g1 g2 => GAt rest rs led kvs r ia da sa tn tp sv k g1 g2 := by
  induction h with
  | nil => exact nomatch hr
  | @cons r0 rs led kvs ia da sa tn tp sv k hsv hg ih =>
    rw [List.map_cons, List.nodup_cons] at nd
    rcases List.mem_cons.mp hr with rfl | hr
    · refine ⟨ia, da, sa, tn, tp, sv, k, _, _, ⟨valueAt_head _ _ _, .here, .tail _ (.head _), .there (.there .here), hsv, fun np tp' => ?_, fun sv' l' k' hs => ?_⟩⟩
      · show GL rest ((if r.node = r.node then _ else _) :: updP rs r.node _) _ _
        rw [if_pos rfl, updP_none nd.1]
        exact .cons (r := { r with np := np }) hsv hg
      · show GL rest ((if r.node = r.node then _ else _) :: updP rs r.node _) _ _
        rw [if_pos rfl, updP_none nd.1]
        exact .cons (r := { r with succ := l' }) hs hg
    · have ne : r0.node ≠ r.node := fun e => nd.1 (e ▸ List.mem_map_of_mem hr)
      obtain ⟨ia2, da2, sa2, tn2, tp2, sv2, k2, g1, g2, H⟩ := ih hr nd.2
      refine ⟨ia2, da2, sa2, tn2, tp2, sv2, k2, _, _, ⟨(valueAt_tail (by omega)).trans H.val, .there (.there (.there H.s1)), .tail _ (.tail _ (.tail _ H.md)), .there (.there (.there H.s2)), H.is, fun np tp' => ?_, fun sv' l' k' hs => ?_⟩⟩
      · show GL rest ((if r0.node = r.node then _ else _) :: updP rs r.node _) _ _
        rw [if_neg ne]
        exact .cons hsv (H.setN np tp')
      · show GL rest ((if r0.node = r.node then _ else _) :: updP rs r.node _) _ _
        rw [if_neg ne]
        exact .cons hsv (H.setS sv' l' k' hs)
/- a node more, behind the others -/
theorem GL.snoc {rest led : Led} {rs : List PN} {kvs : List (Int × Value)} (h : GL rest rs led kvs) {r : PN} {ia da sa : Addr} {tn tp : Tok} {sv : List Value} {k : Nat} (hs : IntsAre sv (ofN r.succ)) :
    ∃ led', GL rest (rs ++ [r]) led' (kvs ++ [((r.node : Int), .ref ia)]) ∧ led'.Perm ((ia, nodeO da (.int r.node tn) (.int r.np tp) sa) :: (da, emptyDict) :: (sa, listO sv k) :: led) := by
  induction h with
  | nil => exact ⟨_, .cons hs .nil, .refl _⟩
  | @cons r0 rs led kvs ia0 da0 sa0 tn0 tp0 sv0 k0 hsv hg ih =>
    obtain ⟨led', h1, h2⟩ := ih
    refine ⟨_, .cons (ia := ia0) (da := da0) (sa := sa0) (tn := tn0) (tp := tp0) (k := k0) hsv h1, ?_⟩
    refine (((h2.cons _).cons _).cons _).trans ?_
    have key : ∀ (a b c p q s : Addr × Obj) (l : Led), (a :: b :: c :: p :: q :: s :: l).Perm (p :: q :: s :: a :: b :: c :: l) := by
      intro a b c p q s l
      have e1 : a :: b :: c :: p :: q :: s :: l = [a, b, c] ++ ([p, q, s] ++ l) := rfl
      have e2 : p :: q :: s :: a :: b :: c :: l = [p, q, s] ++ ([a, b, c] ++ l) := rfl
      rw [e1, e2, ← List.append_assoc, ← List.append_assoc]
      exact List.Perm.append_right _ List.perm_append_comm
    exact key _ _ _ _ _ _ _
/- the sorter's state -/
structure GS where
  rs : List PN
  ready : Option (List Nat)
  po : Int
  fi : Int
noncomputable abbrev soN : List Str := ["_node2info", "_ready_nodes", "_npassedout", "_nfinished"]
inductive RD : Option (List Nat) → Value → Led → Led → Prop
  | none {l : Led} : RD none .none l l
  | some {l : Led} {ns : List Nat} {a : Addr} {lv : List Value} {k : Nat} : IntsAre lv (ofN ns) → RD (some ns) (.ref a) l ((a, listO lv k) :: l)
theorem RD.inv0 {rd : Option (List Nat)} {v : Value} {l l2 : Led} (h : RD rd v l l2) (e : rd = Option.none) : v = .none ∧ l2 = l := by
  subst e; cases h; exact ⟨rfl, rfl⟩
theorem RD.inv1 {rd : Option (List Nat)} {v : Value} {l l2 : Led} {ns : List Nat} (h : RD rd v l l2) (e : rd = Option.some ns) : Ex3 fun a lv k => And3 (v = .ref a) (l2 = (a, listO lv k) :: l) (IntsAre lv (ofN ns)) := by
  subst e; cases h with | some h => exact ⟨_, _, _, rfl, rfl, h⟩
theorem RD.pre {rd : Option (List Nat)} {v : Value} {l l2 : Led} (h : RD rd v l l2) : ∃ pre, l2 = pre ++ l := by
  cases h with
  | none => exact ⟨[], rfl⟩
  | some _ => exact ⟨[_], rfl⟩
theorem RD.perm {rd : Option (List Nat)} {v : Value} {led led2 led' X : Led} (h : RD rd v led led2) (hp : led'.Perm (X ++ led)) : ∃ led2', RD rd v led' led2' ∧ led2'.Perm (X ++ led2) := by
  cases h with
  | none => exact ⟨_, .none, hp⟩
  | some hl => exact ⟨_, .some hl, (hp.cons _).trans List.perm_middle.symm⟩
noncomputable def SO (w : World) (x : Addr) (rest : Led) (g : GS) (kvs : List (Int × Value)) (news : Led) : Prop := Ex10 fun dx n2i es n on led led2 rdv tp tf => And5 (GL rest g.rs led kvs) (DI w n2i kvs on) (Ent soN [some (.ref n2i), some rdv, some (.int g.po tp), some (.int g.fi tf)] es) (RD g.ready rdv led led2) (news = (x, instObj 144 dx) :: (dx, dictOf es n) :: (n2i, on) :: led2)
theorem GL.re {rest led : Led} {rs : List PN} {kvs : List (Int × Value)} (h : GL rest rs led kvs) (rest' : Led) : Ex2 fun led' core => And3 (GL rest' rs led' kvs) (led.Perm (core ++ rest)) (led'.Perm (core ++ rest')) := by
  induction h with
  | nil => exact ⟨rest', [], .nil, .refl _, .refl _⟩
  | cons hs hg ih =>
    obtain ⟨led', core, h1, h2, h3⟩ := ih
    exact ⟨_, _ :: _ :: _ :: core, .cons hs h1, ((h2.cons _).cons _).cons _, ((h3.cons _).cons _).cons _⟩
theorem RD.re {rd : Option (List Nat)} {v : Value} {led led2 led' core rest rest' : Led} (h : RD rd v led led2) (h2 : led.Perm (core ++ rest)) (h3 : led'.Perm (core ++ rest')) : Ex2 fun led2' core2 => And3 (RD rd v led' led2') (led2.Perm (core2 ++ rest)) (led2'.Perm (core2 ++ rest')) := by
  cases h with
  | none => exact ⟨_, _, .none, h2, h3⟩
  | some hl => exact ⟨_, _ :: core, .some hl, h2.cons _, h3.cons _⟩
theorem SO.re {w : World} {x : Addr} {rest news : Led} {g : GS} {kvs : List (Int × Value)} (h : SO w x rest g kvs news) (rest' : Led) : Ex2 fun news' core => And3 (SO w x rest' g kvs news') (news.Perm (core ++ rest)) (news'.Perm (core ++ rest')) := by
  obtain ⟨dx, n2i, es, nn, on, led, led2, rdv, tp, tf, hG, hD, hE, hR, rfl⟩ := h
  obtain ⟨led', core, h1, h2, h3⟩ := hG.re rest'
  obtain ⟨led2', core2, r1, r2, r3⟩ := hR.re h2 h3
  exact ⟨_, _ :: _ :: _ :: core2, ⟨dx, n2i, es, nn, on, led', led2', rdv, tp, tf, h1, hD, hE, r1, rfl⟩, ((r2.cons _).cons _).cons _, ((r3.cons _).cons _).cons _⟩
/- things laid in front go behind -/
theorem SO.in {w : World} {x : Addr} {rest news : Led} {g : GS} {kvs : List (Int × Value)} (h : SO w x rest g kvs news) (X : Led) : ∃ news', SO w x (X ++ rest) g kvs news' ∧ news'.Perm (X ++ news) := by
  obtain ⟨news', core, h1, h2, h3⟩ := h.re (X ++ rest)
  refine ⟨news', h1, h3.trans ?_⟩
  refine List.Perm.trans ?_ (h2.symm.append_left X)
  rw [← List.append_assoc, ← List.append_assoc]
  exact List.Perm.append_right _ List.perm_append_comm
theorem SO.out {w : World} {x : Addr} {rest news X : Led} {g : GS} {kvs : List (Int × Value)} (h : SO w x (X ++ rest) g kvs news) : ∃ news', SO w x rest g kvs news' ∧ news.Perm (news' ++ X) := by
  obtain ⟨news', core, h1, h2, h3⟩ := h.re rest
  refine ⟨news', h1, h2.trans ?_⟩
  refine List.Perm.trans ?_ (h3.symm.append_right X)
  rw [List.append_assoc]
  exact List.Perm.append_left _ List.perm_append_comm
theorem SO.mem {w : World} {x : Addr} {rest news : Led} {g : GS} {kvs : List (Int × Value)} (h : SO w x rest g kvs news) {p : Addr × Obj} (hp : p ∈ rest) : p ∈ news := by
  obtain ⟨news', core, h1, h2, h3⟩ := h.re []
  exact h2.mem_iff.mpr (List.mem_append_right _ hp)
theorem GL.mem {rest led : Led} {rs : List PN} {kvs : List (Int × Value)} (h : GL rest rs led kvs) {p : Addr × Obj} (hp : p ∈ rest) : p ∈ led := by
  induction h with
  | nil => exact hp
  | cons _ _ ih => exact .tail _ (.tail _ (.tail _ ih))

noncomputable def getP (rs : List PN) (n : Nat) : List PN := if n ∈ rs.map (·.node) then rs else rs ++ [⟨n, 0, []⟩]
theorem getP_mem (rs : List PN) (n : Nat) : n ∈ (getP rs n).map (·.node) := by
  unfold getP
  split
  · assumption
  · simp
theorem getP_nd {rs : List PN} (nd : (rs.map (·.node)).Nodup) (n : Nat) : ((getP rs n).map (·.node)).Nodup := by
  unfold getP
  split
  · exact nd
  · rename_i h
    rw [List.map_append]
    exact List.nodup_append.mpr ⟨nd, by simp, fun a ha b hb e => h (by simp at hb; rw [← hb, ← e]; exact ha)⟩
theorem GL.at {rest led : Led} {rs : List PN} {kvs : List (Int × Value)} (h : GL rest rs led kvs) {n : Nat} (hn : n ∈ rs.map (·.node)) (nd : (rs.map (·.node)).Nodup) : ∃ ia, valueAt kvs (n : Int) = some (.ref ia) := by
  obtain ⟨r, hr, rfl⟩ := List.mem_map.mp hn
  obtain ⟨ia, da, sa, tn, tp, sv, k, g1, g2, H⟩ := h.find hr nd
  exact ⟨ia, H.val⟩
/- sorter._get_nodeinfo(node) -/
theorem info_c {d : Dy} {m : Loc} {news rest : Led} {E : Value → Shared → Prop} {x : Addr} {g : GS} {kvs : List (Int × Value)} {n : Nat} {t : Tok} {Q : Value → Loc → Led → Prop} (hr : 3 ≤ d.room) (hS : SO d.w x rest g kvs news) (nd : (g.rs.map (·.node)).Nodup) (hz : g.rs.length ≤ 1000)
    (h : ∀ ia kvs' news', SO d.w x rest { g with rs := getP g.rs n } kvs' news' → valueAt kvs' (n : Int) = some (.ref ia) → Q (.ref ia) m news') : W d (call (.ref 87) [.ref x, .int n t]) m news Q E := by
  obtain ⟨dx, n2i, es, nn, on, led, led2, rdv, tp, tf, hG, hD, hE, hR, rfl⟩ := hS
  refine W_defW (ps := ["self", "node"]) (LN := ["result"]) (GN := ["_NodeInfo"]) ["self", "node", "result"] (by k_is) (by k_is) (Nm.of (by decide +kernel)) rfl (by omega) rfl rfl ?_
  intro d' hr' hh' hO hN hw
  rw [← hw] at hD
  show W d' _ (Lv ["self", "node", "result"] [some _, some _, none]) _ _ _
  try wtm_at "q"
  by_cases hn : n ∈ g.rs.map (·.node)
  · obtain ⟨ia, hv⟩ := hG.at hn nd
    repeat wtm_at "w"
    refine W_dGet hD (by wtm_at "lmem") ?_
    rw [hv]
    dsimp only [Option.getD]
    repeat wtm_at "w"
    try rw [if_neg (by simp)]
    repeat wtm_at "w"
    have e : getP g.rs n = g.rs := if_pos hn
    exact h ia kvs _ ⟨dx, n2i, es, nn, on, led, led2, rdv, tp, tf, by rw [e]; exact hG, hw ▸ hD, hE, hR, rfl⟩ hv
  · have hv := hG.none hn
    have e : getP g.rs n = g.rs ++ [⟨n, 0, []⟩] := if_neg hn
    have hkl : kvs.length = g.rs.length := by have := congrArg List.length hG.kvs; simpa using this
    try wtm_at "uq"
    refine W.re ?_
    try wtm_at "q"
    repeat wtm_at "w"
    refine W_dGet hD (by wtm_at "lmem") ?_
    rw [hv]
    dsimp only [Option.getD]
    repeat wtm_at "w"
    try rw [if_pos (by rfl)]
    repeat wtm_at "w"
    refine node_c (by omega) ?_
    intro y dy sa ty
    repeat wtm_at "w"
    refine W_dSet hD (by wtm_at "sel") (by rw [sizeLine_eq]; omega) ?_
    intro on' hD'
    rw [stored_absent hv] at hD'
    repeat wtm_at "w"
    obtain ⟨led', hG', hP⟩ := hG.snoc (r := ⟨n, 0, []⟩) (ia := y) (da := dy) (sa := sa) (tn := t) (tp := ty) (sv := []) (k := 0) .nil
    obtain ⟨led2', hR', hP'⟩ := hR.perm (X := [(y, nodeO dy (.int n t) (.int 0 ty) sa), (dy, emptyDict), (sa, listO [] 0)]) hP
    (repeat wtm_at "lf")
    refine ⟨(x, instObj 144 dx) :: (dx, dictOf es nn) :: (n2i, on') :: led2', [], ?_, h y _ _ ⟨dx, n2i, es, nn, on', led', led2', rdv, tp, tf, by rw [e]; exact hG', hw ▸ hD', hE, hR', rfl⟩ ?_⟩
    · rw [List.append_nil]
      refine List.Perm.trans ?_ (((hP'.cons _).cons _).cons _).symm
      wtm_at "perm"
    · have hn' : (n : Int) ∉ kvs.map (·.1) := by
        rw [hG.kvs]
        intro hm
        obtain ⟨r, hr, e⟩ := List.mem_map.mp hm
        exact hn (List.mem_map.mpr ⟨r, hr, by omega⟩)
      unfold valueAt at hv ⊢
      have : kvs.find? (fun kv => decide (kv.1 = (n : Int))) = none := by simpa using hv
      rw [List.find?_append, this]
      simp

noncomputable def addS (n : Nat) (rs : List PN) (p : Nat) : List PN := updP (getP rs p) p fun r => { r with succ := r.succ ++ [n] }
noncomputable def addP (rs : List PN) (n : Nat) (ps : List Nat) : List PN := ps.foldl (addS n) (updP (getP rs n) n fun r => { r with np := r.np + ps.length })
theorem getP_len (rs : List PN) (n : Nat) : (getP rs n).length ≤ rs.length + 1 := by
  unfold getP; split <;> simp
/- what keeps the sizes -/
structure OkP (rs : List PN) (B : Nat) : Prop where
  nd : (rs.map (·.node)).Nodup
  ln : rs.length ≤ B
  sc : ∀ r ∈ rs, r.succ.length ≤ B
theorem OkP.get {rs : List PN} {B : Nat} (h : OkP rs B) (n : Nat) : OkP (getP rs n) (B + 1) := by
  refine ⟨getP_nd h.nd n, by have := getP_len rs n; have := h.ln; omega, fun r hr => ?_⟩
  unfold getP at hr
  split at hr
  · have := h.sc r hr; omega
  · rcases List.mem_append.mp hr with hr | hr
    · have := h.sc r hr; omega
    · rw [List.mem_singleton] at hr; subst hr; simp
theorem OkP.upd {rs : List PN} {B : Nat} (h : OkP rs B) (n : Nat) (f : PN → PN) (hf : ∀ r, (f r).node = r.node) (hs : ∀ r, (f r).succ.length ≤ r.succ.length) : OkP (updP rs n f) B := by
  refine ⟨by rw [updP_nodes hf]; exact h.nd, by unfold updP; rw [List.length_map]; exact h.ln, fun r hr => ?_⟩
  obtain ⟨r', hr', rfl⟩ := List.mem_map.mp hr
  have := h.sc r' hr'
  split
  · exact Nat.le_trans (hs r') this
  · exact this
theorem OkP.mono {rs : List PN} {B C : Nat} (h : OkP rs B) (hBC : B ≤ C) : OkP rs C := ⟨h.nd, Nat.le_trans h.ln hBC, fun r hr => Nat.le_trans (h.sc r hr) hBC⟩
theorem OkP.addS {rs : List PN} {B : Nat} (h : OkP rs B) (n p : Nat) : OkP (addS n rs p) (B + 1) := by
  have hg := h.get p
  refine ⟨by unfold Mine.addS; rw [updP_nodes (f := fun r => { r with succ := r.succ ++ [n] }) (fun r => rfl)]; exact hg.nd, by unfold Mine.addS updP; rw [List.length_map]; exact hg.ln, fun r hr => ?_⟩
  unfold Mine.addS at hr
  obtain ⟨r', hr', rfl⟩ := List.mem_map.mp hr
  have : r'.succ.length ≤ B := by
    unfold getP at hr'
    split at hr'
    · exact h.sc r' hr'
    · rcases List.mem_append.mp hr' with q | q
      · exact h.sc r' q
      · rw [List.mem_singleton] at q; subst q; simp
  split
  · simp; exact this
  · omega
theorem OkP.fold {n : Nat} : ∀ (ps : List Nat) {rs : List PN} {B : Nat}, OkP rs B → OkP (ps.foldl (Mine.addS n) rs) (B + ps.length)
  | [], rs, B, h => h
  | p :: ps, rs, B, h => by
    have := OkP.fold (n := n) ps (h.addS n p)
    exact this.mono (by simp; omega)
theorem updP_same {rs : List PN} {n : Nat} {f f' : PN → PN} {r : PN} (hr : r ∈ rs) (hn : r.node = n) (nd : (rs.map (·.node)).Nodup) (e : f r = f' r) : updP rs n f = updP rs n f' := by
  unfold updP
  refine List.map_congr_left fun r' hr' => ?_
  split
  · rename_i h
    have : r' = r := by
      have : ∀ (l : List PN), (l.map (·.node)).Nodup → r ∈ l → r' ∈ l → r'.node = r.node → r' = r := by
        intro l
        induction l with
        | nil => intro _ h; exact nomatch h
        | cons a l ih =>
          intro nd h1 h2 e
          rw [List.map_cons, List.nodup_cons] at nd
          rcases List.mem_cons.mp h1 with q1 | q1
          · rcases List.mem_cons.mp h2 with q2 | q2
            · rw [q1, q2]
            · exact absurd (List.mem_map.mpr ⟨r', q2, e.trans (by rw [q1])⟩) nd.1
          · rcases List.mem_cons.mp h2 with q2 | q2
            · exact absurd (List.mem_map.mpr ⟨r, q1, e.symm.trans (by rw [q2])⟩) nd.1
            · exact ih nd.2 q1 q2 e
      exact this rs nd hr hr' (h.trans hn.symm)
    rw [this, e]
  · rfl
noncomputable abbrev addLN : List Str := ["self", "node", "predecessors", "nodeinfo", "pred", "pred_info"]
/- sorter.add(node, *preds) -/
theorem add_k {d : Dy} {m : Loc} {news rest : Led} {E : Value → Shared → Prop} {x : Addr} {g : GS} {kvs : List (Int × Value)} {n : Nat} {t : Tok} {pv : List Value} {ps : List Nat} {Q : Value → Loc → Led → Prop} (hr : 4 ≤ d.room) (hh : d.A.handled = none) (hS : SO d.w x rest g kvs news) {B : Nat} (ok : OkP g.rs B) (hz : B + ps.length ≤ 500)
    (hg : g.ready = none) (hp : IntsAre pv (ofN ps)) (h : ∀ kvs' news', SO d.w x rest { g with rs := addP g.rs n ps } kvs' news' → Q .none m news') : WC d (.call (.ref 94) ⟨.ref x :: .int n t :: pv, []⟩) m news Q E := by
  have nd := ok.nd
  have lB := ok.ln
  have hpl : pv.length = ps.length := by have := hp.length; simpa using this
  have sL : (3000 : Nat) ≤ sizeLine := Nat.le_of_ble_eq_true rfl
  refine WC_defS (ps := ["self", "node", "predecessors"]) (LN := ["nodeinfo", "pred", "pred_info"]) (GN := ["ValueError", "len"]) addLN (rest := pv) (vals := fun D => [.ref x, .int n t, D]) (fun _ _ _ _ => False) (by k_is) (by k_is) (Nm.of (by decide +kernel)) rfl (by omega) (by cases pv <;> rfl) (fun _ => rfl) (by omega) (fun _ _ _ _ q => q.elim) ?_
  intro d' hr' hh' hO hN hw D
  have hh2 := hh'.trans hh
  rw [← hw] at hS
  obtain ⟨news1, hS1, hP1⟩ := hS.in [(D, tupO pv 0)]
  refine W.perm (n' := news1) ?_ hP1
  refine W.never ?_
  show W d' _ (Lv addLN [some _, some _, some _, none, none, none]) _ _ _
  try wtm_at "q"
  obtain ⟨dx, n2i, es, nn, on, led, led2, rdv, tp, tf, hG, hD, hE, hR, rfl⟩ := id hS1
  obtain ⟨rfl, rfl⟩ := hR.inv0 hg
  repeat wtm_at "w"
  try rw [if_neg (by decide)]
  repeat wtm_at "w"
  refine info_c (by omega) hS1 nd (by omega) ?_
  intro ia kvs2 news2 hS2 hv2
  obtain ⟨dx, n2i, es, nn, on, led, led2, rdv, tp, tf, hG, hD, hE, hR, rfl⟩ := id hS2
  obtain ⟨rfl, rfl⟩ := hR.inv0 hg
  obtain ⟨r, hrm, hrn⟩ := List.mem_map.mp (getP_mem g.rs n)
  obtain ⟨ia', da, sa, tn, tp', sv, k, g1, g2, H⟩ := hG.find hrm (getP_nd nd n)
  have hia : ia' = ia := by have := H.val; rw [hrn, hv2] at this; cases this; rfl
  subst hia
  have s1 := H.s1
  have m1 := s1.mem
  have m2 := H.md
  repeat wtm_at "w"
  refine W_lenT (k := 0) (vs := pv) (hS2.mem (.head _)) (by omega) ?_
  intro tq
  repeat wtm_at "w"
  rw [hpl]
  have e0 : updP (getP g.rs n) r.node (fun q => { q with np := r.np + (ps.length : Int) }) = updP (getP g.rs n) n (fun r => { r with np := r.np + ps.length }) := by
    rw [hrn]; exact updP_same hrm hrn (getP_nd nd n) rfl
  generalize hrs0 : updP (getP g.rs n) n (fun r => { r with np := r.np + (ps.length : Int) }) = rs0 at e0
  have ok0 : OkP rs0 (B + 1) := by rw [← hrs0]; exact (ok.get n).upd n _ (fun _ => rfl) (fun _ => Nat.le_refl _)
  have hS3 : ∀ tp, SO d'.w x ([(D, tupO pv 0)] ++ rest) { g with rs := rs0 } kvs2 ((x, instObj 144 dx) :: (dx, dictOf es nn) :: (n2i, on) :: g1 (nodeO da (.int r.node tn) (.int (r.np + (ps.length : Int)) tp) sa)) := fun tp2 =>
    ⟨dx, n2i, es, nn, on, _, _, .none, tp, tf, e0 ▸ H.setN (r.np + (ps.length : Int)) tp2, hD, hE, by show RD g.ready _ _ _; rw [hg]; exact .none, rfl⟩
  refine W_cons ?_
  refine W_ForTup (l := D) (vs := pv) (k := 0) (fun i m1 n1 => (∃ kvs, SO d'.w x ([(D, tupO pv 0)] ++ rest) { g with rs := (ps.take i).foldl (addS n) rs0 } kvs n1) ∧ Ex3 fun o1 o2 o3 => m1 = Lv addLN [some (.ref x), some (.int n t), some (.ref D), o1, o2, o3]) hh2 ?_ ?_ ?_ ?_ PassesOwn.never
  · repeat wtm_at "w"
    (repeat wtm_at "lf")
    exact ⟨rfl, ⟨_, hS3 _⟩, _, _, _, rfl⟩
  · intro i m1 n1 hj91
    try wtm_at "q"
    obtain ⟨⟨kvs, hS⟩, _⟩ := hj91
    exact hS.mem (.head _)
  · intro it i v m1 n1 hi hv hj91
    try wtm_at "q"
    obtain ⟨⟨kvs4, hS4⟩, o1, o2, o3, rfl⟩ := hj91
    have hi2 : i < ps.length := by omega
    obtain ⟨tv, hv2⟩ := ints_at hp i (by simpa using hi2)
    rw [hv] at hv2
    have ep : (ofN ps).getD i 0 = ((ps[i] : Nat) : Int) := by simp [List.getD_eq_getElem?_getD, hi2]
    rw [ep] at hv2
    cases hv2
    have tk : (ps.take (i + 1)).foldl (addS n) rs0 = addS n ((ps.take i).foldl (addS n) rs0) ps[i] := by
      rw [List.take_succ_eq_append_getElem hi2, List.foldl_append]; rfl
    have ok4 := OkP.fold (n := n) (ps.take i) ok0
    rw [List.length_take] at ok4
    have nd4 := ok4.nd
    have l4 := ok4.ln
    generalize (ps.take i).foldl (addS n) rs0 = rs4 at *
    generalize ps[i] = p at *
    obtain ⟨dx, n2i, es, nn, on, led, led2, rdv, tp, tf, hG, hD, hE, hR, rfl⟩ := id hS4
    obtain ⟨rfl, rfl⟩ := hR.inv0 hg
    repeat wtm_at "w"
    refine info_c (d := d'.hide it _) (by show 3 ≤ d'.room; omega) hS4 nd4 (by show rs4.length ≤ 1000; omega) ?_
    intro ia kvs5 news5 hS5 hv5
    obtain ⟨dx, n2i, es, nn, on, led, led2, rdv, tp, tf, hG, hD, hE, hR, rfl⟩ := id hS5
    obtain ⟨rfl, rfl⟩ := hR.inv0 hg
    obtain ⟨r, hrm, hrn⟩ := List.mem_map.mp (getP_mem rs4 p)
    obtain ⟨ia', da, sa, tn, tp', sv, k, g1, g2, H⟩ := hG.find hrm (getP_nd nd4 p)
    have hia : ia' = ia := by have := H.val; rw [hrn, hv5] at this; cases this; rfl
    subst hia
    have s1 := H.s1
    have m1 := s1.mem
    have m2 := H.md
    have s2 := H.s2
    have m3 := s2.mem
    have hsv : sv.length ≤ 600 := by
      have h1 := H.is.length
      have h2 := (ok4.get p).sc r hrm
      simp at h1; omega
    repeat wtm_at "w"
    refine W_append (by wtm_at "sel") (by omega) ?_
    (repeat wtm_at "lf")
    refine ⟨rfl, ?_⟩
    repeat wtm_at "w"
    (repeat wtm_at "lf")
    rw [tk]
    refine ⟨⟨kvs5, dx, n2i, es, nn, on, _, _, .none, tp, tf, ?_, hD, hE, by show RD g.ready _ _ _; rw [hg]; exact .none, rfl⟩, _, _, _, rfl⟩
    have e1 := H.setS (sv ++ [.int n t]) (r.succ ++ [n]) (k + 1) (by
      have := H.is.append (.cons (n : Int) t .nil)
      simpa [ofN] using this)
    have e2 : updP (getP rs4 p) r.node (fun q => { q with succ := r.succ ++ [n] }) = addS n rs4 p := by
      rw [hrn]; exact updP_same hrm hrn (getP_nd nd4 p) rfl
    rw [e2] at e1
    exact e1
  · intro m1 n1 hj91
    try wtm_at "q"
    obtain ⟨⟨kvs4, hS4⟩, o1, o2, o3, rfl⟩ := hj91
    try wtm_at "uq"
    refine W.re ?_
    try wtm_at "q"
    repeat wtm_at "w"
    have e : (ps.take pv.length).foldl (addS n) rs0 = addP g.rs n ps := by
      rw [hpl, List.take_length, ← hrs0]; rfl
    rw [e] at hS4
    obtain ⟨news6, hS6, hP6⟩ := hS4.out
    (repeat wtm_at "lf")
    exact ⟨news6, _, hP6, h _ _ (hw ▸ hS6)⟩

/- TopologicalSorter() -/
theorem new_c {d : Dy} {m : Loc} {news : Led} {E : Value → Shared → Prop} {Q : Value → Loc → Led → Prop} (hr : 3 ≤ d.room)
    (h : ∀ x news', SO d.w x news ⟨[], none, 0, 0⟩ [] news' → Q (.ref x) m news') : W d (call (.ref 144) []) m news Q E := by
  refine W_make (by omega) (so_mk _).1 (so_mk _).2.1 (so_mk _).2.2 ?_
  intro d' hr' hh' hw x dx
  refine WC_defB (ps := ["self", "graph"]) (LN := ["node", "predecessors"]) (GN := []) ["self", "graph", "node", "predecessors"] (fun _ _ _ _ => False) (P := fun vals n1 => vals = [.ref x, .none] ∧ n1 = (x, instObj 144 dx) :: (dx, emptyDict) :: news) (by k_is) (by k_is) (Nm.of (by decide +kernel)) rfl (by omega)
    (fun s hs _ _ k => BindW.dflt (by rfl) (by k_is) (by rfl) (by rfl) (by rfl) s hs fun b n1 s1 hs1 hp => k b n1 s1 hs1 ⟨[.ref x, .none], hp.1, rfl, rfl, hp.2⟩) (fun _ _ _ _ q => q.elim) ?_
  intro d'' hr'' hh'' hO hN hw' vals n1 hj91
  try wtm_at "q"
  obtain ⟨rfl, rfl⟩ := hj91
  show W d'' _ (Lv ["self", "graph", "node", "predecessors"] [some _, some _, none, none]) ((x, instObj 144 dx) :: (dx, dictOf [] 0) :: news) _ _
  repeat wtm_at "w"
  refine W_dict0 ?_
  intro n2i on hD
  repeat wtm_at "w"
  refine W_setAnew (own0 _) (by wtm_at "lmem") (by wtm_at "sel") .nil (by decide) (by decide) ?_
  intro es1 n1 hE1
  repeat wtm_at "w"
  refine W_setAnew (own1 _) (by wtm_at "lmem") (by wtm_at "sel") hE1 (by decide +kernel) (by decide) ?_
  intro es2 n2 hE2
  repeat wtm_at "w"
  refine W_setAnew (own2 _) (by wtm_at "lmem") (by wtm_at "sel") hE2 (by decide +kernel) (by decide) ?_
  intro es3 n3 hE3
  repeat wtm_at "w"
  refine W_setAnew (own3 _) (by wtm_at "lmem") (by wtm_at "sel") hE3 (by decide +kernel) (by decide) ?_
  intro es4 n4 hE4
  (repeat wtm_at "lf")
  try wtm_at "uq"
  refine W.re ?_
  try wtm_at "q"
  repeat wtm_at "w"
  try rw [if_neg (by decide)]
  repeat wtm_at "w"
  (repeat wtm_at "lf")
  exact ⟨(x, instObj 144 dx) :: (dx, dictOf es4 n4) :: (n2i, on) :: news, [], by wtm_at "perm", _, List.Sublist.refl _, rfl, h _ _ ⟨dx, n2i, es4, n4, on, news, news, .none, _, _, .nil, (hw'.trans hw) ▸ hD, hE4, .none, rfl⟩⟩

/- sorter.is_active() -/
theorem active_c {d : Dy} {m : Loc} {news rest : Led} {E : Value → Shared → Prop} {x : Addr} {g : GS} {kvs : List (Int × Value)} {l : List Nat} {Q : Value → Loc → Led → Prop} (hr : 1 ≤ d.room) (hS : SO d.w x rest g kvs news) (hg : g.ready = some l) (hz : l.length ≤ 1000)
    (h : Q (.bool (decide (g.fi < g.po) || l.length != 0)) m news) : W d (call (.ref 113) [.ref x]) m news Q E := by
  obtain ⟨dx, n2i, es, nn, on, led, led2, rdv, tp, tf, hG, hD, hE, hR, rfl⟩ := id hS
  obtain ⟨a, lv, k, rfl, rfl, hlv⟩ := hR.inv1 hg
  have hll : lv.length = l.length := by have := hlv.length; simpa using this
  refine W_defW (ps := ["self"]) (LN := []) (GN := ["ValueError", "bool"]) ["self"] (by k_is) (by k_is) (Nm.of (by decide +kernel)) rfl (by omega) rfl rfl ?_
  intro d' hr' hh' hO hN hw
  show W d' _ (Lv ["self"] [some _]) _ _ _
  try wtm_at "q"
  repeat wtm_at "w"
  repeat wtm_at "w"
  cases hc : decide (g.fi < g.po) with
  | true =>
    rw [hc] at h
    repeat wtm_at "w"
    (repeat wtm_at "lf")
    exact h
  | false =>
    rw [hc] at h
    repeat wtm_at "w"
    refine W_boolL (by wtm_at "lmem") (by omega) ?_
    rw [hll]
    (repeat wtm_at "lf")
    exact h
noncomputable def outP (rs : List PN) (l : List Nat) : List PN := l.foldl (fun rs n => updP rs n fun r => { r with np := -1 }) rs
theorem outP_nodes : ∀ (l : List Nat) (rs : List PN), (outP rs l).map (·.node) = rs.map (·.node)
  | [], _ => rfl
  | n :: l, rs => (outP_nodes l _).trans (updP_nodes fun _ => rfl)
theorem outP_snoc (rs : List PN) (l : List Nat) (n : Nat) : outP rs (l ++ [n]) = updP (outP rs l) n fun r => { r with np := -1 } := by unfold outP; rw [List.foldl_append]; rfl
noncomputable abbrev grLN : List Str := ["self", "result", "n2i", "node"]
/- sorter.get_ready() -/
theorem ready_c {d : Dy} {m : Loc} {news rest : Led} {E : Value → Shared → Prop} {x : Addr} {g : GS} {kvs : List (Int × Value)} {l : List Nat} {Q : Value → Loc → Led → Prop} (hr : 1 ≤ d.room) (hh : d.A.handled = none) (hS : SO d.w x rest g kvs news) (hg : g.ready = some l) (hz : l.length ≤ 1000) (nd : (g.rs.map (·.node)).Nodup) (hl : ∀ n ∈ l, n ∈ g.rs.map (·.node))
    (h : ∀ D lv news', IntsAre lv (ofN l) → SO d.w x ((D, tupO lv 0) :: rest) ⟨outP g.rs l, some [], g.po + l.length, g.fi⟩ kvs news' → Q (.ref D) m news') : W d (call (.ref 106) [.ref x]) m news Q E := by
  obtain ⟨dx, n2i, es, nn, on, led, led2, rdv, tp, tf, hG, hD, hE, hR, rfl⟩ := id hS
  obtain ⟨a, lv, k, rfl, rfl, hlv⟩ := hR.inv1 hg
  have hll : lv.length = l.length := by have := hlv.length; simpa using this
  have sL : (3000 : Nat) ≤ sizeLine := Nat.le_of_ble_eq_true rfl
  refine W_defW (ps := ["self"]) (LN := ["result", "n2i", "node"]) (GN := ["ValueError", "tuple", "_NODE_OUT", "len"]) grLN (by k_is) (by k_is) (Nm.of (by decide +kernel)) rfl (by omega) rfl rfl ?_
  intro d' hr' hh' hO hN hw
  have hh2 := hh'.trans hh
  rw [← hw] at hD
  show W d' _ (Lv grLN [some _, none, none, none]) _ _ _
  try wtm_at "q"
  repeat wtm_at "w"
  repeat wtm_at "w"
  refine W_tupleL (by wtm_at "lmem") (by omega) ?_
  intro D
  repeat wtm_at "w"
  refine W_cut (fun m1 n1 => (∃ led', GL rest (outP g.rs l) led' kvs ∧ n1 = (D, tupO lv 0) :: (x, instObj 144 dx) :: (dx, dictOf es nn) :: (n2i, on) :: (a, listO lv k) :: led') ∧ ∃ o1, m1 = Lv grLN [some (.ref x), some (.ref D), some (.ref n2i), o1]) ?_ ?_
  · try wtm_at "q"
    refine W_ForTup (l := D) (vs := lv) (k := 0) (fun i m1 n1 => (∃ led', GL rest (outP g.rs (l.take i)) led' kvs ∧ n1 = (D, tupO lv 0) :: (x, instObj 144 dx) :: (dx, dictOf es nn) :: (n2i, on) :: (a, listO lv k) :: led') ∧ ∃ o1, m1 = Lv grLN [some (.ref x), some (.ref D), some (.ref n2i), o1]) hh2 ?_ ?_ ?_ ?_ PassesOwn.never
    · repeat wtm_at "w"
      (repeat wtm_at "lf")
      exact ⟨rfl, ⟨led, hG, rfl⟩, _, rfl⟩
    · intro i m1 n1 hj91
      try wtm_at "q"
      obtain ⟨⟨led', _, rfl⟩, _⟩ := hj91
      exact .head _
    · intro it i v m1 n1 hi hv hj91
      try wtm_at "q"
      obtain ⟨⟨led', hG', rfl⟩, o1, rfl⟩ := hj91
      have hi2 : i < l.length := by omega
      obtain ⟨tv, hv2⟩ := ints_at hlv i (by simpa using hi2)
      rw [hv] at hv2
      have ep : (ofN l).getD i 0 = ((l[i] : Nat) : Int) := by simp [List.getD_eq_getElem?_getD, hi2]
      rw [ep] at hv2
      cases hv2
      have hn := hl l[i] (List.getElem_mem hi2)
      have tk : outP g.rs (l.take (i + 1)) = updP (outP g.rs (l.take i)) l[i] fun r => { r with np := -1 } := by
        rw [List.take_succ_eq_append_getElem hi2, outP_snoc]
      have nd' : ((outP g.rs (l.take i)).map (·.node)).Nodup := by rw [outP_nodes]; exact nd
      rw [← outP_nodes (l.take i)] at hn
      generalize outP g.rs (l.take i) = rs4 at *
      generalize l[i] = p at *
      obtain ⟨r, hrm, hrn⟩ := List.mem_map.mp hn
      obtain ⟨ia, da, sa, tn, tp', sv, k', g1, g2, H⟩ := hG'.find hrm nd'
      have s1 := H.s1
      have m1 := s1.mem
      have m2 := H.md
      have hval := H.val
      rw [hrn] at hval
      repeat wtm_at "w"
      refine W_dItem (d := d'.hide it _) hD (by wtm_at "lmem") hval ?_
      repeat wtm_at "w"
      (repeat wtm_at "lf")
      rw [tk]
      exact ⟨⟨_, hrn ▸ H.setN (-1) 209, rfl⟩, _, rfl⟩
    · intro m1 n1 hj91
      try wtm_at "q"
      obtain ⟨⟨led', hG', rfl⟩, o1, rfl⟩ := hj91
      rw [hll, List.take_length] at hG'
      (repeat wtm_at "lf")
      exact ⟨rfl, ⟨led', hG', rfl⟩, o1, rfl⟩
  · intro m1 n1 hj91
    try wtm_at "q"
    obtain ⟨⟨led', hG', rfl⟩, o1, rfl⟩ := hj91
    try wtm_at "uq"
    refine W.re ?_
    try wtm_at "q"
    repeat wtm_at "w"
    refine W_clear (by wtm_at "sel") (by omega) ?_
    intro k2
    (repeat wtm_at "lf")
    refine ⟨rfl, ?_⟩
    repeat wtm_at "w"
    refine W_lenT (by wtm_at "lmem") (by omega) ?_
    intro t2
    repeat wtm_at "w"
    rename_i es2 nn2 hE2
    rw [hll] at hE2
    have hS2 : SO d.w x rest ⟨outP g.rs l, some [], g.po + l.length, g.fi⟩ kvs ((x, instObj 144 dx) :: (dx, dictOf es2 nn2) :: (n2i, on) :: (a, listO [] k2) :: led') :=
      ⟨dx, n2i, es2, nn2, on, led', _, .ref a, _, tf, hG', hw ▸ hD, hE2, .some .nil, rfl⟩
    obtain ⟨news', hS3, hP3⟩ := hS2.in [(D, tupO lv 0)]
    (repeat wtm_at "lf")
    exact ⟨news', [], by rw [List.append_nil]; exact hP3.symm, h D lv news' hlv hS3⟩

noncomputable def findP (rs : List PN) (n : Nat) : Option PN := rs.find? fun r => decide (r.node = n)
noncomputable def npOf (rs : List PN) (n : Nat) : Int := ((findP rs n).map (·.np)).getD 0
noncomputable def scOf (rs : List PN) (n : Nat) : List Nat := ((findP rs n).map (·.succ)).getD []
theorem findP_of : ∀ {rs : List PN} {r : PN}, r ∈ rs → (rs.map (·.node)).Nodup → findP rs r.node = some r
  | [], _, h, _ => nomatch h
  | a :: rs, r, h, nd => by
    rw [List.map_cons, List.nodup_cons] at nd
    unfold findP
    rw [List.find?_cons]
    rcases List.mem_cons.mp h with rfl | h
    · simp
    · have ne : a.node ≠ r.node := fun e => nd.1 (e ▸ List.mem_map_of_mem h)
      rw [decide_eq_false ne]
      exact findP_of h nd.2
noncomputable def sucP (st : List PN × List Nat) (s : Nat) : List PN × List Nat := (updP st.1 s fun r => { r with np := r.np - 1 }, if npOf st.1 s - 1 = 0 then st.2 ++ [s] else st.2)
noncomputable def done1 (st : List PN × List Nat) (n : Nat) : List PN × List Nat := (scOf st.1 n).foldl sucP (updP st.1 n fun r => { r with np := -2 }, st.2)
noncomputable def doneOk : List PN × List Nat → List Nat → Bool
  | _, [] => true
  | st, n :: l => decide (n ∈ st.1.map (·.node)) && decide (npOf st.1 n = -1) && doneOk (done1 st n) l
/- nodes, successors: they stand -/
noncomputable def SameG (rs rs' : List PN) : Prop := rs'.map (fun r => (r.node, r.succ)) = rs.map (fun r => (r.node, r.succ))
theorem SameG.refl (rs : List PN) : SameG rs rs := rfl
theorem SameG.trans {a b c : List PN} (h1 : SameG a b) (h2 : SameG b c) : SameG a c := Eq.trans h2 h1
theorem SameG.upd (rs : List PN) (n : Nat) (f : PN → PN) (hf : ∀ r, (f r).node = r.node ∧ (f r).succ = r.succ) : SameG rs (updP rs n f) := by
  unfold SameG updP
  rw [List.map_map]
  refine List.map_congr_left fun r _ => ?_
  dsimp only [Function.comp]
  split
  · rw [(hf r).1, (hf r).2]
  · rfl
theorem SameG.nodes {a b : List PN} (h : SameG a b) : b.map (·.node) = a.map (·.node) := by
  have := congrArg (List.map Prod.fst) h
  rw [List.map_map, List.map_map] at this
  exact this
theorem SameG.suc {a b : List PN} (h : SameG a b) {r : PN} (hr : r ∈ b) : ∃ r' ∈ a, r'.node = r.node ∧ r'.succ = r.succ := by
  have : (r.node, r.succ) ∈ b.map (fun r => (r.node, r.succ)) := List.mem_map.mpr ⟨r, hr, rfl⟩
  rw [h] at this
  obtain ⟨r', hr', e⟩ := List.mem_map.mp this
  exact ⟨r', hr', congrArg Prod.fst e, congrArg Prod.snd e⟩
noncomputable def ClosedP (rs : List PN) : Prop := ∀ r ∈ rs, ∀ s ∈ r.succ, s ∈ rs.map (·.node)
theorem SameG.closed {a b : List PN} (h : SameG a b) (hc : ClosedP a) : ClosedP b := fun r hr s hs => by
  obtain ⟨r', hr', e1, e2⟩ := h.suc hr
  rw [h.nodes]
  exact hc r' hr' s (e2 ▸ hs)
theorem SameG.ok {a b : List PN} {B : Nat} (h : SameG a b) (hc : OkP a B) : OkP b B := by
  refine ⟨by rw [h.nodes]; exact hc.nd, ?_, fun r hr => ?_⟩
  · have := congrArg List.length h
    simp only [List.length_map] at this
    have := hc.ln; omega
  · obtain ⟨r', hr', e1, e2⟩ := h.suc hr
    rw [← e2]; exact hc.sc r' hr'
theorem sucP_same (st : List PN × List Nat) (s : Nat) : SameG st.1 (sucP st s).1 := SameG.upd _ _ _ fun _ => ⟨rfl, rfl⟩
theorem foldSuc_same : ∀ (l : List Nat) (st : List PN × List Nat), SameG st.1 (l.foldl sucP st).1
  | [], st => .refl _
  | s :: l, st => (sucP_same st s).trans (foldSuc_same l (sucP st s))
theorem done1_same (st : List PN × List Nat) (n : Nat) : SameG st.1 (done1 st n).1 := (SameG.upd _ _ (fun r => { r with np := -2 }) fun _ => ⟨rfl, rfl⟩).trans (foldSuc_same _ _)
theorem foldDone_same : ∀ (l : List Nat) (st : List PN × List Nat), SameG st.1 (l.foldl done1 st).1
  | [], st => .refl _
  | s :: l, st => (done1_same st s).trans (foldDone_same l (done1 st s))
theorem doneOk_at : ∀ (l : List Nat) (st : List PN × List Nat) (i : Nat) (h : i < l.length), doneOk st l = true → l[i] ∈ ((l.take i).foldl done1 st).1.map (·.node) ∧ npOf ((l.take i).foldl done1 st).1 l[i] = -1
  | [], _, i, h, _ => by simp at h
  | n :: l, st, 0, h, ok => by
    unfold doneOk at ok
    simp only [Bool.and_eq_true, decide_eq_true_eq] at ok
    exact ⟨ok.1.1, ok.1.2⟩
  | n :: l, st, i + 1, h, ok => by
    unfold doneOk at ok
    simp only [Bool.and_eq_true, decide_eq_true_eq] at ok
    exact doneOk_at l (done1 st n) i (by simpa using h) ok.2
theorem Sel.keep {a : Addr} {o : Obj} {l : Led} {g : Obj → Led} (h : Sel a o l g) {p : Addr × Obj} (hp : p ∈ l) (ne : p.1 ≠ a) (o' : Obj) : p ∈ g o' := by
  obtain ⟨pre, post, rfl, e⟩ := h.split
  rw [e]
  rcases List.mem_append.mp hp with q | q
  · exact List.mem_append_left _ q
  · rcases List.mem_cons.mp q with rfl | q
    · exact absurd rfl ne
    · exact List.mem_append_right _ (.tail _ q)
theorem Sel.put {a : Addr} {o : Obj} {l : Led} {g : Obj → Led} (h : Sel a o l g) (o' : Obj) : (a, o') ∈ g o' := by
  obtain ⟨pre, post, rfl, e⟩ := h.split
  rw [e]
  exact List.mem_append_right _ (.head _)
theorem W.nodup {d : Dy} {m : Loc} {news : Led} {E : Value → Shared → Prop} {α : Type} {tt : Sem α} {Q : α → Loc → Led → Prop} (h : (news.map (·.1)).Nodup → W d tt m news Q E) : W d tt m news Q E :=
  .mk fun s hs => by
    obtain ⟨fs, hf, N, nd⟩ := id hs.N
    refine (h ?_).go s hs
    rw [List.map_append] at nd
    exact (List.nodup_append.mp nd).1
theorem nodup_same {l : Led} (nd : (l.map (·.1)).Nodup) {a : Addr} {o o' : Obj} (h1 : (a, o) ∈ l) (h2 : (a, o') ∈ l) : o = o' := by
  induction l with
  | nil => exact nomatch h1
  | cons p l ih =>
    rw [List.map_cons, List.nodup_cons] at nd
    rcases List.mem_cons.mp h1 with e1 | q1
    · rcases List.mem_cons.mp h2 with e2 | q2
      · rw [← e1] at e2; cases e2; rfl
      · exact absurd (List.mem_map.mpr ⟨_, q2, by rw [← e1]⟩) nd.1
    · rcases List.mem_cons.mp h2 with e2 | q2
      · exact absurd (List.mem_map.mpr ⟨_, q1, by rw [← e2]⟩) nd.1
      · exact ih nd.2 q1 q2

noncomputable abbrev doLN : List Str := ["self", "nodes", "n2i", "node", "nodeinfo", "stat", "successor", "successor_info"]
theorem int_of {lv : List Value} {l : List Nat} (h : IntsAre lv (ofN l)) {i : Nat} (hi : i < l.length) {v : Value} (hv : lv[i]? = some v) : ∃ t, v = .int ((l[i] : Nat) : Int) t := by
  obtain ⟨tv, hv2⟩ := ints_at h i (by simpa using hi)
  rw [hv] at hv2
  have ep : (ofN l).getD i 0 = ((l[i] : Nat) : Int) := by simp [List.getD_eq_getElem?_getD, hi]
  rw [ep] at hv2
  cases hv2
  exact ⟨tv, rfl⟩
/- sorter.done(*nodes), all of them passed out -/
theorem done_k {d : Dy} {m : Loc} {news rest : Led} {E : Value → Shared → Prop} {x : Addr} {g : GS} {kvs : List (Int × Value)} {l rd : List Nat} {lw : List Value} {Q : Value → Loc → Led → Prop} (hr : 1 ≤ d.room) (hh : d.A.handled = none) (hS : SO d.w x rest g kvs news) (hg : g.ready = some rd) (ok : OkP g.rs 500) (hc : ClosedP g.rs) (hz : rd.length ≤ 1000) (hz2 : l.length ≤ 1000)
    (hl : IntsAre lw (ofN l)) (hok : doneOk (g.rs, rd) l = true)
    (h : ∀ news', SO d.w x rest ⟨(l.foldl done1 (g.rs, rd)).1, some (l.foldl done1 (g.rs, rd)).2, g.po, g.fi + l.length⟩ kvs news' → Q .none m news') : WC d (.call (.ref 127) ⟨.ref x :: lw, []⟩) m news Q E := by
  have hll : lw.length = l.length := by have := hl.length; simpa using this
  have sL : (3000000 : Nat) ≤ sizeLine := Nat.le_of_ble_eq_true rfl
  refine WC_defS (ps := ["self", "nodes"]) (LN := ["n2i", "node", "nodeinfo", "stat", "successor", "successor_info"]) (GN := ["ValueError", "_NODE_OUT", "_NODE_DONE"]) doLN (rest := lw) (vals := fun D => [.ref x, D]) (fun _ _ _ _ => False) (by k_is) (by k_is) (Nm.of (by decide +kernel)) rfl (by omega) (by cases lw <;> rfl) (fun _ => rfl) (by omega) (fun _ _ _ _ q => q.elim) ?_
  intro d' hr' hh' hO hN hw D
  have hh2 := hh'.trans hh
  rw [← hw] at hS
  obtain ⟨news1, hS1, hP1⟩ := hS.in [(D, tupO lw 0)]
  refine W.perm (n' := news1) ?_ hP1
  refine W.never ?_
  try wtm_at "uq"
  refine W.re ?_
  try wtm_at "q"
  show W d' _ (Lv doLN [some _, some _, none, none, none, none, none, none]) _ _ _
  try wtm_at "q"
  obtain ⟨dx, n2i, es, nn, on, led, led2, rdv, tp, tf, hG, hD, hE, hR, rfl⟩ := id hS1
  obtain ⟨a, lv, k, rfl, rfl, hlv⟩ := hR.inv1 hg
  repeat wtm_at "w"
  try rw [if_neg (by simp)]
  repeat wtm_at "w"
  refine W_cut (fun m1 n1 => ∃ st, And3 (st = l.foldl done1 (g.rs, rd)) (Ex6 fun led lv k es nn tf => And4 (GL ([(D, tupO lw 0)] ++ rest) st.1 led kvs) (IntsAre lv (ofN st.2)) (Ent soN [some (.ref n2i), some (.ref a), some (.int g.po tp), some (.int (g.fi + l.length) tf)] es) (n1 = (x, instObj 144 dx) :: (dx, dictOf es nn) :: (n2i, on) :: (a, listO lv k) :: led)) (Ex5 fun o1 o2 o3 o4 o5 => m1 = Lv doLN [some (.ref x), some (.ref D), some (.ref n2i), o1, o2, o3, o4, o5])) ?_ ?_
  · try wtm_at "q"
    refine W_ForTup (l := D) (vs := lw) (k := 0) (fun i m1 n1 => ∃ st, And4 (st = (l.take i).foldl done1 (g.rs, rd)) (st.2.length ≤ 1000 + 500 * i) (Ex6 fun led lv k es nn tf => And4 (GL ([(D, tupO lw 0)] ++ rest) st.1 led kvs) (IntsAre lv (ofN st.2)) (Ent soN [some (.ref n2i), some (.ref a), some (.int g.po tp), some (.int (g.fi + i) tf)] es) (n1 = (x, instObj 144 dx) :: (dx, dictOf es nn) :: (n2i, on) :: (a, listO lv k) :: led)) (Ex5 fun o1 o2 o3 o4 o5 => m1 = Lv doLN [some (.ref x), some (.ref D), some (.ref n2i), o1, o2, o3, o4, o5])) hh2 ?_ ?_ ?_ ?_ PassesOwn.never
    · repeat wtm_at "w"
      (repeat wtm_at "lf")
      refine ⟨rfl, _, rfl, by simpa using hz, ⟨led, lv, k, es, nn, tf, hG, hlv, ?_, rfl⟩, _, _, _, _, _, rfl⟩
      rw [show g.fi + ((0 : Nat) : Int) = g.fi by omega]; exact hE
    · intro i m1 n1 hj91
      try wtm_at "q"
      obtain ⟨st, _, _, ⟨led, lv, k, es, nn, tf, hG, hlv, hE, rfl⟩, _⟩ := hj91
      exact .tail _ (.tail _ (.tail _ (.tail _ (hG.mem (.head _)))))
    · intro it i v m1 n1 hi hv hj91
      try wtm_at "q"
      obtain ⟨st, hst, hsz, ⟨led, lv, k, es, nn, tf, hG, hlv, hE, rfl⟩, o1, o2, o3, o4, o5, rfl⟩ := hj91
      have hi2 : i < l.length := by omega
      obtain ⟨tv, rfl⟩ := int_of hl hi2 hv
      obtain ⟨hmem, hnp⟩ := doneOk_at l (g.rs, rd) i hi2 hok
      have hsame := foldDone_same (l.take i) (g.rs, rd)
      have tk : (l.take (i + 1)).foldl done1 (g.rs, rd) = done1 st l[i] := by
        rw [List.take_succ_eq_append_getElem hi2, List.foldl_append, hst]; rfl
      rw [← hst] at hmem hnp hsame
      have ok' := hsame.ok ok
      have hc' := hsame.closed hc
      generalize l[i] = p at *
      obtain ⟨r, hrm, hrn⟩ := List.mem_map.mp hmem
      have hfi : findP st.1 p = some r := by rw [← hrn]; exact findP_of hrm ok'.nd
      have hnp2 : r.np = -1 := by unfold npOf at hnp; rw [hfi] at hnp; exact hnp
      obtain ⟨ia, da, sa, tn, tp', sv, k', g1, g2, H⟩ := hG.find hrm ok'.nd
      have s1 := H.s1
      have q1 := s1.mem
      have q2 := H.md
      have s2 := H.s2
      have q3 := s2.mem
      have hval := H.val
      rw [hrn] at hval
      repeat wtm_at "w"
      refine W_dGet (d := d'.hide it _) hD (by wtm_at "lmem") ?_
      rw [hval]
      dsimp only [Option.getD]
      repeat wtm_at "w"
      repeat wtm_at "w"
      rw [hnp2, if_neg (by simp)]
      refine W.nodup fun ndl => ?_
      have nsa : sa ≠ ia := by
        rintro rfl
        have := nodup_same ndl (.tail _ (.tail _ (.tail _ (.tail _ q1)))) (.tail _ (.tail _ (.tail _ (.tail _ q3))))
        cases this
      have nda : da ≠ ia := by
        rintro rfl
        have := nodup_same ndl (.tail _ (.tail _ (.tail _ (.tail _ q1)))) (.tail _ (.tail _ (.tail _ (.tail _ q2))))
        cases this
      repeat wtm_at "w"
      have q1' := s1.put (nodeO da (.int r.node tn) (.int (-2) 212) sa)
      have q2' := s1.keep q2 nda (nodeO da (.int r.node tn) (.int (-2) 212) sa)
      have q3' := s1.keep q3 nsa (nodeO da (.int r.node tn) (.int (-2) 212) sa)
      have hG1 := H.setN (-2) 212
      have eu : updP st.1 r.node (fun q => { q with np := -2 }) = updP st.1 p (fun q => { q with np := -2 }) := by rw [hrn]
      rw [eu] at hG1
      have same1 := SameG.upd st.1 p (fun r => { r with np := -2 }) fun _ => ⟨rfl, rfl⟩
      have hsc : scOf st.1 p = r.succ := by unfold scOf; rw [hfi]; rfl
      have hsl : sv.length = r.succ.length := by have := H.is.length; simpa using this
      have hrl := ok'.sc r hrm
      have hd1 : done1 st p = r.succ.foldl sucP (updP st.1 p fun r => { r with np := -2 }, st.2) := by unfold done1; rw [hsc]
      generalize updP st.1 p (fun r => { r with np := -2 }) = rs1 at *
      refine W_cut (fun m1 n1 => ∃ st2, And4 (st2 = r.succ.foldl sucP (rs1, st.2)) (st2.2.length ≤ 1000 + 500 * (i + 1)) (Ex3 fun led lv k => And3 (GL ([(D, tupO lw 0)] ++ rest) st2.1 led kvs) (IntsAre lv (ofN st2.2)) (n1 = (x, instObj 144 dx) :: (dx, dictOf es nn) :: (n2i, on) :: (a, listO lv k) :: led)) (Ex5 fun o1 o2 o3 o4 o5 => m1 = Lv doLN [some (.ref x), some (.ref D), some (.ref n2i), o1, o2, o3, o4, o5])) ?_ ?_
      · try wtm_at "q"
        refine W_ForList (l := sa) (vs := sv) (k := k') (fun j m1 n1 => ∃ st2, And4 (st2 = (r.succ.take j).foldl sucP (rs1, st.2)) (st2.2.length ≤ 1000 + 500 * i + j) (Ex3 fun led lv k => And4 (GL ([(D, tupO lw 0)] ++ rest) st2.1 led kvs) (IntsAre lv (ofN st2.2)) ((sa, listO sv k') ∈ led) (n1 = (x, instObj 144 dx) :: (dx, dictOf es nn) :: (n2i, on) :: (a, listO lv k) :: led)) (Ex5 fun o1 o2 o3 o4 o5 => m1 = Lv doLN [some (.ref x), some (.ref D), some (.ref n2i), o1, o2, o3, o4, o5])) hh2 ?_ ?_ ?_ ?_ PassesOwn.never
        · repeat wtm_at "w"
          (repeat wtm_at "lf")
          exact ⟨rfl, _, rfl, by simpa using hsz, ⟨_, lv, k, hG1, hlv, q3', rfl⟩, _, _, _, _, _, rfl⟩
        · intro j m1 n1 hj91
          try wtm_at "q"
          obtain ⟨st2, _, _, ⟨led, lv, k, _, _, hm, rfl⟩, _⟩ := hj91
          exact .tail _ (.tail _ (.tail _ (.tail _ hm)))
        · intro it2 j v m1 n1 hj hv2 hj91
          try wtm_at "q"
          obtain ⟨st2, hst2, hsz2, ⟨led2, lv2, k2, hG2, hlv2, hsm, rfl⟩, o1, o2, o3, o4, o5, rfl⟩ := hj91
          have hj2 : j < r.succ.length := by omega
          obtain ⟨tv2, rfl⟩ := int_of H.is hj2 hv2
          have tk2 : (r.succ.take (j + 1)).foldl sucP (rs1, st.2) = sucP st2 r.succ[j] := by
            rw [List.take_succ_eq_append_getElem hj2, List.foldl_append, hst2]; rfl
          have same2 := same1.trans (foldSuc_same (r.succ.take j) (rs1, st.2))
          rw [← hst2] at same2
          have ok2 := same2.ok ok'
          have hm2 : r.succ[j] ∈ st2.1.map (·.node) := by rw [same2.nodes]; exact hc' r hrm _ (List.getElem_mem hj2)
          generalize r.succ[j] = q at *
          obtain ⟨r2, hrm2, hrn2⟩ := List.mem_map.mp hm2
          have hfi2 : findP st2.1 q = some r2 := by rw [← hrn2]; exact findP_of hrm2 ok2.nd
          have hnpq : npOf st2.1 q = r2.np := by unfold npOf; rw [hfi2]; rfl
          obtain ⟨ia2, da2, sa2, tn2, tp2, sv2, kk2, g12, g22, H2⟩ := hG2.find hrm2 ok2.nd
          have z1 := H2.s1
          have z2 := z1.mem
          have z3 := H2.md
          have hval2 := H2.val
          rw [hrn2] at hval2
          refine W.nodup fun ndl2 => ?_
          have n1 : sa ≠ ia2 := by
            rintro rfl
            have := nodup_same ndl2 (.tail _ (.tail _ (.tail _ (.tail _ z2)))) (.tail _ (.tail _ (.tail _ (.tail _ hsm))))
            cases this
          have n2 : da2 ≠ ia2 := by
            rintro rfl
            have := nodup_same ndl2 (.tail _ (.tail _ (.tail _ (.tail _ z2)))) (.tail _ (.tail _ (.tail _ (.tail _ z3))))
            cases this
          repeat wtm_at "w"
          refine W_dItem (d := (d'.hide it _).hide it2 _) hD (by wtm_at "lmem") hval2 ?_
          repeat wtm_at "w"
          rename_i tq _ _
          have w1 := z1.put (nodeO da2 (.int r2.node tn2) (.int (r2.np - 1) tq) sa2)
          have w2 := z1.keep z3 n2 (nodeO da2 (.int r2.node tn2) (.int (r2.np - 1) tq) sa2)
          have w3 := z1.keep hsm n1 (nodeO da2 (.int r2.node tn2) (.int (r2.np - 1) tq) sa2)
          have hG3 := H2.setN (r2.np - 1) tq
          have eu2 : updP st2.1 r2.node (fun z => { z with np := r2.np - 1 }) = updP st2.1 q (fun z => { z with np := z.np - 1 }) := by
            rw [hrn2]; exact updP_same hrm2 hrn2 ok2.nd rfl
          rw [eu2] at hG3
          have hsp : sucP st2 q = (updP st2.1 q (fun z => { z with np := z.np - 1 }), if r2.np - 1 = 0 then st2.2 ++ [q] else st2.2) := by unfold sucP; rw [hnpq]
          have hl2 : lv2.length = st2.2.length := by have := hlv2.length; simpa using this
          repeat wtm_at "w"
          split
          · rename_i hc0
            have hc0 : r2.np - 1 = 0 := by simpa using hc0
            repeat wtm_at "w"
            refine W_append (by wtm_at "sel") (by omega) ?_
            (repeat wtm_at "lf")
            refine ⟨rfl, ?_⟩
            repeat wtm_at "w"
            (repeat wtm_at "lf")
            rw [tk2, hsp, if_pos hc0]
            refine ⟨_, rfl, by simp; omega, ⟨_, _, _, hG3, ?_, w3, rfl⟩, _, _, _, _, _, rfl⟩
            have := hlv2.append (.cons (q : Int) tv2 .nil)
            simpa [ofN] using this
          · rename_i hc0
            have hc0 : ¬ r2.np - 1 = 0 := by simpa using hc0
            repeat wtm_at "w"
            (repeat wtm_at "lf")
            rw [tk2, hsp, if_neg hc0]
            exact ⟨_, rfl, by show st2.2.length ≤ _; omega, ⟨_, _, _, hG3, hlv2, w3, rfl⟩, _, _, _, _, _, rfl⟩
        · intro m1 n1 hj91
          try wtm_at "q"
          obtain ⟨st2, hst2, hsz2, ⟨led2, lv2, k2, hG2, hlv2, hsm, rfl⟩, o1, o2, o3, o4, o5, rfl⟩ := hj91
          rw [hsl, List.take_length] at hst2
          (repeat wtm_at "lf")
          exact ⟨rfl, st2, hst2, by omega, ⟨led2, lv2, k2, hG2, hlv2, rfl⟩, _, _, _, _, _, rfl⟩
      · intro m1 n1 hj91
        try wtm_at "q"
        obtain ⟨st2, hst2, hsz2, ⟨led2, lv2, k2, hG2, hlv2, rfl⟩, o1, o2, o3, o4, o5, rfl⟩ := hj91
        repeat wtm_at "w"
        rename_i es2 nn2 hE2
        rw [show g.fi + (i : Int) + 1 = g.fi + ((i + 1 : Nat) : Int) by omega] at hE2
        (repeat wtm_at "lf")
        rw [tk, hd1]
        exact ⟨st2, hst2, hsz2, ⟨led2, lv2, k2, es2, nn2, _, hG2, hlv2, hE2, rfl⟩, _, _, _, _, _, rfl⟩
    · intro m1 n1 hj91
      try wtm_at "q"
      obtain ⟨st, hst, hsz, ⟨led, lv, k, es, nn, tf, hG, hlv, hE, rfl⟩, o1, o2, o3, o4, o5, rfl⟩ := hj91
      rw [hll] at hE
      rw [hll, List.take_length] at hst
      (repeat wtm_at "lf")
      exact ⟨rfl, st, hst, ⟨led, lv, k, es, nn, tf, hG, hlv, hE, rfl⟩, _, _, _, _, _, rfl⟩
  · intro m1 n1 hj91
    try wtm_at "q"
    obtain ⟨st, hst, ⟨led, lv, k, es, nn, tf, hG, hlv, hE, rfl⟩, o1, o2, o3, o4, o5, rfl⟩ := hj91
    repeat wtm_at "w"
    rw [← hst] at h
    have hS5 : SO d'.w x ([(D, tupO lw 0)] ++ rest) ⟨st.1, some st.2, g.po, g.fi + l.length⟩ kvs ((x, instObj 144 dx) :: (dx, dictOf es nn) :: (n2i, on) :: (a, listO lv k) :: led) :=
      ⟨dx, n2i, es, nn, on, led, _, .ref a, tp, tf, hG, hD, hE, .some hlv, rfl⟩
    obtain ⟨news6, hS6, hP6⟩ := hS5.out
    (repeat wtm_at "lf")
    exact ⟨news6, _, hP6, h _ (hw ▸ hS6)⟩

noncomputable abbrev wordA (n : Nat) : Str := Str.empty ++ Str.ofString "node " ++ Str.ofString (toString (n : Int)) ++ Str.ofString " was already marked done"
noncomputable abbrev wordB (n : Nat) : Str := Str.empty ++ Str.ofString "node " ++ Str.ofString (toString (n : Int)) ++ Str.ofString " was not passed out (still not ready)"
/- sorter.done(node), done already or still not ready -/
theorem done_x {d : Dy} {m : Loc} {news rest : Led} {E : Value → Shared → Prop} {x : Addr} {g : GS} {kvs : List (Int × Value)} {rd : List Nat} {n : Nat} {t : Tok} {Q : Value → Loc → Led → Prop} (hr : 1 ≤ d.room) (hh : d.A.handled = none) (hS : SO d.w x rest g kvs news) (hg : g.ready = some rd) (nd : (g.rs.map (·.node)).Nodup) (hn : n ∈ g.rs.map (·.node)) (hn4 : n < 4)
    (hnp : 0 ≤ npOf g.rs n ∨ npOf g.rs n = -2)
    (hx : ∀ ev s t tt news', SO d.w x ((t, tupO [.str (if 0 ≤ npOf g.rs n then wordB n else wordA n) tt] 0) :: rest) g kvs news' → XF d m news' (.type "ValueError") (.ref t) ev s → E ev s) : W d (call (.ref 127) [.ref x, .int n t]) m news Q E := by
  have sL : (3000000 : Nat) ≤ sizeLine := Nat.le_of_ble_eq_true rfl
  have hlog : ((n : Int)).natAbs.log2 < 1920 := by rcases (by omega : n = 0 ∨ n = 1 ∨ n = 2 ∨ n = 3) with rfl | rfl | rfl | rfl <;> decide
  have hlen : (Str.ofString (toString (n : Int))).length ≤ 1000 := by rcases (by omega : n = 0 ∨ n = 1 ∨ n = 2 ∨ n = 3) with rfl | rfl | rfl | rfl <;> decide +kernel
  refine W_defS (ps := ["self", "nodes"]) (LN := ["n2i", "node", "nodeinfo", "stat", "successor", "successor_info"]) (GN := ["ValueError", "_NODE_OUT", "_NODE_DONE"]) doLN (rest := [.int n t]) (vals := fun D => [.ref x, D])
    (fun m' n' cls a0 => cls = .type "ValueError" ∧ Ex4 fun t tt news' X => And3 (a0 = .ref t) (SO d.w x ((t, tupO [.str (if 0 ≤ npOf g.rs n then wordB n else wordA n) tt] 0) :: rest) g kvs news') (n'.Perm (news' ++ X))) (by k_is) (by k_is) (Nm.of (by decide +kernel)) rfl (by omega) (by rfl) (fun _ => rfl) (by simp; omega) ?_ ?_
  · intro m' n' cls a0 hj91
    try wtm_at "q"
    obtain ⟨rfl, t, tt, news', X, rfl, hS', hP⟩ := hj91
    (repeat wtm_at "lf")
    exact ⟨_, List.Sublist.refl _, fun ev s hxf => hx ev s t tt news' hS' (hxf.re hP)⟩
  intro d' hr' hh' hO hN hw D
  obtain ⟨outer, hO⟩ := hO
  have hh2 := hh'.trans hh
  rw [← hw] at hS
  obtain ⟨news1, hS1, hP1⟩ := hS.in [(D, tupO [.int n t] 0)]
  refine W.perm (n' := news1) ?_ hP1
  show W d' _ (Lv doLN [some _, some _, none, none, none, none, none, none]) _ _ _
  try wtm_at "q"
  obtain ⟨dx, n2i, es, nn, on, led, led2, rdv, tp, tf, hG, hD, hE, hR, rfl⟩ := id hS1
  obtain ⟨a, lv, k, rfl, rfl, hlv⟩ := hR.inv1 hg
  repeat wtm_at "w"
  repeat wtm_at "w"
  refine W_cons ?_
  refine W_ForTup (l := D) (vs := [.int n t]) (k := 0) (fun i m1 n1 => i = 0 ∧ n1 = (x, instObj 144 dx) :: (dx, dictOf es nn) :: (n2i, on) :: (a, listO lv k) :: led ∧ m1 = Lv doLN [some (.ref x), some (.ref D), some (.ref n2i), none, none, none, none, none]) hh2 ?_ ?_ ?_ ?_ (XE.passes hO rfl _)
  · repeat wtm_at "w"
    (repeat wtm_at "lf")
    exact ⟨rfl, rfl, rfl, rfl⟩
  · intro i m1 n1 hj91
    try wtm_at "q"
    obtain ⟨_, rfl, _⟩ := hj91
    exact .tail _ (.tail _ (.tail _ (.tail _ (hG.mem (.head _)))))
  · intro it i v m1 n1 hi hv hj91
    try wtm_at "q"
    obtain ⟨rfl, rfl, rfl⟩ := hj91
    cases hv
    obtain ⟨r, hrm, hrn⟩ := List.mem_map.mp hn
    have hfi : findP g.rs n = some r := by rw [← hrn]; exact findP_of hrm nd
    have hnp2 : npOf g.rs n = r.np := by unfold npOf; rw [hfi]; rfl
    rw [hnp2] at hnp
    obtain ⟨ia, da, sa, tn, tp', sv, k', g1, g2, H⟩ := hG.find hrm nd
    have s1 := H.s1
    have q1 := s1.mem
    have q2 := H.md
    have hval := H.val
    rw [hrn] at hval
    repeat wtm_at "w"
    refine W_dGet (d := d'.hide it _) hD (by wtm_at "lmem") ?_
    rw [hval]
    dsimp only [Option.getD]
    repeat wtm_at "w"
    repeat wtm_at "w"
    try rw [if_pos (by simp; omega)]
    repeat wtm_at "w"
    have fin : ∀ (w : Str) (ev : Value) (s : Shared) (tt : Addr) (tk : Tok) (m2 : Loc), w = (if 0 ≤ npOf g.rs n then wordB n else wordA n) → XF (d'.hide it (tupIt D (0 + 1))) m2 ((tt, tupO [.str w tk] 0) :: (x, instObj 144 dx) :: (dx, dictOf es nn) :: (n2i, on) :: (a, listO lv k) :: led) (.type "ValueError") (.ref tt) ev s →
        XE d' (fun m' n' cls a0 => cls = .type "ValueError" ∧ Ex4 fun t tt news' X => And3 (a0 = .ref t) (SO d.w x ((t, tupO [.str (if 0 ≤ npOf g.rs n then wordB n else wordA n) tt] 0) :: rest) g kvs news') (n'.Perm (news' ++ X))) ev s := by
      rintro w ev s tt tk m2 rfl hxf
      obtain ⟨news5, hS5, hP5⟩ := hS1.in [(tt, tupO [.str (if 0 ≤ npOf g.rs n then wordB n else wordA n) tk] 0)]
      obtain ⟨news6, core, h61, h62, h63⟩ := hS5.re ((tt, tupO [.str (if 0 ≤ npOf g.rs n then wordB n else wordA n) tk] 0) :: rest)
      (repeat wtm_at "lf")
      refine ⟨_, _, _, _, hxf.unhide, rfl, tt, tk, news6, [(D, tupO [.int n t] 0)], rfl, hw ▸ h61, hP5.symm.trans (h62.trans (List.Perm.trans ?_ (h63.symm.append_right _)))⟩
      wtm_at "perm"
    split
    · rename_i hc
      have hc : 0 ≤ r.np := by simpa using hc
      refine W_cons (W_raiseT PySem.F.excCall_ValueError PySem.F.excRaise_ValueError hh2 ?_)
      repeat wtm_at "w"
      (repeat wtm_at "lf")
      refine ⟨rfl, ?_⟩
      refine W_spl ?_
      refine W_fstr (by decide +kernel) (by decide +kernel) ?_
      repeat wtm_at "w"
      (repeat wtm_at "lf")
      refine ⟨_, _, rfl, hlog, hlen, fun t' => ?_⟩
      repeat wtm_at "w"
      (repeat wtm_at "lf")
      refine ⟨by simp; omega, fun ev s tt hxf => fin _ ev s tt t' _ ?_ hxf⟩
      rw [hnp2, if_pos hc]
    · rename_i hc
      have hc : ¬ 0 ≤ r.np := by simpa using hc
      repeat wtm_at "w"
      try rw [if_pos (by simp; omega)]
      refine W_cons (W_raiseT PySem.F.excCall_ValueError PySem.F.excRaise_ValueError hh2 ?_)
      repeat wtm_at "w"
      (repeat wtm_at "lf")
      refine ⟨rfl, ?_⟩
      refine W_spl ?_
      refine W_fstr (by decide +kernel) (by decide +kernel) ?_
      repeat wtm_at "w"
      (repeat wtm_at "lf")
      refine ⟨_, _, rfl, hlog, hlen, fun t' => ?_⟩
      repeat wtm_at "w"
      (repeat wtm_at "lf")
      refine ⟨by simp; omega, fun ev s tt hxf => fin _ ev s tt t' _ ?_ hxf⟩
      rw [hnp2, if_neg hc]
  · intro m1 n1 hj91
    try wtm_at "q"
    obtain ⟨h0, _⟩ := hj91
    exact absurd h0 (by simp)

noncomputable def advP (rs : List PN) : List (Nat × Nat) → Option (Nat × List (Nat × Nat))
  | [] => none
  | (v, i) :: st => match (scOf rs v)[i]? with
    | some w => some (w, (v, i + 1) :: st)
    | none => advP rs st
noncomputable def posOf : List (Nat × Nat) → Nat → Nat
  | [], _ => 0
  | (_, _) :: st, v => if v ∈ st.map (·.1) then posOf st v else st.length
noncomputable def ringF (st : List (Nat × Nat)) (v : Nat) : List Nat := ((st.map (·.1)).reverse.drop (posOf st v)) ++ [v]
noncomputable def fcW (rs : List PN) : Nat → List Nat → List (Nat × Nat) → Nat → Option (Option (List Nat) × List Nat)
  | 0, _, _, _ => none
  | f + 1, seen, st, node =>
    if 900 ≤ seen.length ∨ 900 ≤ st.length then none
    else if node ∈ seen then
      if node ∈ st.map (·.1) then some (some (ringF st node), seen)
      else match advP rs st with
        | none => some (none, seen)
        | some (w, st') => fcW rs f seen st' w
    else if node ∈ st.map (·.1) then none
    else match advP rs ((node, 0) :: st) with
      | none => some (none, node :: seen)
      | some (w, st') => fcW rs f (node :: seen) st' w
noncomputable def fcF (rs : List PN) (fuel : Nat) : List Nat → List Nat → Option (Option (List Nat))
  | _, [] => some none
  | seen, k :: ks =>
    if 900 ≤ seen.length then none
    else if k ∈ seen then fcF rs fuel seen ks
    else match fcW rs fuel seen [] k with
      | none => none
      | some (some ring, _) => some (some ring)
      | some (none, seen') => fcF rs fuel seen' ks
/- the walk's own objects -/
inductive FSt (B : Led) (rs : List PN) : List (Nat × Nat) → List Value → List Value → List (Int × Value) → Led → Prop
  | nil : FSt B rs [] [] [] [] []
  | cons {v i : Nat} {st : List (Nat × Nat)} {skv ikv : List Value} {kvs : List (Int × Value)} {isl : Led} {sa it mw : Addr} {sv : List Value} {k : Nat} {t1 t2 : Tok} : (sa, listO sv k) ∈ B → IntsAre sv (ofN (scOf rs v)) → FSt B rs st skv ikv kvs isl →
      FSt B rs ((v, i) :: st) (skv ++ [.int v t1]) (ikv ++ [.ref mw]) (kvs ++ [((v : Int), .int st.length t2)]) ((mw, mwO it) :: (it, liO sa i) :: isl)
section
variable {B : Led} {rs : List PN} {st : List (Nat × Nat)} {skv ikv : List Value} {kvs : List (Int × Value)} {isl : Led}
theorem FSt.len (h : FSt B rs st skv ikv kvs isl) : skv.length = st.length ∧ ikv.length = st.length ∧ kvs.length = st.length := by
  induction h with
  | nil => exact ⟨rfl, rfl, rfl⟩
  | cons _ _ _ ih => simp [ih]
theorem FSt.ints (h : FSt B rs st skv ikv kvs isl) : IntsAre skv (ofN (st.map (·.1)).reverse) := by
  induction h with
  | nil => exact .nil
  | @cons u i st skv ikv kvs isl sa it mw sv k t1 t2 _ _ _ ih =>
    have := ih.append (.cons (u : Int) t1 .nil)
    simpa [ofN] using this
theorem FSt.keys (h : FSt B rs st skv ikv kvs isl) (v : Nat) : (v : Int) ∈ kvs.map (·.1) ↔ v ∈ st.map (·.1) := by
  induction h with
  | nil => simp
  | @cons u i st skv ikv kvs isl sa it mw sv k t1 t2 _ _ _ ih =>
    rw [List.map_append, List.mem_append, ih]
    simp only [List.map_cons, List.map_nil, List.mem_cons, List.not_mem_nil, or_false]
    constructor
    · rintro (h | h)
      · exact .inr h
      · exact .inl (by omega)
    · rintro (h | h)
      · exact .inr (by omega)
      · exact .inl h
theorem FSt.some (h : FSt B rs st skv ikv kvs isl) (v : Nat) : (valueAt kvs (v : Int)).isSome = decide (v ∈ st.map (·.1)) := by
  rw [valueAt_isSome_eq_any, Bool.eq_iff_iff, decide_eq_true_eq, ← h.keys v, List.any_eq_true, List.mem_map]
  constructor
  · rintro ⟨p, hp, e⟩; exact ⟨p, hp, by simpa using e⟩
  · rintro ⟨p, hp, e⟩; exact ⟨p, hp, by simpa using e⟩
theorem FSt.pos (h : FSt B rs st skv ikv kvs isl) {v : Nat} (hv : v ∈ st.map (·.1)) : ∃ t, valueAt kvs (v : Int) = Option.some (.int (posOf st v) t) := by
  induction h with
  | nil => simp at hv
  | @cons u i st skv ikv kvs isl sa it mw sv k t1 t2 _ _ hs ih =>
    unfold posOf
    by_cases hm : v ∈ st.map (·.1)
    · rw [if_pos hm]
      obtain ⟨t, ht⟩ := ih hm
      refine ⟨t, ?_⟩
      unfold valueAt at ht ⊢
      rw [List.find?_append]
      obtain ⟨p, hp, e⟩ := Option.map_eq_some_iff.mp ht
      rw [hp]
      simpa using e
    · rw [if_neg hm]
      have hn := hs.some v
      rw [decide_eq_false hm] at hn
      refine ⟨t2, ?_⟩
      have hn' : valueAt kvs (v : Int) = Option.none := by simpa using hn
      unfold valueAt at hn' ⊢
      rw [List.find?_append]
      have hn2 : kvs.find? (fun kv => decide (kv.1 = (v : Int))) = Option.none := by simpa using hn'
      rw [hn2]
      have : u = v := by
        rw [List.map_cons] at hv
        rcases List.mem_cons.mp hv with e | e
        · exact e.symm
        · exact absurd e hm
      simp [this]
end
theorem without_last {kvs : List (Int × Value)} {v : Int} {x : Value} (h : ((kvs ++ [(v, x)]).map (·.1)).Nodup) : without (kvs ++ [(v, x)]) v = kvs := by
  unfold without
  rw [List.map_append] at h
  have hn := (List.nodup_append.mp h).2.2
  rw [List.filter_append, List.filter_eq_self.mpr]
  · simp
  · intro p hp
    have := hn p.1 (List.mem_map_of_mem hp) v (by simp)
    simpa using this
theorem DI.nodup {w : World} {a : Addr} {kvs : List (Int × Value)} {o : Obj} (h : DI w a kvs o) : (kvs.map (·.1)).Nodup := by
  obtain ⟨_, es, ep, _, _, _, _, nd⟩ := h
  exact nd
theorem adv_mem {rs : List PN} (hc : ClosedP rs) : ∀ {st : List (Nat × Nat)} {w : Nat} {st' : List (Nat × Nat)}, advP rs st = some (w, st') → w ∈ rs.map (·.node)
  | [], _, _, h => by simp [advP] at h
  | (v, i) :: st, w, st', h => by
    unfold advP at h
    split at h
    · rename_i u hu
      cases h
      have hm := List.mem_of_getElem? hu
      unfold scOf at hm
      cases hf : findP rs v with
      | none => rw [hf] at hm; simp at hm
      | some r =>
        rw [hf] at hm
        have hr : r ∈ rs := List.mem_of_find?_eq_some hf
        exact hc r hr _ hm
    · exact adv_mem hc h

theorem SI.stop_isExc : isSubtype (.type "StopIteration") (.type "BaseException") = pure true := by rw [isSubtype_type]; kernel_rfl
theorem SI.stop_notTuple : isSubtype (.type ((Manifest.find? "StopIteration").elim "type" fun x => x.metatype)) (.type "tuple") = pure false := by
  rw [show ((Manifest.find? "StopIteration").elim "type" fun x => x.metatype) = "type" from by kernel_rfl, isSubtype_type]; kernel_rfl
theorem SI.stop_self : isSubtype (.type "StopIteration") (.type "StopIteration") = pure true := by rw [isSubtype_type]; kernel_rfl
noncomputable abbrev fcLN : List Str := ["self", "n2i", "stack", "itstack", "seen", "node2stacki", "node"]
/- sorter._find_cycle() -/
theorem cyc_c {d : Dy} {m : Loc} {news rest : Led} {E : Value → Shared → Prop} {x : Addr} {g : GS} {kvs : List (Int × Value)} {F : Nat} {res : Option (List Nat)} {Q : Value → Loc → Led → Prop} (hr : 1 ≤ d.room) (hh : d.A.handled = none) (hS : SO d.w x rest g kvs news) (ok : OkP g.rs 500) (hc : ClosedP g.rs)
    (hF : fcF g.rs F [] (g.rs.map (·.node)) = some res) (h : match res with | none => Q .none m news | some ring => ∀ D rv k, IntsAre rv (ofN ring) → Q (.ref D) m ((D, listO rv k) :: news)) : W d (call (.ref 134) [.ref x]) m news Q E := by
  have sL : (3000 : Nat) ≤ sizeLine := Nat.le_of_ble_eq_true rfl
  obtain ⟨dx, n2i, es, nn, on, led, led2, rdv, tp, tf, hG, hD, hE, hR, hnews⟩ := id hS
  obtain ⟨pre, hpre⟩ := hR.pre
  have mB1 : (x, instObj 144 dx) ∈ news := by rw [hnews]; exact .head _
  have mB2 : (dx, dictOf es nn) ∈ news := by rw [hnews]; exact .tail _ (.head _)
  have mB3 : (n2i, on) ∈ news := by rw [hnews]; exact .tail _ (.tail _ (.head _))
  have mB4 : ∀ p ∈ led, p ∈ news := fun p hp => by rw [hnews, hpre]; exact .tail _ (.tail _ (.tail _ (List.mem_append_right _ hp)))
  clear hnews
  have hkl : kvs.length = g.rs.length := by have := congrArg List.length hG.kvs; simpa using this
  refine W_defW (ps := ["self"]) (LN := ["n2i", "stack", "itstack", "seen", "node2stacki", "node"]) (GN := ["set", "iter", "len", "StopIteration"]) fcLN (by k_is) (by k_is) (Nm.of (by decide +kernel)) rfl (by omega) rfl rfl ?_
  intro d' hr' hh' hO hN hw
  obtain ⟨outer, hO⟩ := hO
  have hh2 := hh'.trans hh
  rw [← hw] at hD
  try wtm_at "uq"
  refine W.re ?_
  try wtm_at "q"
  show W d' _ (Lv fcLN [some _, none, none, none, none, none, none]) _ _ _
  try wtm_at "q"
  try wtm_at "q"
  repeat wtm_at "w"
  refine W_newList (Nat.zero_le _) ?_
  intro sk
  repeat wtm_at "w"
  refine W_newList (Nat.zero_le _) ?_
  intro ik
  repeat wtm_at "w"
  refine W_set0 ?_
  intro se so hse
  repeat wtm_at "w"
  refine W_dict0 ?_
  intro ns no hno
  repeat wtm_at "w"
  obtain ⟨I, hI⟩ := iter_dict hD
  obtain ⟨J1, j1⟩ := JIs.ex (fun i m1 n1 => Ex6 fun seen so no k1 k2 o1 => And5 (fcF g.rs F seen ((g.rs.map (·.node)).drop i) = some res) (SI d'.w seen so) (DI d'.w ns [] no) (n1 = (ns, no) :: (se, so) :: (ik, listO [] k2) :: (sk, listO [] k1) :: news) (m1 = Lv fcLN [some (.ref x), some (.ref n2i), some (.ref sk), some (.ref ik), some (.ref se), some (.ref ns), o1]))
  (repeat wtm_at "lf")
  try wtm_at "q"
  refine W_cons ?_
  try wtm_at "q"
  refine W_ForIter (n := kvs.length) (I := I) (V := fun i v => ∃ k x t, kvs[i]? = some (k, x) ∧ v = .int k t) (C₀ := fun n₁ => (n2i, on) ∈ n₁) (C := fun n₁ => (n2i, on) ∈ n₁) J1 hh2 ?_ ?_ ?_ ?_ PassesOwn.never
  · repeat wtm_at "w"
    (repeat wtm_at "lf")
    exact ⟨hI, by wtm_at "lmem", _, List.Sublist.refl _, j1.i ⟨[], so, no, 0, 0, _, hF, hse, hno, rfl, rfl⟩⟩
  · intro i m1 n1 hj
    obtain ⟨seen, so, no, k1, k2, o1, _, _, _, rfl, _⟩ := j1.e hj
    wtm_at "lmem"
  · intro it i v m1 n1 hi hj91 hj
    try wtm_at "q"
    obtain ⟨kk, xx, tv, hkv, rfl⟩ := hj91
    obtain ⟨seen, so, no, k1, k2, o1, hFi, hse, hno, rfl, rfl⟩ := j1.e hj
    clear hj
    have hi2 : i < (g.rs.map (·.node)).length := by rw [List.length_map]; omega
    have hkk : kk = ((g.rs.map (·.node))[i] : Nat) := by
      have e := hG.kvs
      have e2 : (kvs.map (·.1))[i]? = some kk := by rw [List.getElem?_map, hkv]; rfl
      rw [e, List.getElem?_map] at e2
      have : g.rs[i]? = some g.rs[i] := List.getElem?_eq_getElem (by omega)
      rw [this] at e2
      simp at e2 ⊢
      exact e2.symm
    subst hkk
    rw [List.drop_eq_getElem_cons hi2] at hFi
    have hmem : (g.rs.map (·.node))[i] ∈ g.rs.map (·.node) := List.getElem_mem hi2
    generalize (g.rs.map (·.node))[i] = key at *
    unfold fcF at hFi
    have hsl : ¬ 900 ≤ seen.length := by intro hq; rw [if_pos hq] at hFi; cases hFi
    rw [if_neg hsl] at hFi
    wtm_at "w"
    try wtm_at "q"
    repeat wtm_at "w"
    refine W_setIn (d := d'.hide it _) hse (by omega) (by wtm_at "lmem") ?_
    repeat wtm_at "w"
    split
    · rename_i hks
      have hks : key ∈ seen := by simpa using hks
      rw [if_pos hks] at hFi
      repeat wtm_at "w"
      (repeat wtm_at "lf")
      exact j1.i ⟨seen, so, no, k1, k2, _, hFi, hse, hno, rfl, rfl⟩
    · rename_i hks
      have hks : ¬ key ∈ seen := by simpa using hks
      rw [if_neg hks] at hFi
      repeat wtm_at "w"
      (repeat wtm_at "lf")
      try wtm_at "q"
      refine W_cons ?_
      obtain ⟨r0, hr0⟩ : ∃ r0, fcW g.rs F seen [] key = some r0 := by
        cases hq : fcW g.rs F seen [] key with
        | none => rw [hq] at hFi; cases hFi
        | some r0 => exact ⟨r0, rfl⟩
      rw [hr0] at hFi
      obtain ⟨J2, j2⟩ := JIs.ex (fun n m1 n1 => Ex12 fun seen st node tn so no skv ikv kv2 isl k1 k2 => And7 (fcW g.rs n seen st node = some r0) (node ∈ g.rs.map (·.node)) (FSt news g.rs st skv ikv kv2 isl) (SI d'.w seen so) (DI d'.w ns kv2 no) (n1 = (ns, no) :: (se, so) :: (ik, listO ikv k2) :: (sk, listO skv k1) :: (isl ++ news)) (m1 = Lv fcLN [some (.ref x), some (.ref n2i), some (.ref sk), some (.ref ik), some (.ref se), some (.ref ns), some (.int (node : Nat) tn)]))
      try wtm_at "q"
      refine W_While J2 (n₀ := F) (j2.i ⟨seen, [], key, tv, so, no, [], [], [], [], k1, k2, hr0, hmem, .nil, hse, hno, rfl, rfl⟩) ?_ PassesOwn.never
      clear hse hno hsl hks hr0 hmem
      intro f m1 n1 hj
      obtain ⟨seen, st, node, tn, so, no, skv, ikv, kv2, isl, k1, k2, hf, hmem, hst, hse, hno, rfl, rfl⟩ := j2.e hj
      clear hj
      cases f with
      | zero => cases hf
      | succ f =>
      unfold fcW at hf
      have hbig : ¬ (900 ≤ seen.length ∨ 900 ≤ st.length) := by intro hq; rw [if_pos hq] at hf; cases hf
      rw [if_neg hbig] at hf
      obtain ⟨l1, l2, l3⟩ := hst.len
      have z1 := List.mem_append_right isl mB1
      have z2 := List.mem_append_right isl mB2
      have z3 := List.mem_append_right isl mB3
      obtain ⟨P1, p1⟩ := PIs.ex (fun m3 n3 => Ex11 fun seen st so no skv ikv kv2 isl k1 k2 o1 => And7 ((match advP g.rs st with | none => some (none, seen) | some (w, st') => fcW g.rs f seen st' w) = some r0) (FSt news g.rs st skv ikv kv2 isl) (SI d'.w seen so) (DI d'.w ns kv2 no) (st.length ≤ 1000) (n3 = (ns, no) :: (se, so) :: (ik, listO ikv k2) :: (sk, listO skv k1) :: (isl ++ news)) (m3 = Lv fcLN [some (.ref x), some (.ref n2i), some (.ref sk), some (.ref ik), some (.ref se), some (.ref ns), o1]))
      iterate 4 wtm_at "w"
      try wtm_at "q"
      (repeat wtm_at "lf")
      try wtm_at "q"
      refine W_cutF P1 ?_ ?_
      · try wtm_at "uq"
        refine W.re ?_
        try wtm_at "q"
        try wtm_at "q"
        repeat wtm_at "w"
        refine W_setIn (d := d'.hide it _) hse (by omega) (by wtm_at "lmem") ?_
        repeat wtm_at "w"
        split
        · rename_i hs
          have hs : node ∈ seen := by simpa using hs
          rw [if_pos hs] at hf
          repeat wtm_at "w"
          refine W_dIn (d := d'.hide it _) hno (by wtm_at "lmem") ?_
          rw [hst.some]
          repeat wtm_at "w"
          split
          · rename_i hs2
            have hs2 : node ∈ st.map (·.1) := by simpa using hs2
            rw [if_pos hs2] at hf
            cases hf
            cases hFi
            obtain ⟨tpos, hpos⟩ := hst.pos hs2
            repeat wtm_at "w"
            refine W_dItem (d := d'.hide it _) hno (by wtm_at "lmem") hpos ?_
            (repeat wtm_at "lf")
            refine ⟨sk, skv, k1, posOf st node, tpos, rfl, by wtm_at "lmem", rfl, by omega, by omega, ?_⟩
            intro lz
            rw [Int.toNat_natCast]
            repeat wtm_at "w"
            refine W_newList (by simp; omega) ?_
            intro ly
            refine W_addL (by wtm_at "lmem") (by wtm_at "lmem") (by simp; omega) ?_
            intro lr
            have hri : IntsAre (skv.drop (posOf st node) ++ [.int (node : Int) tn]) (ofN (ringF st node)) := by
              have := (hst.ints.drop (posOf st node)).append (.cons (node : Int) tn .nil)
              unfold ringF
              simpa [ofN] using this
            (repeat wtm_at "lf")
            (repeat wtm_at "lf")
            exact ⟨_, [], by rw [List.append_nil], by (repeat wtm_at "lf"); exact ⟨(lr, listO (skv.drop (posOf st node) ++ [.int (node : Int) tn]) 0) :: news, (ly, listO [.int (node : Int) tn] 0) :: (lz, listO (skv.drop (posOf st node)) 0) :: (ns, no) :: (se, so) :: (ik, listO ikv k2) :: (sk, listO skv k1) :: isl, by wtm_at "perm", h _ _ _ hri⟩⟩
          · rename_i hs2
            have hs2 : ¬ node ∈ st.map (·.1) := by simpa using hs2
            rw [if_neg hs2] at hf
            repeat wtm_at "w"
            (repeat wtm_at "lf")
            (repeat wtm_at "lf")
            exact ⟨_, [], by rw [List.append_nil], p1.i ⟨seen, st, so, no, skv, ikv, kv2, isl, k1, k2, _, hf, hst, hse, hno, by omega, rfl, rfl⟩⟩
        · rename_i hs
          have hs : ¬ node ∈ seen := by simpa using hs
          rw [if_neg hs] at hf
          have hs3 : ¬ node ∈ st.map (·.1) := by intro hq; rw [if_pos hq] at hf; cases hf
          rw [if_neg hs3] at hf
          have hnone : valueAt kv2 (node : Int) = none := by
            have := hst.some node
            rw [decide_eq_false hs3] at this
            simpa using this
          obtain ⟨r, hrm, hrn⟩ := List.mem_map.mp hmem
          have hfi : findP g.rs node = some r := by rw [← hrn]; exact findP_of hrm ok.nd
          have hsc : scOf g.rs node = r.succ := by unfold scOf; rw [hfi]; rfl
          obtain ⟨ia, da, sa, tn', tp', sv, k', g1, g2, H⟩ := hG.find hrm ok.nd
          have y1 := List.mem_append_right isl (mB4 _ H.s1.mem)
          have y2 := List.mem_append_right isl (mB4 _ H.md)
          have y3 := List.mem_append_right isl (mB4 _ H.s2.mem)
          have hval := H.val
          rw [hrn] at hval
          repeat wtm_at "w"
          refine W_getAdd (d := d'.hide it _) hse (by omega) (by wtm_at "lmem") ?_
          repeat wtm_at "w"
          refine W_setAdd (d := d'.hide it _) hse (by omega) (by wtm_at "sel") ?_
          intro so2 hse2
          (repeat wtm_at "lf")
          refine ⟨rfl, ?_⟩
          repeat wtm_at "w"
          refine W_dItem (d := d'.hide it _) hD (by wtm_at "lmem") hval ?_
          repeat wtm_at "w"
          refine W_iterL (by wtm_at "lmem") ?_
          intro it2
          repeat wtm_at "w"
          refine W_next (by wtm_at "lmem") ?_
          intro mw
          repeat wtm_at "w"
          refine W_append (by wtm_at "sel") (by omega) ?_
          (repeat wtm_at "lf")
          refine ⟨rfl, ?_⟩
          repeat wtm_at "w"
          refine W_lenL (by wtm_at "lmem") (by omega) ?_
          intro t5
          repeat wtm_at "w"
          refine W_dSet (d := d'.hide it _) hno (by wtm_at "sel") (by omega) ?_
          intro no2 hno2
          rw [stored_absent hnone, l1] at hno2
          repeat wtm_at "w"
          refine W_append (by wtm_at "sel") (by omega) ?_
          (repeat wtm_at "lf")
          refine ⟨rfl, ?_⟩
          repeat wtm_at "w"
          (repeat wtm_at "lf")
          (repeat wtm_at "lf")
          refine ⟨(ns, no2) :: (se, so2) :: (ik, listO (ikv ++ [.ref mw]) (k2 + 1)) :: (sk, listO (skv ++ [.int (node : Int) tn]) (k1 + 1)) :: (((mw, mwO it2) :: (it2, liO sa 0) :: isl) ++ news), [], by wtm_at "perm",
            p1.i ⟨node :: seen, (node, 0) :: st, so2, no2, _, _, _, _, _, _, _, hf, .cons (mB4 _ H.s2.mem) (by rw [hsc]; exact H.is) hst, hse2, hno2, by simp; omega, rfl, rfl⟩⟩
      · clear hf hmem hst hse hno hbig l1 l2 l3 z1 z2 z3
        intro m3 n3 hp
        obtain ⟨seen, st, so, no, skv, ikv, kv2, isl, k1, k2, o1, hA, hst, hse, hno, hlen, rfl, rfl⟩ := p1.e hp
        clear hp
        (repeat wtm_at "lf")
        try wtm_at "q"
        refine W_cons ?_
        try wtm_at "q"
        obtain ⟨J3, j3⟩ := JIs.ex (fun n m1 n1 => Ex8 fun st no skv ikv kv2 isl k1 k2 => And7 (n = st.length) ((match advP g.rs st with | none => some (none, seen) | some (w, st') => fcW g.rs f seen st' w) = some r0) (FSt news g.rs st skv ikv kv2 isl) (DI d'.w ns kv2 no) (st.length ≤ 1000) (n1 = (ns, no) :: (se, so) :: (ik, listO ikv k2) :: (sk, listO skv k1) :: (isl ++ news)) (m1 = Lv fcLN [some (.ref x), some (.ref n2i), some (.ref sk), some (.ref ik), some (.ref se), some (.ref ns), o1]))
        refine W_While J3 (n₀ := st.length) (j3.i ⟨st, no, skv, ikv, kv2, isl, k1, k2, rfl, hA, hst, hno, hlen, rfl, rfl⟩) ?_ PassesOwn.never
        clear hA hst hno hlen
        intro n m1 n1 hj
        obtain ⟨st, no, skv, ikv, kv2, isl, k1, k2, rfl, hA, hst, hno, hlen, rfl, rfl⟩ := j3.e hj
        clear hj
        obtain ⟨l1, l2, l3⟩ := hst.len
        repeat wtm_at "w"
        refine W_truthyL (by wtm_at "lmem") (by omega) ?_
        cases hst with
        | nil =>
          cases hA
          try rw [if_neg (by simp)]
          repeat wtm_at "w"
          (repeat wtm_at "lf")
          (repeat wtm_at "lf")
          repeat wtm_at "w"
          (repeat wtm_at "lf")
          exact j1.i ⟨seen, so, no, k1, k2, _, hFi, hse, hno, rfl, rfl⟩
        | @cons v i0 st0 skv0 ikv0 kv0 isl0 sa it2 mw sv kk t1 t2 hsa hsv hst0 =>
          try rw [if_pos (by simp)]
          try wtm_at "uq"
          refine W.re ?_
          try wtm_at "q"
          try wtm_at "q"
          have y3 := List.mem_append_right isl0 hsa
          have l4 : sv.length = (scOf g.rs v).length := by have := hsv.length; simpa using this
          have l5 : st0.length < 1000 := by simp at hlen; omega
          obtain ⟨e1, e2, e3⟩ := hst0.len
          show W (d'.hide it _) _ _ ((ns, no) :: (se, so) :: (ik, listO (ikv0 ++ [.ref mw]) k2) :: (sk, listO (skv0 ++ [.int (v : Int) t1]) k1) :: (mw, mwO it2) :: (it2, liO sa i0) :: (isl0 ++ news)) _ _
          (repeat wtm_at "lf")
          try wtm_at "q"
          refine W_cons ?_
          refine W_Try (d := d'.hide it _) (fun m' n' cls a0 => And3 (cls = .type "StopIteration") ((scOf g.rs v)[i0]? = none) (∃ o', n' = (ns, no) :: (se, so) :: (ik, listO (ikv0 ++ [.ref mw]) k2) :: (sk, listO (skv0 ++ [.int (v : Int) t1]) k1) :: (mw, mwO it2) :: (it2, o') :: (isl0 ++ news) ∧ m' = Lv fcLN [some (.ref x), some (.ref n2i), some (.ref sk), some (.ref ik), some (.ref se), some (.ref ns), o1])) SI.stop_isExc SI.stop_notTuple hO rfl (Pe.glo (d := d'.hide it _) hN (by wtm_at "mem") (by wtm_at "gb")) ?_ ?_
          · repeat wtm_at "w"
            refine W_itemLast (by wtm_at "lmem") ?_
            refine W_cwMw0 (by wtm_at "lmem") ?_
            rcases Nat.lt_or_ge i0 (scOf g.rs v).length with hlt | hge
            · obtain ⟨w, hw2⟩ : ∃ w, (scOf g.rs v)[i0]? = some w := ⟨_, List.getElem?_eq_getElem hlt⟩
              obtain ⟨vv, hvv⟩ : ∃ vv, sv[i0]? = some vv := ⟨_, List.getElem?_eq_getElem (by omega)⟩
              obtain ⟨tw, rfl⟩ := int_of hsv hlt hvv
              have hw3 : (scOf g.rs v)[i0] = w := by rw [List.getElem?_eq_getElem hlt] at hw2; exact Option.some.inj hw2
              rw [hw3] at hvv
              have hadv : advP g.rs ((v, i0) :: st0) = some (w, (v, i0 + 1) :: st0) := by unfold advP; rw [hw2]
              rw [hadv] at hA
              refine W_mwItem (l := sa) (vs := sv) (k := kk) (by wtm_at "lmem") (by wtm_at "lmem") (by wtm_at "sel") hvv ?_
              repeat wtm_at "w"
              (repeat wtm_at "lf")
              (repeat wtm_at "lf")
              refine ⟨_, [], List.Perm.of_eq (List.append_nil _).symm, ?_⟩
              (repeat wtm_at "lf")
              repeat wtm_at "w"
              (repeat wtm_at "lf")
              (repeat wtm_at "lf")
              exact ⟨f, Nat.lt_succ_self _, j2.i ⟨seen, (v, i0 + 1) :: st0, w, _, so, no, _, _, _, _, _, _, hA, adv_mem hc hadv, .cons hsa hsv hst0, hse, hno, rfl, rfl⟩⟩
            · refine W_mwEnd (d := d'.hide it _) (l := sa) (vs := sv) (k := kk) hh2 (by wtm_at "lmem") (by wtm_at "lmem") (by wtm_at "sel") (by omega) fun o' a0 ev s hxf => ⟨_, _, _, _, hxf, rfl, List.getElem?_eq_none hge, o', rfl, rfl⟩
          · intro e m' n' cls a0 hj91
            try wtm_at "q"
            obtain ⟨rfl, hnone, o', rfl, rfl⟩ := hj91
            (repeat wtm_at "lf")
            refine ⟨"StopIteration", rfl, SI.stop_self, ?_⟩
            have hadv : advP g.rs ((v, i0) :: st0) = advP g.rs st0 := by show (match (scOf g.rs v)[i0]? with | some w => some (w, (v, i0 + 1) :: st0) | none => advP g.rs st0) = _; rw [hnone]
            rw [hadv] at hA
            repeat wtm_at "w"
            refine W_pop (by wtm_at "sel") (by omega) ?_
            intro k5
            repeat wtm_at "w"
            have hnd := hno.nodup
            have hsm : (valueAt (kv0 ++ [((v : Int), .int (st0.length : Int) t2)]) (v : Int)).isSome = true := by
              rw [valueAt_isSome_eq_any, List.any_append]; simp
            refine W_dDel (d := (d'.hide it _).mark e) hno (by wtm_at "sel") hsm (by simp; omega) ?_
            intro no2 hno2
            rw [without_last hnd] at hno2
            (repeat wtm_at "lf")
            try wtm_at "q"
            refine W_cons (W_ExprAny ?_)
            repeat wtm_at "w"
            refine W_pop (by wtm_at "sel") (by omega) ?_
            intro k6
            repeat wtm_at "w"
            (repeat wtm_at "lf")
            (repeat wtm_at "lf")
            exact ⟨(ns, no2) :: (se, so) :: (ik, listO ikv0 k6) :: (sk, listO skv0 k5) :: (isl0 ++ news), [(mw, mwO it2), (it2, o')], by wtm_at "perm", st0.length, by simp, j3.i ⟨st0, no2, skv0, ikv0, kv0, isl0, k5, k6, rfl, hA, hst0, hno2, by omega, rfl, rfl⟩⟩
  · intro m1 n1 hj
    obtain ⟨seen, so, no, k1, k2, o1, hFi, hse, hno, rfl, rfl⟩ := j1.e hj
    (repeat wtm_at "lf")
    rw [List.drop_eq_nil_of_le (by rw [List.length_map]; omega)] at hFi
    unfold fcF at hFi
    cases hFi
    repeat wtm_at "w"
    (repeat wtm_at "lf")
    (repeat wtm_at "lf")
    exact ⟨news, [(ns, no), (se, so), (ik, listO [] k2), (sk, listO [] k1)], by wtm_at "perm", h⟩

noncomputable def rdyP (rs : List PN) : List Nat := (rs.filter fun r => decide (r.np = 0)).map (·.node)
theorem rdyP_snoc (rs : List PN) (r : PN) : rdyP (rs ++ [r]) = rdyP rs ++ if r.np = 0 then [r.node] else [] := by
  unfold rdyP
  rw [List.filter_append, List.map_append]
  congr 1
  by_cases h : r.np = 0 <;> simp [h]
theorem rdyP_len (rs : List PN) : (rdyP rs).length ≤ rs.length := by
  unfold rdyP
  rw [List.length_map]
  exact List.length_filter_le _ _
/- sorter.prepare() -/
theorem prep_c {d : Dy} {m : Loc} {news rest : Led} {E : Value → Shared → Prop} {x : Addr} {g : GS} {kvs : List (Int × Value)} {F : Nat} {res : Option (List Nat)} {Q : Value → Loc → Led → Prop} (hr : 2 ≤ d.room) (hh : d.A.handled = none) (hS : SO d.w x rest g kvs news) (hg : g.ready = none) (ok : OkP g.rs 500) (hc : ClosedP g.rs)
    (hF : fcF g.rs F [] (g.rs.map (·.node)) = some res) (hrl : ∀ ring, res = some ring → ring ≠ [] ∧ ring.length ≤ 1000)
    (h : res = none → ∀ news', SO d.w x rest { g with ready := some (rdyP g.rs) } kvs news' → Q .none m news')
    (hx : ∀ ring, res = some ring → ∀ ev s t tt D rv k news', IntsAre rv (ofN ring) → SO d.w x ((t, tupO [.str "nodes are in a cycle" tt, .ref D] 0) :: (D, listO rv k) :: rest) { g with ready := some (rdyP g.rs) } kvs news' → XF d m news' (.ref 62) (.ref t) ev s → E ev s) :
    W d (call (.ref 99) [.ref x]) m news Q E := by
  have sL : (3000 : Nat) ≤ sizeLine := Nat.le_of_ble_eq_true rfl
  refine WC.call (WC_defB (ps := ["self"]) (LN := ["cycle"]) (GN := ["ValueError", "CycleError"]) ["self", "cycle"]
    (fun m' n' cls a0 => Ex8 fun ring t tt D rv k news' X => And6 (res = some ring) (cls = .ref 62) (a0 = .ref t) (IntsAre rv (ofN ring)) (SO d.w x ((t, tupO [.str "nodes are in a cycle" tt, .ref D] 0) :: (D, listO rv k) :: rest) { g with ready := some (rdyP g.rs) } kvs news') (n'.Perm (news' ++ X)))
    (P := fun vals n1 => vals = [.ref x] ∧ n1 = news) (by k_is) (by k_is) (Nm.of (by decide +kernel)) rfl (by omega) (fun s hs _ _ k => BindW.pure rfl s hs fun b n1 s1 hs1 hp => k b n1 s1 hs1 ⟨[.ref x], hp.1, rfl, rfl, hp.2⟩) ?_ ?_)
  · intro m' n' cls a0 hj91
    try wtm_at "q"
    obtain ⟨ring, t, tt, D, rv, k, news', X, hres, rfl, rfl, hrv, hS', hP⟩ := hj91
    (repeat wtm_at "lf")
    exact ⟨_, List.Sublist.refl _, fun ev s hxf => hx ring hres ev s t tt D rv k news' hrv hS' (hxf.re hP)⟩
  intro d' hr' hh' hO hN hw vals n1 hj91
  try wtm_at "q"
  obtain ⟨rfl, rfl⟩ := hj91
  obtain ⟨outer, hO⟩ := hO
  have hh2 := hh'.trans hh
  rw [← hw] at hS
  obtain ⟨dx, n2i, es, nn, on, led, led2, rdv, tp, tf, hG, hD, hE, hR, rfl⟩ := id hS
  obtain ⟨rfl, rfl⟩ := hR.inv0 hg
  show W d' _ (Lv ["self", "cycle"] [some _, none]) _ _ _
  try wtm_at "q"
  repeat wtm_at "w"
  try rw [if_neg (by decide)]
  repeat wtm_at "w"
  obtain ⟨I, hI⟩ := iter_vals hD
  have hkl : kvs.length = g.rs.length := by have := congrArg List.length hG.kvs; simpa using this
  have nd := ok.nd
  have lB := ok.ln
  refine W_ListComp (n := kvs.length) (I := I) (V := fun i v => ∃ k, kvs[i]? = some (k, v)) (C₀ := fun v n₁ => ∃ vw, And3 (v = .ref vw) ((vw, valsO n2i) ∈ n₁) ((n2i, on) ∈ n₁)) (C := fun _ n₁ => (n2i, on) ∈ n₁) (Ev.ofNm hN) hh2 [] [] (CompOk.of (by show compOk _ ["i"] [] [] = true; decide +kernel)) (by simp) (by decide)
    (fun v i ys n₁ => IntsAre ys (ofN (rdyP (g.rs.take i))) ∧ ∃ vw, n₁ = (vw, valsO n2i) :: (x, instObj 144 dx) :: (dx, dictOf es nn) :: (n2i, on) :: led2) (by omega) ?_ ?_ ?_ ?_
  · repeat wtm_at "w"
    refine W_dVals hD (by wtm_at "lmem") ?_
    intro vw
    (repeat wtm_at "lf")
    exact ⟨rfl, (hI vw).weaken (fun n ⟨vw', e, h1, h2⟩ => by cases e; exact ⟨h1, h2⟩), ⟨vw, rfl, .head _, by wtm_at "lmem"⟩, .nil, vw, rfl⟩
  · intro v i ys n₁ hj91
    try wtm_at "q"
    obtain ⟨_, vw, rfl⟩ := hj91
    wtm_at "lmem"
  · intro vv Ca it D k i v ys n₁ hi hj91 hj92 hEv
    try wtm_at "q"
    obtain ⟨kk, hkv⟩ := hj91
    obtain ⟨hys, vw, rfl⟩ := hj92
    have hi2 : i < g.rs.length := by omega
    have hrm : g.rs[i] ∈ g.rs := List.getElem_mem hi2
    have tk : g.rs.take (i + 1) = g.rs.take i ++ [g.rs[i]] := List.take_succ_eq_append_getElem hi2
    have hkk : kk = (g.rs[i].node : Int) := by
      have e2 : (kvs.map (·.1))[i]? = some kk := by rw [List.getElem?_map, hkv]; rfl
      rw [hG.kvs, List.getElem?_map, List.getElem?_eq_getElem hi2] at e2
      exact (Option.some.inj e2).symm
    have hvv := valueAt_of_get hD.nodup hkv
    generalize g.rs[i] = r at *
    obtain ⟨ia, da, sa, tn, tp', sv, k', g1, g2, H⟩ := hG.find hrm nd
    have hv2 : v = .ref ia := by rw [hkk, H.val] at hvv; exact (Option.some.inj hvv).symm
    subst hv2
    have q1 := H.s1.mem
    have q2 := H.md
    refine W_tests1 ?_
    repeat wtm_at "w"
    split
    · rename_i hc0
      have hc0 : r.np = 0 := by simpa using hc0
      repeat wtm_at "w"
      (repeat wtm_at "lf")
      refine ⟨⟨_, rfl⟩, ?_, vw, rfl⟩
      rw [tk, rdyP_snoc, if_pos hc0]
      have := hys.append (.cons (r.node : Int) tn .nil)
      simpa [ofN] using this
    · rename_i hc0
      have hc0 : ¬ r.np = 0 := by simpa using hc0
      (repeat wtm_at "lf")
      refine ⟨⟨_, rfl⟩, ?_, vw, rfl⟩
      rw [tk, rdyP_snoc, if_neg hc0]
      simpa using hys
  · intro vv D k ys n₁ hj91
    try wtm_at "q"
    obtain ⟨hys, vw, rfl⟩ := hj91
    rw [hkl, List.take_length] at hys
    have lys : ys.length = (rdyP g.rs).length := by have := hys.length; simpa using this
    have lrd := rdyP_len g.rs
    repeat wtm_at "w"
    rename_i es2 nn2 hE2 _ _
    have hS2 : SO d'.w x rest { g with ready := some (rdyP g.rs) } kvs ((x, instObj 144 dx) :: (dx, dictOf es2 nn2) :: (n2i, on) :: (D, listO ys k) :: led2) :=
      ⟨dx, n2i, es2, nn2, on, led2, _, .ref D, tp, tf, hG, hD, hE2, .some hys, rfl⟩
    refine W.sub (n' := (D, listO ys k) :: (x, instObj 144 dx) :: (dx, dictOf es2 nn2) :: (n2i, on) :: led2) ?_ (by wtm_at "sub")
    refine W.perm (n' := (x, instObj 144 dx) :: (dx, dictOf es2 nn2) :: (n2i, on) :: (D, listO ys k) :: led2) ?_ (by wtm_at "perm")
    refine cyc_c (by omega) hh2 hS2 ok hc hF ?_
    cases res with
    | none =>
      show W d' _ _ _ _ _
      repeat wtm_at "w"
      (repeat wtm_at "lf")
      exact ⟨_, List.Sublist.refl _, h rfl _ (hw ▸ hS2)⟩
    | some ring =>
      intro D2 rv k2 hrv
      obtain ⟨hne, hrl2⟩ := hrl ring rfl
      have lrv : rv.length = ring.length := by have := hrv.length; simpa using this
      have lpos : 0 < ring.length := List.length_pos_iff.mpr hne
      show W d' _ _ _ _ _
      repeat wtm_at "w"
      refine W_truthyL (by wtm_at "lmem") (by omega) ?_
      (repeat wtm_at "lf")
      rw [if_pos (bne_iff_ne.mpr (by omega))]
      (repeat wtm_at "lf")
      try wtm_at "q"
      refine W_cons (W_raiseC hh2 ?_)
      repeat wtm_at "w"
      (repeat wtm_at "lf")
      refine ⟨rfl, ?_⟩
      repeat wtm_at "w"
      (repeat wtm_at "lf")
      refine ⟨by simp; omega, fun ev s t hxf => ?_⟩
      obtain ⟨news5, hS5, hP5⟩ := hS2.in [(t, tupO [.str "nodes are in a cycle" _, .ref D2] 0), (D2, listO rv k2)]
      (repeat wtm_at "lf")
      exact ⟨_, _, _, _, hxf, ring, t, _, D2, rv, k2, news5, [], rfl, rfl, rfl, hrv, hw ▸ hS5, by rw [List.append_nil]; exact hP5.symm⟩

theorem GL.restSel {rest led : Led} {rs : List PN} {kvs : List (Int × Value)} (h : GL rest rs led kvs) {a : Addr} {o : Obj} {gr : Obj → Led} (hs : Sel a o rest gr) : ∃ gn, Sel a o led gn ∧ ∀ o', GL (gr o') rs (gn o') kvs := by
  induction h with
  | nil => exact ⟨gr, hs, fun _ => .nil⟩
  | cons hi _ ih =>
    obtain ⟨gn, h1, h2⟩ := ih
    exact ⟨_, .there (.there (.there h1)), fun o' => .cons hi (h2 o')⟩
theorem RD.restSel {rd : Option (List Nat)} {v : Value} {l l2 : Led} (h : RD rd v l l2) {a : Addr} {o : Obj} {gn : Obj → Led} (hs : Sel a o l gn) : ∃ gm, Sel a o l2 gm ∧ ∀ o', RD rd v (gn o') (gm o') := by
  cases h with
  | none => exact ⟨gn, hs, fun _ => .none⟩
  | some hi => exact ⟨_, .there hs, fun _ => .some hi⟩
theorem SO.restSel {w : World} {x : Addr} {rest news : Led} {g : GS} {kvs : List (Int × Value)} (h : SO w x rest g kvs news) {a : Addr} {o : Obj} {gr : Obj → Led} (hs : Sel a o rest gr) : ∃ gn, Sel a o news gn ∧ ∀ o', SO w x (gr o') g kvs (gn o') := by
  obtain ⟨dx, n2i, es, nn, on, led, led2, rdv, tp, tf, hG, hD, hE, hR, rfl⟩ := h
  obtain ⟨g1, s1, h1⟩ := hG.restSel hs
  obtain ⟨g2, s2, h2⟩ := hR.restSel s1
  exact ⟨_, .there (.there (.there s2)), fun o' => ⟨dx, n2i, es, nn, on, g1 o', g2 o', rdv, tp, tf, h1 o', hD, hE, h2 o', rfl⟩⟩
theorem SO.perm {w : World} {x : Addr} {rest rest' news : Led} {g : GS} {kvs : List (Int × Value)} (h : SO w x rest g kvs news) (hp : rest'.Perm rest) : ∃ news', SO w x rest' g kvs news' ∧ news'.Perm news := by
  obtain ⟨news', core, h1, h2, h3⟩ := h.re rest'
  exact ⟨news', h1, h3.trans ((hp.append_left _).trans h2.symm)⟩
/- what sorter.done says of a node -/
noncomputable def wordF (rs : List PN) (n : Nat) : Str := if 0 ≤ npOf rs n then wordB n else wordA n
inductive WL (f : Nat → Str) : List Nat → List Value → Led → Prop
  | nil : WL f [] [] []
  | snoc {ns : List Nat} {vs : List Value} {tl : Led} {n : Nat} {t : Addr} {tt : Tok} : WL f ns vs tl → WL f (ns ++ [n]) (vs ++ [.ref t]) ((t, tupO [.str (f n) tt] 0) :: tl)
theorem WL.len {f : Nat → Str} {ns : List Nat} {vs : List Value} {tl : Led} (h : WL f ns vs tl) : vs.length = ns.length := by
  induction h with
  | nil => rfl
  | snoc _ ih => simp [ih]
noncomputable abbrev woLN : List Str := ["sorter", "nodes", "words", "node", "error"]
theorem mat_vv {w : World} : Mat w (.type "ValueError") (.type "ValueError") true := by with_reducible exact mat_type PySem.F.isExc_ValueError PySem.F.notTuple_ValueError PySem.F.self_ValueError
/- _law_words(sorter, nodes), none of them passed out now -/
theorem words_c {d : Dy} {m : Loc} {news rest : Led} {E : Value → Shared → Prop} {x nl : Addr} {g : GS} {kvs : List (Int × Value)} {ns rd : List Nat} {nv : List Value} {kn : Nat} {Q : Value → Loc → Led → Prop} (hr : 2 ≤ d.room) (hh : d.A.handled = none) (hS : SO d.w x rest g kvs news) (hg : g.ready = some rd) (nd : (g.rs.map (·.node)).Nodup)
    (hnl : (nl, listO nv kn) ∈ rest) (hnv : IntsAre nv (ofN ns)) (hz : ns.length ≤ 1000) (hns : ∀ n ∈ ns, n ∈ g.rs.map (·.node) ∧ n < 4 ∧ (0 ≤ npOf g.rs n ∨ npOf g.rs n = -2))
    (h : ∀ wd vs k tl news', WL (wordF g.rs) ns vs tl → SO d.w x ((wd, listO vs k) :: (tl ++ rest)) g kvs news' → Q (.ref wd) m news') : W d (call (.ref 209) [.ref x, .ref nl]) m news Q E := by
  have sL : (3000000 : Nat) ≤ sizeLine := Nat.le_of_ble_eq_true rfl
  have lnv : nv.length = ns.length := by have := hnv.length; simpa using this
  refine W_defW (ps := ["sorter", "nodes"]) (LN := ["words", "node", "error"]) (GN := ["CycleError", "ValueError"]) woLN (by k_is) (by k_is) (Nm.of (by decide +kernel)) rfl (by omega) rfl rfl ?_
  intro d' hr' hh' hO hN hw
  obtain ⟨outer, hO⟩ := hO
  have hh2 := hh'.trans hh
  rw [← hw] at hS
  show W d' _ (Lv woLN [some _, some _, none, none, none]) _ _ _
  try wtm_at "q"
  repeat wtm_at "w"
  refine W_newList (Nat.zero_le _) ?_
  intro wd
  obtain ⟨news1, hS1, hP1⟩ := hS.in [(wd, listO [] 0)]
  refine W.perm (n' := news1) ?_ hP1
  repeat wtm_at "w"
  (repeat wtm_at "lf")
  try wtm_at "q"
  refine W_cut (fun m1 n1 => Ex5 fun vs tl k o1 o2 => And3 (WL (wordF g.rs) ns vs tl) (SO d'.w x ((wd, listO vs k) :: (tl ++ rest)) g kvs n1) (m1 = Lv woLN [some (.ref x), some (.ref nl), some (.ref wd), o1, o2])) ?_ ?_
  · try wtm_at "q"
    refine W_ForList (l := nl) (vs := nv) (k := kn) (fun i m1 n1 => Ex5 fun vs tl k o1 o2 => And3 (WL (wordF g.rs) (ns.take i) vs tl) (SO d'.w x ((wd, listO vs k) :: (tl ++ rest)) g kvs n1) (m1 = Lv woLN [some (.ref x), some (.ref nl), some (.ref wd), o1, o2])) hh2 ?_ ?_ ?_ ?_ PassesOwn.never
    · repeat wtm_at "w"
      (repeat wtm_at "lf")
      exact ⟨rfl, [], [], 0, _, _, .nil, hS1, rfl⟩
    · intro i m1 n1 hj91
      try wtm_at "q"
      obtain ⟨vs, tl, k, o1, o2, _, hS2, _⟩ := hj91
      exact hS2.mem (.tail _ (List.mem_append_right _ hnl))
    · intro it i v m1 n1 hi hv hj91
      try wtm_at "q"
      obtain ⟨vs, tl, k, o1, o2, hWL, hS2, rfl⟩ := hj91
      have hi2 : i < ns.length := by omega
      obtain ⟨tv, rfl⟩ := int_of hnv hi2 hv
      obtain ⟨hmem, h4, hnp⟩ := hns ns[i] (List.getElem_mem hi2)
      have tk : ns.take (i + 1) = ns.take i ++ [ns[i]] := List.take_succ_eq_append_getElem hi2
      have lvs := hWL.len
      rw [List.length_take] at lvs
      generalize ns[i] = p at *
      wtm_at "w"
      (repeat wtm_at "lf")
      try wtm_at "q"
      refine W_cons ?_
      refine W_TryH (d := d'.hide it _) (fun m' n' cls a0 => cls = .type "ValueError" ∧ Ex2 fun t tt => And3 (a0 = .ref t) (SO d'.w x ((t, tupO [.str (wordF g.rs p) tt] 0) :: (wd, listO vs k) :: (tl ++ rest)) g kvs n') (m' = Lv woLN [some (.ref x), some (.ref nl), some (.ref wd), some (.int (p : Int) tv), o2])) hO rfl ?_ ?_
      · obtain ⟨dx, n2i, es, nn, on, led, led2, rdv, tp, tf, hG, hD, hE, hR, hn1⟩ := id hS2
        have y1 : (wd, listO vs k) ∈ n1 := hS2.mem (.head _)
        have y2 : (x, instObj 144 dx) ∈ n1 := by rw [hn1]; exact .head _
        have y3 : (dx, dictOf es nn) ∈ n1 := by rw [hn1]; exact .tail _ (.head _)
        repeat wtm_at "w"
        refine done_x (d := d'.hide it _) (by show 1 ≤ d'.room; omega) hh2 hS2 hg nd hmem h4 hnp ?_
        intro ev s t tt news' hS' hxf
        (repeat wtm_at "lf")
        exact ⟨_, _, _, _, hxf, rfl, t, tt, rfl, hS', rfl⟩
      · intro e m' n' cls a0 s hj91 hl
        try wtm_at "q"
        obtain ⟨rfl, t, tt, rfl, hS', rfl⟩ := hj91
        refine hb_skip hl (Pe.gloK (d := d'.hide it _) (Ev.ofNm hN) (by wtm_at "mem") (gk17 _)) mat_ve ?_
        refine hb_as (d := d'.hide it _) (LN := woLN) (Ev.ofNm hN) (by wtm_at "mem") hl (Pe.gloB (d := d'.hide it _) (Ev.ofNm hN) (by wtm_at "mem") (ge2 _)) mat_vv ?_
        intro oe ws hoc hod h0
        wtm_at "w"
        obtain ⟨gn, hsel, hgn⟩ := hS'.restSel (.there .here)
        have y1 := hsel.mem
        try wtm_at "uq"
        refine W.re ?_
        try wtm_at "q"
        repeat wtm_at "w"
        refine W_argsV PySem.F.excAttr_ValueError (by wtm_at "lmem") hoc hod h0 ?_
        repeat wtm_at "w"
        refine W_append (by wtm_at "sel") (by omega) ?_
        (repeat wtm_at "lf")
        refine ⟨rfl, ?_⟩
        repeat wtm_at "w"
        obtain ⟨news5, hS5, hP5⟩ := (hgn (listO (vs ++ [.ref t]) (k + 1))).perm (rest' := (wd, listO (vs ++ [.ref t]) (k + 1)) :: (((t, tupO [.str (wordF g.rs p) tt] 0) :: tl) ++ rest)) (by wtm_at "perm")
        (repeat wtm_at "lf")
        refine ⟨news5, [(e, oe)], (hP5.symm.cons (e, oe)).trans (by wtm_at "perm"), _, fun u => [some (.ref x), some (.ref nl), some (.ref wd), some (.int (p : Int) tv), u], rfl, fun u => .there (.there (.there (.there .here))), fun u => ?_⟩
        show W _ _ (Lv woLN [some (.ref x), some (.ref nl), some (.ref wd), some (.int (p : Int) tv), u]) _ _ _
        repeat wtm_at "w"
        (repeat wtm_at "lf")
        rw [tk]
        exact ⟨_, _, _, _, _, hWL.snoc, hS5, rfl⟩
    · intro m1 n1 hj91
      try wtm_at "q"
      obtain ⟨vs, tl, k, o1, o2, hWL, hS2, rfl⟩ := hj91
      rw [lnv, List.take_length] at hWL
      (repeat wtm_at "lf")
      exact ⟨rfl, vs, tl, k, o1, o2, hWL, hS2, rfl⟩
  · intro m1 n1 hj91
    try wtm_at "q"
    obtain ⟨vs, tl, k, o1, o2, hWL, hS2, rfl⟩ := hj91
    repeat wtm_at "w"
    (repeat wtm_at "lf")
    exact h _ _ _ _ _ hWL (hw ▸ hS2)

set_option genInjectivity false
set_option genSizeOfSpec false
noncomputable def belowF (below : List (List Nat)) (nodes : List Nat) (n : Nat) : List Nat := (below.getD n []).filter fun o => nodes.any (· == o)
noncomputable def okB (rs : List PN) : Bool := decide (rs.map (·.node)).Nodup && (decide (rs.length ≤ 100) && rs.all fun r => decide (r.succ.length ≤ 100))
theorem okB_ok {rs : List PN} (h : okB rs = true) : OkP rs 100 := by
  unfold okB at h
  simp only [Bool.and_eq_true, decide_eq_true_eq, List.all_eq_true] at h
  exact ⟨h.1, h.2.1, h.2.2⟩
noncomputable def closedB (rs : List PN) : Bool := rs.all fun r => r.succ.all fun s => decide (s ∈ rs.map (·.node))
theorem closedB_ok {rs : List PN} (h : closedB rs = true) : ClosedP rs := by
  unfold closedB at h
  simp only [decide_eq_true_eq, List.all_eq_true] at h
  exact h
noncomputable def addAll (below : List (List Nat)) (nodes : List Nat) : List Nat → List PN → Option (List PN)
  | [], rs => some rs
  | n :: ns, rs => if okB rs && (decide ((belowF below nodes n).length ≤ 100) && (decide (n < below.length) && decide ((below.getD n []).length ≤ 100))) then addAll below nodes ns (addP rs n (belowF below nodes n)) else none
noncomputable def insN (x : Nat) : List Nat → List Nat
  | [] => [x]
  | y :: l => if x ≤ y then x :: y :: l else y :: insN x l
noncomputable def sortN : List Nat → List Nat
  | [] => []
  | x :: l => insN x (sortN l)
theorem insN_perm (x : Nat) : ∀ l, (insN x l).Perm (x :: l)
  | [] => .refl _
  | y :: l => by
    unfold insN
    split
    · exact .refl _
    · exact ((insN_perm x l).cons y).trans (.swap ..)
theorem sortN_perm : ∀ l, (sortN l).Perm l
  | [] => .refl _
  | x :: l => (insN_perm x _).trans ((sortN_perm l).cons x)
theorem insN_sorted (x : Nat) : ∀ l : List Nat, l.Pairwise (· ≤ ·) → (insN x l).Pairwise (· ≤ ·)
  | [], _ => by simp [insN]
  | y :: l, h => by
    have h' := List.pairwise_cons.mp h
    unfold insN
    split
    · rename_i hxy
      refine List.pairwise_cons.mpr ⟨fun z hz => ?_, h⟩
      rcases List.mem_cons.mp hz with rfl | hz
      · exact hxy
      · exact Nat.le_trans hxy (h'.1 z hz)
    · rename_i hxy
      refine List.pairwise_cons.mpr ⟨fun z hz => ?_, insN_sorted x l h'.2⟩
      rcases List.mem_cons.mp ((insN_perm x l).mem_iff.mp hz) with rfl | hz
      · omega
      · exact h'.1 z hz
theorem sortN_sorted : ∀ l, (sortN l).Pairwise (· ≤ ·)
  | [] => .nil
  | x :: l => insN_sorted x _ (sortN_sorted l)
theorem sorted_eq {ns : List Int} {l : List Nat} (hp : ns.Perm (ofN l)) (hs : ns.Pairwise (· ≤ ·)) : ns = ofN (sortN l) := by
  refine List.Perm.eq_of_pairwise (le := (· ≤ ·)) (fun a b _ _ h1 h2 => by omega) hs ?_ (hp.trans ((sortN_perm l).map _).symm)
  exact List.pairwise_map.mpr ((sortN_sorted l).imp fun h => Int.ofNat_le.mpr h)
structure RSt where
  rs : List PN
  rd : List Nat
  po : Int
  fi : Int
  gs : List (List Nat)
noncomputable abbrev RSt.act (st : RSt) : Bool := decide (st.fi < st.po) || st.rd.length != 0
noncomputable abbrev RSt.nx (st : RSt) : List PN × List Nat := st.rd.foldl done1 (outP st.rs st.rd, [])
noncomputable def RSt.good (st : RSt) : Bool := okB st.rs && decide (st.rd.length < 64)
noncomputable def RSt.fine (st : RSt) : Bool := okB (outP st.rs st.rd) && (closedB (outP st.rs st.rd) && (st.rd.all (fun n => decide (n ∈ st.rs.map (·.node))) && doneOk (outP st.rs st.rd, []) st.rd))
noncomputable def RSt.step (st : RSt) : Option RSt := if st.good then (if st.act then (if st.fine then some ⟨st.nx.1, st.nx.2, st.po + st.rd.length, st.fi + st.rd.length, st.gs ++ [sortN st.rd]⟩ else none) else some st) else none
noncomputable def runN : Nat → RSt → Option RSt
  | 0, st => some st
  | n + 1, st => match st.step with
    | none => none
    | some st' => runN n st'
structure RunOk (below : List (List Nat)) (nodes : List Nat) (rs : List PN) (res : Option (List Nat)) (st : RSt) : Prop where
  add : addAll below nodes nodes [] = some rs
  ok : okB rs = true
  cl : closedB rs = true
  fc : fcF rs 100 [] (rs.map (·.node)) = some res
  rl : ∀ ring, res = some ring → ring ≠ [] ∧ ring.length ≤ 1000
  run : runN nodes.length ⟨rs, rdyP rs, 0, 0, []⟩ = some st
  act : st.act = false
  ok2 : okB st.rs = true
  ns : ∀ n ∈ nodes, n ∈ st.rs.map (·.node) ∧ n < 4 ∧ (0 ≤ npOf st.rs n ∨ npOf st.rs n = -2)
  nl : nodes.length ≤ 100
  gl : st.gs.length ≤ 100
/- lists of whole numbers, by their places -/
noncomputable def BelowAt (n : Led) (bl : Addr) (below : List (List Nat)) : Prop := Ex2 fun (refs : List Value) (k : Nat) => (bl, listO refs k) ∈ n ∧ ∀ (i : Nat) (l : List Nat), below[i]? = some l → ∃ (b : Addr) (lv : List Value) (kb : Nat), refs[i]? = some (.ref b) ∧ (b, listO lv kb) ∈ n ∧ IntsAre lv (ofN l)
inductive GA : List (List Nat) → List Value → Led → Prop
  | nil : GA [] [] []
  | snoc {gs : List (List Nat)} {vs out : List Value} {X : Led} {g : List Nat} {l : Addr} {e : Nat} : GA gs vs X → IntsAre out (ofN g) → GA (gs ++ [g]) (vs ++ [.ref l]) ((l, listO out e) :: X)
theorem GA.len {gs : List (List Nat)} {vs : List Value} {X : Led} (h : GA gs vs X) : vs.length = gs.length := by
  induction h with
  | nil => rfl
  | snoc _ _ ih => simp [ih]
inductive RA : Option (List Nat) → Value → Led → Prop
  | none : RA none .none []
  | some {ring : List Nat} {t D : Addr} {tt : Tok} {rv : List Value} {k : Nat} : IntsAre rv (ofN ring) → RA (some ring) (.ref t) [(t, tupO [.str "nodes are in a cycle" tt, .ref D] 0), (D, listO rv k)]
theorem filter_step (l : List Nat) (p : Nat → Bool) (i : Nat) (h : i < l.length) : (l.take (i + 1)).filter p = (l.take i).filter p ++ if p l[i] then [l[i]] else [] := by
  rw [List.take_succ_eq_append_getElem h, List.filter_append]
  congr 1
  by_cases q : p l[i] = true <;> simp [q]
theorem any_ofN (l : List Nat) (n : Nat) : (ofN l).any (· == (n : Int)) = l.any (· == n) := by
  rw [List.any_map]
  congr 1
  funext x
  show (Int.ofNat x == (n : Int)) = (x == n)
  rw [Bool.eq_iff_iff, beq_iff_eq, beq_iff_eq]
  exact ⟨fun h => Int.ofNat.inj h, fun h => by rw [h]; rfl⟩

noncomputable abbrev ruLN : List Str := ["below", "sorter", "node", "ring", "error", "groups", "turn", "group"]
theorem addAll_step {below : List (List Nat)} {nodes : List Nat} {i : Nat} {rs rsF : List PN} (hi : i < nodes.length) (h : addAll below nodes (nodes.drop i) rs = some rsF) :
    OkP rs 100 ∧ (belowF below nodes nodes[i]).length ≤ 100 ∧ (∃ l, below[nodes[i]]? = some l ∧ l.length ≤ 100 ∧ belowF below nodes nodes[i] = l.filter fun o => nodes.any (· == o)) ∧ addAll below nodes (nodes.drop (i + 1)) (addP rs nodes[i] (belowF below nodes nodes[i])) = some rsF := by
  rw [List.drop_eq_getElem_cons hi] at h
  unfold addAll at h
  split at h
  · rename_i hc
    simp only [Bool.and_eq_true, decide_eq_true_eq] at hc
    have hg : below.getD nodes[i] [] = below[nodes[i]] := by simp [hc.2.2.1]
    exact ⟨okB_ok hc.1, hc.2.1, ⟨below[nodes[i]], List.getElem?_eq_getElem hc.2.2.1, by rw [← hg]; exact hc.2.2.2, by unfold belowF; rw [hg]⟩, h⟩
  · cases h
/- _law_run(below, nodes) -/
theorem run_c {d : Dy} {m : Loc} {news : Led} {E : Value → Shared → Prop} {nl bl : Addr} {nv : List Value} {kn : Nat} {below : List (List Nat)} {nodes : List Nat} {rs : List PN} {res : Option (List Nat)} {st : RSt} {Q : Value → Loc → Led → Prop} (hr : 6 ≤ d.room) (hh : d.A.handled = none)
    (hB : BelowAt news bl below) (hnl : (nl, listO nv kn) ∈ news) (hnv : IntsAre nv (ofN nodes)) (R : RunOk below nodes rs res st)
    (h : ∀ t rv g gv gk wd wv wk Xr Xg Xw, RA res rv Xr → GA st.gs gv Xg → WL (wordF st.rs) nodes wv Xw → Q (.ref t) m ((t, tupO [rv, .ref g, .ref wd] 0) :: (g, listO gv gk) :: (wd, listO wv wk) :: (Xr ++ (Xg ++ (Xw ++ news))))) :
    W d (call (.ref 214) [.ref bl, .ref nl]) m news Q E := by
  have sL : (3000 : Nat) ≤ sizeLine := Nat.le_of_ble_eq_true rfl
  have lnv : nv.length = nodes.length := by have := hnv.length; simpa using this
  have hnl100 := R.nl
  refine W_defCw (LN := ruLN) (GN := ["TopologicalSorter", "CycleError", "isinstance", "tuple", "sorted", "_law_words"]) (CN := ["nodes"]) (by k_is) (by k_is) (Nm.of (by decide +kernel)) (by decide +kernel) (by omega) rfl
    (.loc (by decide +kernel) .here (.cel (by decide +kernel) .here .nil)) ?_
  intro d' hr' hh' hw
  have hh2 := hh'.trans hh
  intro c oc hoc
  intro hj91 hN
  try wtm_at "q"
  obtain ⟨outer, hO⟩ := hj91
  show W d' _ (Lv ruLN [some _, none, none, none, none, none, none, none]) ((c, oc) :: news) _ _
  try wtm_at "q"
  repeat wtm_at "w"
  refine new_c (by omega) ?_
  intro x news1 hS1
  repeat wtm_at "w"
  have cc : (c, oc) ∈ (c, oc) :: news := .head _
  have cn : (nl, listO nv kn) ∈ (c, oc) :: news := .tail _ hnl
  obtain ⟨refs, kb, hb1, hb2⟩ := hB
  (repeat wtm_at "lf")
  try wtm_at "q"
  refine W_cut (fun m1 n1 => Ex2 fun kvs o1 => SO d'.w x ((c, oc) :: news) ⟨rs, none, 0, 0⟩ kvs n1 ∧ m1 = Lv ruLN [some (.ref bl), some (.ref x), o1, none, none, none, none, none]) ?_ ?_
  · have cm1 := hS1.mem cc
    refine W_ForList (l := nl) (vs := nv) (k := kn) (fun i m1 n1 => Ex3 fun kvs rs1 o1 => And3 (addAll below nodes (nodes.drop i) rs1 = some rs) (SO d'.w x ((c, oc) :: news) ⟨rs1, none, 0, 0⟩ kvs n1) (m1 = Lv ruLN [some (.ref bl), some (.ref x), o1, none, none, none, none, none])) hh2 ?_ ?_ ?_ ?_ PassesOwn.never
    · repeat wtm_at "w"
      (repeat wtm_at "lf")
      exact ⟨rfl, [], [], _, R.add, hS1, rfl⟩
    · intro i m1 n1 hj91
      try wtm_at "q"
      obtain ⟨kvs, rs1, o1, _, hS2, _⟩ := hj91
      exact hS2.mem cn
    · intro it i v m1 n1 hi hv hj91
      try wtm_at "q"
      obtain ⟨kvs, rs1, o1, hA, hS2, rfl⟩ := hj91
      have hi2 : i < nodes.length := by omega
      obtain ⟨tv, rfl⟩ := int_of hnv hi2 hv
      obtain ⟨ok1, lb1, ⟨lb, hlb, lbl, hbf⟩, hA'⟩ := addAll_step hi2 hA
      have hp4 := (R.ns nodes[i] (List.getElem_mem hi2)).2.1
      generalize nodes[i] = p at *
      obtain ⟨b, lv, kl, hrf, hbm, hlv⟩ := hb2 p lb hlb
      have llv : lv.length = lb.length := by have := hlv.length; simpa using this
      obtain ⟨dx, n2i, es, nn, on, led, led2, rdv, tp, tf, hG, hD, hE, hR, hn1⟩ := id hS2
      have y1 := hS2.mem cc
      have y2 : (x, instObj 144 dx) ∈ n1 := by rw [hn1]; exact .head _
      have y3 : (dx, dictOf es nn) ∈ n1 := by rw [hn1]; exact .tail _ (.head _)
      have y4 := hS2.mem cn
      have y5 := hS2.mem (.tail (c, oc) hb1)
      have y6 := hS2.mem (.tail (c, oc) hbm)
      repeat wtm_at "w"
      refine W_MethS ?_
      repeat wtm_at "w"
      refine W_getB (bound_add _) (by wtm_at "lmem") (by wtm_at "lmem") (by assumption) (by decide +kernel) ?_
      intro q
      refine W_cwSB2 (self := .ref x) (bound_add _).fi ?_
      repeat wtm_at "w"
      refine W_splS ?_
      refine W_ListComp (d := d'.hide it _) (n := lv.length) (I := fun _ => listIt b) (V := fun i v => lv[i]? = some v) (C₀ := fun v n₁ => (b, listO lv kl) ∈ n₁) (C := fun _ n₁ => (b, listO lv kl) ∈ n₁) hN hh2 [] [("nodes", c)] (CompOk.of (by show compOk _ ["other"] [] ["nodes"] = true; decide +kernel)) (by simp) (by decide)
        (fun v j ys n₁ => IntsAre ys (ofN ((lb.take j).filter fun o => nodes.any (· == o))) ∧ n₁ = (q, methodObj (.ref 94) (.ref x)) :: n1) (by omega) ?_ ?_ ?_ ?_
      · repeat wtm_at "w"
        refine W_itemL (by wtm_at "lmem") (by omega) hrf ?_
        (repeat wtm_at "lf")
        exact ⟨rfl, iter_list, .tail _ y6, .nil, rfl⟩
      · intro v j ys n₁ hj91
        try wtm_at "q"
        obtain ⟨_, rfl⟩ := hj91
        exact .tail _ y6
      · intro vv Ca it2 D k j v ys n₁ hj hv2 hj91 hEv
        try wtm_at "q"
        obtain ⟨hys, rfl⟩ := hj91
        have hj2 : j < lb.length := by omega
        obtain ⟨tv2, rfl⟩ := int_of hlv hj2 hv2
        refine W_tests1 ?_
        repeat wtm_at "w"
        refine W_inInts (.tail _ y4) hnv ?_
        rw [any_ofN]
        repeat wtm_at "w"
        split
        · rename_i hc
          repeat wtm_at "w"
          (repeat wtm_at "lf")
          refine ⟨⟨_, rfl⟩, ?_, rfl⟩
          rw [filter_step _ _ _ hj2, if_pos hc]
          have := hys.append (.cons (lb[j] : Int) tv2 .nil)
          simpa [ofN] using this
        · rename_i hc
          (repeat wtm_at "lf")
          refine ⟨⟨_, rfl⟩, ?_, rfl⟩
          rw [filter_step _ _ _ hj2, if_neg hc]
          simpa using hys
      · intro vv D k ys n₁ hj91
        try wtm_at "q"
        obtain ⟨hys, rfl⟩ := hj91
        rw [llv, List.take_length, ← hbf] at hys
        have lys : ys.length = (belowF below nodes p).length := by have := hys.length; simpa using this
        refine W_starL (.head _) (by omega) ?_
        repeat wtm_at "w"
        rw [List.append_nil]
        (repeat wtm_at "lf")
        refine ⟨.tail _ (.head _), W_callM (.tail _ (.head _)) ?_⟩
        refine WC.sub (n' := n1) ?_ ((List.Sublist.refl n1).cons _ |>.cons _)
        refine add_k (d := d'.hide it _) (by show 4 ≤ d'.room; omega) hh2 hS2 ok1 (by omega) rfl hys ?_
        intro kvs' news' hS3
        (repeat wtm_at "lf")
        refine ⟨rfl, ?_⟩
        repeat wtm_at "w"
        (repeat wtm_at "lf")
        exact ⟨_, _, _, hA', hS3, rfl⟩
    · intro m1 n1 hj91
      try wtm_at "q"
      obtain ⟨kvs, rs1, o1, hA, hS2, rfl⟩ := hj91
      rw [lnv, List.drop_length] at hA
      obtain rfl : rs1 = rs := by simpa [addAll] using hA
      (repeat wtm_at "lf")
      exact ⟨rfl, kvs, o1, hS2, rfl⟩
  · intro m1 n1 hj91
    try wtm_at "q"
    obtain ⟨kvs, o1, hS2, rfl⟩ := hj91
    repeat wtm_at "w"
    (repeat wtm_at "lf")
    try wtm_at "q"
    refine W_cut (fun m2 n2 => Ex3 fun rv Xr o2 => And3 (RA res rv Xr) (SO d'.w x (Xr ++ ((c, oc) :: news)) ⟨rs, some (rdyP rs), 0, 0⟩ kvs n2) (m2 = Lv ruLN [some (.ref bl), some (.ref x), o1, some rv, o2, none, none, none])) ?_ ?_
    · refine W_TryH (fun m' n' cls a0 => cls = .ref 62 ∧ Ex6 fun ring t tt D rv k => And5 (res = some ring) (a0 = .ref t) (IntsAre rv (ofN ring)) (SO d'.w x ((t, tupO [.str "nodes are in a cycle" tt, .ref D] 0) :: (D, listO rv k) :: ((c, oc) :: news)) ⟨rs, some (rdyP rs), 0, 0⟩ kvs n') (m' = Lv ruLN [some (.ref bl), some (.ref x), o1, some .none, none, none, none, none])) hO rfl ?_ ?_
      · obtain ⟨dx, n2i, es, nn, on, led, led2, rdv, tp, tf, hG, hD, hE, hR, hn1⟩ := id hS2
        have y2 : (x, instObj 144 dx) ∈ n1 := by rw [hn1]; exact .head _
        have y3 : (dx, dictOf es nn) ∈ n1 := by rw [hn1]; exact .tail _ (.head _)
        repeat wtm_at "w"
        refine prep_c (by omega) hh2 hS2 rfl ((okB_ok R.ok).mono (by omega)) (closedB_ok R.cl) R.fc R.rl ?_ ?_
        · intro hres news' hS3
          repeat wtm_at "w"
          try rw [if_neg (by simp)]
          repeat wtm_at "w"
          subst hres
          (repeat wtm_at "lf")
          exact ⟨rfl, _, _, _, .none, hS3, rfl⟩
        · intro ring hres ev s t tt D rv k news' hrv hS3 hxf
          (repeat wtm_at "lf")
          exact ⟨_, _, _, _, hxf, rfl, ring, t, tt, D, rv, k, hres, rfl, hrv, hS3, rfl⟩
      · intro e m' n' cls a0 s hj91 hl
        try wtm_at "q"
        obtain ⟨rfl, ring, t, tt, D, rv, k, hres, rfl, hrv, hS3, rfl⟩ := hj91
        refine hb_as (LN := ruLN) hN (by wtm_at "mem") hl (Pe.gloK hN (by wtm_at "mem") (gk17 _)) mat_ce ?_
        intro oe ws hoc' hod h0
        wtm_at "w"
        (repeat wtm_at "lf")
        try wtm_at "uq"
        refine W.re ?_
        try wtm_at "q"
        repeat wtm_at "w"
        refine W_argsC (.head _) hoc' hod h0 ?_
        repeat wtm_at "w"
        (repeat wtm_at "lf")
        refine ⟨n', [(e, oe)], by wtm_at "perm", _, fun u => [some (.ref bl), some (.ref x), o1, some (.ref t), u, none, none, none], rfl, fun u => .there (.there (.there (.there .here))), fun u => ?_⟩
        subst hres
        (repeat wtm_at "lf")
        exact ⟨rfl, _, _, _, .some hrv, hS3, rfl⟩
    · intro m2 n2 hj91
      try wtm_at "q"
      obtain ⟨rv, Xr, o2, hRA, hS3, rfl⟩ := hj91
      repeat wtm_at "w"
      refine W_newList (Nat.zero_le _) ?_
      intro gl
      obtain ⟨news4, hS4, hP4⟩ := hS3.in [(gl, listO [] 0)]
      refine W.perm (n' := news4) ?_ hP4
      repeat wtm_at "w"
      have lS : ∀ p ∈ Xr ++ ((c, oc) :: news), p ∈ Xr ++ ((c, oc) :: news) := fun _ hp => hp
      have cn2 : (nl, listO nv kn) ∈ Xr ++ ((c, oc) :: news) := List.mem_append_right _ cn
      have cc2 : (c, oc) ∈ Xr ++ ((c, oc) :: news) := List.mem_append_right _ cc
      generalize hbase : Xr ++ ((c, oc) :: news) = base at *
      (repeat wtm_at "lf")
      try wtm_at "q"
      refine W_cut (fun m3 n3 => Ex7 fun gv gk Xg po fi o3 o4 => And5 (GA st.gs gv Xg) (SO d'.w x ((gl, listO gv gk) :: (Xg ++ base)) ⟨st.rs, some st.rd, st.po, st.fi⟩ kvs n3) (m3 = Lv ruLN [some (.ref bl), some (.ref x), o1, some rv, o2, some (.ref gl), o3, o4]) (po = st.po) (fi = st.fi)) ?_ ?_
      · have cm4 := hS4.mem (.tail _ cc2)
        refine W_ForList (l := nl) (vs := nv) (k := kn) (fun i m3 n3 => Ex6 fun st1 gv gk Xg o3 o4 => And5 (runN (nodes.length - i) st1 = some st) (GA st1.gs gv Xg) (st1.gs.length ≤ i) (SO d'.w x ((gl, listO gv gk) :: (Xg ++ base)) ⟨st1.rs, some st1.rd, st1.po, st1.fi⟩ kvs n3) (m3 = Lv ruLN [some (.ref bl), some (.ref x), o1, some rv, o2, some (.ref gl), o3, o4])) hh2 ?_ ?_ ?_ ?_ PassesOwn.never
        · repeat wtm_at "w"
          (repeat wtm_at "lf")
          exact ⟨rfl, _, [], 0, [], _, _, R.run, .nil, by simp, hS4, rfl⟩
        · intro i m3 n3 hj91
          try wtm_at "q"
          obtain ⟨st1, gv, gk, Xg, o3, o4, _, _, _, hS5, _⟩ := hj91
          exact hS5.mem (.tail _ (List.mem_append_right _ cn2))
        · intro it i v m3 n3 hi hv hj91
          try wtm_at "q"
          obtain ⟨st1, gv, gk, Xg, o3, o4, hrun, hGA, hgl, hS5, rfl⟩ := hj91
          have hi2 : i < nodes.length := by omega
          have e1 : nodes.length - i = (nodes.length - (i + 1)) + 1 := by omega
          rw [e1] at hrun
          obtain ⟨st2, hst, hrun2⟩ : ∃ st2, st1.step = some st2 ∧ runN (nodes.length - (i + 1)) st2 = some st := by
            unfold runN at hrun
            split at hrun
            · cases hrun
            · rename_i st2 hst; exact ⟨st2, hst, hrun⟩
          unfold RSt.step at hst
          split at hst
          case isFalse => cases hst
          rename_i hgood
          unfold RSt.good at hgood
          simp only [Bool.and_eq_true, decide_eq_true_eq] at hgood
          have okr := okB_ok hgood.1
          have lgv := hGA.len
          obtain ⟨dx, n2i, es, nn, on, led, led2, rdv, tp, tf, hG, hD, hE, hR, hn1⟩ := id hS5
          have y2 : (x, instObj 144 dx) ∈ n3 := by rw [hn1]; exact .head _
          have y3 : (dx, dictOf es nn) ∈ n3 := by rw [hn1]; exact .tail _ (.head _)
          wtm_at "w"
          (repeat wtm_at "lf")
          try wtm_at "uq"
          refine W.re ?_
          try wtm_at "q"
          repeat wtm_at "w"
          refine active_c (d := d'.hide it _) (by show 1 ≤ d'.room; omega) hS5 rfl (by show st1.rd.length ≤ 1000; omega) ?_
          repeat wtm_at "w"
          refine W_isB ?_
          repeat wtm_at "w"
          have eact : (((decide (st1.fi < st1.po) || st1.rd.length != 0) == true) = true) = (st1.act = true) := by show _ = ((decide (st1.fi < st1.po) || st1.rd.length != 0) = true); simp
          split at hst
          · rename_i hact
            rw [if_pos (by rw [eact]; exact hact)]
            split at hst
            case isFalse => cases hst
            rename_i hfine
            unfold RSt.fine at hfine
            simp only [Bool.and_eq_true, decide_eq_true_eq, List.all_eq_true] at hfine
            obtain ⟨hf1, hf2, hf3, hf4⟩ := hfine
            obtain rfl := Option.some.inj hst
            repeat wtm_at "w"
            refine ready_c (d := d'.hide it _) (by show 1 ≤ d'.room; omega) hh2 hS5 rfl (by show st1.rd.length ≤ 1000; omega) okr.nd hf3 ?_
            intro D lv news6 hlv hS6
            have llv : lv.length = st1.rd.length := by have := hlv.length; simpa using this
            obtain ⟨dx6, n2i6, es6, nn6, on6, led6, led26, rdv6, tp6, tf6, hG6, hD6, hE6, hR6, hn6⟩ := id hS6
            have z2 : (x, instObj 144 dx6) ∈ news6 := by rw [hn6]; exact .head _
            have z3 : (dx6, dictOf es6 nn6) ∈ news6 := by rw [hn6]; exact .tail _ (.head _)
            have z4 : (D, tupO lv 0) ∈ news6 := hS6.mem (.head _)
            repeat wtm_at "w"
            refine W_isiTT z4 ?_
            repeat wtm_at "w"
            try rw [if_neg (by simp)]
            repeat wtm_at "w"
            refine W_MethS ?_
            repeat wtm_at "w"
            refine W_getB (bound_done _) (by wtm_at "lmem") (by wtm_at "lmem") hE6 (by decide +kernel) ?_
            intro q
            refine W_cwSB (self := .ref x) (bound_done _).fi ?_
            repeat wtm_at "w"
            refine W_starT (.tail _ z4) (by omega) ?_
            (repeat wtm_at "lf")
            refine ⟨.head _, W_callM (.head _) ?_⟩
            refine WC.sub (n' := news6) ?_ ((List.Sublist.refl news6).cons _)
            refine done_k (d := d'.hide it _) (by show 1 ≤ d'.room; omega) hh2 hS6 rfl ((okB_ok hf1).mono (by omega)) (closedB_ok hf2) (by simp) (by omega) hlv hf4 ?_
            intro news7 hS7
            repeat wtm_at "w"
            try rw [if_neg (by simp)]
            have w4 : (D, tupO lv 0) ∈ news7 := hS7.mem (.head _)
            have w5 : (gl, listO gv gk) ∈ news7 := hS7.mem (.tail _ (.head _))
            repeat wtm_at "w"
            refine W_sortedT w4 hlv (by omega) ?_
            intro l out ns' e hout hpm hsd
            obtain rfl := sorted_eq hpm hsd
            obtain ⟨news8, hS8, hP8⟩ := hS7.in [(l, listO out e)]
            refine W.perm (n' := news8) ?_ hP8
            obtain ⟨gn, hsel, hgn⟩ := hS8.restSel (.there (.there .here))
            repeat wtm_at "w"
            refine W_append hsel (by omega) ?_
            (repeat wtm_at "lf")
            refine ⟨rfl, ?_⟩
            repeat wtm_at "w"
            obtain ⟨news10, hS10, hP10⟩ := (hgn (listO (gv ++ [.ref l]) (gk + 1))).perm (rest' := [(D, tupO lv 0)] ++ ((gl, listO (gv ++ [.ref l]) (gk + 1)) :: (((l, listO out e) :: Xg) ++ base))) (by wtm_at "perm")
            obtain ⟨news11, hS11, hP11⟩ := hS10.out
            (repeat wtm_at "lf")
            exact ⟨news11, [(D, tupO lv 0)], hP10.symm.trans hP11, _, _, _, _, _, _, hrun2, hGA.snoc hout, by simp; omega, hS11, rfl⟩
          · rename_i hact
            rw [if_neg (by rw [eact]; exact hact)]
            obtain rfl := Option.some.inj hst
            repeat wtm_at "w"
            (repeat wtm_at "lf")
            exact ⟨n3, [], by rw [List.append_nil], st1, gv, gk, Xg, _, _, hrun2, hGA, by omega, hS5, rfl⟩
        · intro m3 n3 hj91
          try wtm_at "q"
          obtain ⟨st1, gv, gk, Xg, o3, o4, hrun, hGA, hgl, hS5, rfl⟩ := hj91
          rw [lnv, Nat.sub_self] at hrun
          obtain rfl : st1 = st := by simpa [runN] using hrun
          (repeat wtm_at "lf")
          exact ⟨rfl, gv, gk, Xg, _, _, o3, o4, hGA, hS5, rfl, rfl, rfl⟩
      · intro m3 n3 hj91
        try wtm_at "q"
        obtain ⟨gv, gk, Xg, po, fi, o3, o4, hGA, hS5, rfl, hpo, hfi⟩ := hj91
        obtain ⟨dx, n2i, es, nn, on, led, led2, rdv, tp, tf, hG, hD, hE, hR, hn1⟩ := id hS5
        have y2 : (x, instObj 144 dx) ∈ n3 := by rw [hn1]; exact .head _
        have y3 : (dx, dictOf es nn) ∈ n3 := by rw [hn1]; exact .tail _ (.head _)
        have okr := okB_ok R.ok2
        have hact := R.act
        have hrd : st.rd = [] := by
          have : (st.rd.length != 0) = false := by
            have h2 := hact
            unfold RSt.act at h2
            simp only [Bool.or_eq_false_iff] at h2
            exact h2.2
          exact List.length_eq_zero_iff.mp (by simpa using this)
        have hact2 : (decide (st.fi < st.po) || st.rd.length != 0) = false := hact
        (repeat wtm_at "lf")
        try wtm_at "uq"
        refine W.re ?_
        try wtm_at "q"
        repeat wtm_at "w"
        refine active_c (by omega) hS5 rfl (by show st.rd.length ≤ 1000; rw [hrd]; simp) ?_
        show W d' _ _ _ _ _
        rw [hact2]
        repeat wtm_at "w"
        refine W_isNotB ?_
        repeat wtm_at "w"
        try rw [if_neg (by simp)]
        repeat wtm_at "w"
        refine ready_c (by omega) hh2 hS5 rfl (by show st.rd.length ≤ 1000; rw [hrd]; simp) okr.nd (by intro n hn; rw [hrd] at hn; cases hn) ?_
        intro D lv news6 hlv hS6
        have llv : lv.length = 0 := by have := hlv.length; rw [hrd] at this; simpa using this
        have z4 : (D, tupO lv 0) ∈ news6 := hS6.mem (.head _)
        repeat wtm_at "w"
        refine W_newTuple (Nat.zero_le _) ?_
        intro D2
        refine W_neT0 (.tail _ z4) (.head _) ?_
        rw [llv]
        repeat wtm_at "w"
        try rw [if_neg (by simp)]
        rw [hrd] at hS6
        have e0 : outP st.rs [] = st.rs := rfl
        have z5 := hS6.mem (.tail _ (.tail _ (List.mem_append_right _ cc2)))
        obtain ⟨dx6, n2i6, es6, nn6, on6, led6, led26, rdv6, tp6, tf6, hG6, hD6, hE6, hR6, hn6⟩ := id hS6
        repeat wtm_at "w"
        refine W.sub (n' := news6) ?_ (List.sublist_cons_self ..)
        refine words_c (by omega) hh2 hS6 rfl okr.nd (.tail _ (.tail _ (List.mem_append_right _ cn2))) hnv (by omega) R.ns ?_
        intro wd vs k tl news7 hWL hS7
        repeat wtm_at "w"
        refine W_newTuple (by show 3 ≤ sizeLine; omega) ?_
        intro t
        obtain ⟨_, core, _, hP7, _⟩ := hS7.re []
        subst hbase
        (repeat wtm_at "lf")
        refine ⟨(t, tupO [rv, .ref gl, .ref wd] 0) :: (gl, listO gv gk) :: (wd, listO vs k) :: (Xr ++ (Xg ++ (tl ++ news))), core ++ [(D, tupO lv 0), (c, oc)], (hP7.cons _).trans (by wtm_at "perm"), _, List.Sublist.refl _, ?_⟩
        (repeat wtm_at "lf")
        exact h _ _ _ _ _ _ _ _ _ _ _ hRA hGA hWL

/- tuples of whole numbers, by their places -/
noncomputable def PowAt (n : Led) (pl : Addr) (pw : List (List Nat)) : Prop := Ex2 fun (refs : List Value) (k : Nat) => (pl, listO refs k) ∈ n ∧ refs.length = pw.length ∧ ∀ (i : Nat) (l : List Nat), pw[i]? = some l → ∃ (b : Addr) (tv : List Value), refs[i]? = some (.ref b) ∧ (b, tupO tv 0) ∈ n ∧ IntsAre tv (ofN l)
theorem PowAt.mono {n n' : Led} {pl : Addr} {pw : List (List Nat)} (h : PowAt n pl pw) (hs : ∀ p ∈ n, p ∈ n') : PowAt n' pl pw := by
  obtain ⟨refs, k, h1, hl, h2⟩ := h
  refine ⟨refs, k, hs _ h1, hl, fun i l e => ?_⟩
  obtain ⟨b, tv, a1, a2, a3⟩ := h2 i l e
  exact ⟨b, tv, a1, hs _ a2, a3⟩
theorem PowAt.get {n : Led} {pl : Addr} {pw : List (List Nat)} (h : PowAt n pl pw) (hw : ∀ l ∈ pw, l.length = 3) {i j : Nat} (hi : i < pw.length) (hj : j < 3) : Ex5 fun (refs : List Value) (k : Nat) (b : Addr) (tv : List Value) (t : Tok) => And4 ((pl, listO refs k) ∈ n) (refs[i]? = some (.ref b)) ((b, tupO tv 0) ∈ n) (tv[j]? = some (.int ((pw.getD i []).getD j 0 : Nat) t)) := by
  obtain ⟨refs, k, h1, hl, h2⟩ := h
  obtain ⟨b, tv, a1, a2, a3⟩ := h2 i pw[i] (List.getElem?_eq_getElem hi)
  have e : pw.getD i [] = pw[i] := by simp [hi]
  have l3 := hw pw[i] (List.getElem_mem hi)
  have ltv : tv.length = 3 := by have := a3.length; simpa [l3] using this
  have hj2 : j < pw[i].length := by omega
  obtain ⟨t, ht⟩ := int_of a3 hj2 (List.getElem?_eq_getElem (by omega))
  refine ⟨refs, k, b, tv, t, h1, a1, a2, ?_⟩
  rw [e, List.getElem?_eq_getElem (by omega), ht]
  simp [hj2]
noncomputable def pwBig (pw : List (List Nat)) (o n k : Nat) : Bool := decide ((pw.getD o []).getD k 0 > (pw.getD n []).getD k 0)
noncomputable def partsF (pw : List (List Nat)) (nodes : List Nat) (node : Nat) : List Nat := nodes.filter fun o => o != node && !(((List.range 3).filter (pwBig pw o node)).length != 0)
theorem range_filter (p : Nat → Bool) (i : Nat) : (List.range (i + 1)).filter p = (List.range i).filter p ++ if p i then [i] else [] := by
  rw [List.range_succ, List.filter_append]
  congr 1
  by_cases q : p i = true <;> simp [q]
noncomputable abbrev paLN : List Str := ["nodes", "parts"]
/- _law_parts(powers, nodes, node) -/
theorem parts_c {d : Dy} {m : Loc} {news : Led} {E : Value → Shared → Prop} {nl pl : Addr} {nv : List Value} {kn : Nat} {pw : List (List Nat)} {nodes : List Nat} {node : Nat} {tn : Tok} {Q : Value → Loc → Led → Prop} (hr : 1 ≤ d.room) (hh : d.A.handled = none)
    (hP : PowAt news pl pw) (hw : ∀ l ∈ pw, l.length = 3) (hp4 : pw.length ≤ 100) (hnl : (nl, listO nv kn) ∈ news) (hnv : IntsAre nv (ofN nodes)) (hl : nodes.length ≤ 100) (hns : ∀ n ∈ nodes, n < pw.length) (hnd : node < pw.length)
    (h : ∀ D vs k, IntsAre vs (ofN (partsF pw nodes node)) → Q (.ref D) m ((D, listO vs k) :: news)) :
    W d (call (.ref 219) [.ref pl, .ref nl, .int node tn]) m news Q E := by
  have sL : (3000 : Nat) ≤ sizeLine := Nat.le_of_ble_eq_true rfl
  have lnv : nv.length = nodes.length := by have := hnv.length; simpa using this
  refine W_defCw (LN := paLN) (GN := ["range"]) (CN := ["other", "node", "powers"]) (by k_is) (by k_is) (Nm.of (by decide +kernel)) (by decide +kernel) (by omega) rfl
    (.cel (by decide +kernel) (.there (.there .here)) (.loc (by decide +kernel) .here (.cel (by decide +kernel) (.there .here) .nil))) ?_
  intro d' hr' hh' hw'
  have hh2 := hh'.trans hh
  intro c1 o1 ho1 c2 o2 ho2 c3 o3 ho3
  intro hj91 hN
  try wtm_at "q"
  obtain ⟨outer, hO⟩ := hj91
  show W d' _ (Lv paLN [some _, none]) ((c1, o1) :: (c2, o2) :: (c3, o3) :: news) _ _
  try wtm_at "q"
  repeat wtm_at "w"
  refine W_newList (Nat.zero_le _) ?_
  intro D
  repeat wtm_at "w"
  (repeat wtm_at "lf")
  try wtm_at "q"
  refine W_cut (fun m1 n1 => Ex4 fun ys k oo vo => And4 (IntsAre ys (ofN (partsF pw nodes node))) (oo.data = .cell vo) (n1 = (D, listO ys k) :: (c1, oo) :: (c2, o2) :: (c3, o3) :: news) (m1 = Lv paLN [some (.ref nl), some (.ref D)])) ?_ ?_
  · try wtm_at "q"
    refine W_ForList (l := nl) (vs := nv) (k := kn) (fun i m1 n1 => Ex4 fun ys k oo vo => And4 (IntsAre ys (ofN (partsF pw (nodes.take i) node))) (oo.data = .cell vo) (n1 = (D, listO ys k) :: (c1, oo) :: (c2, o2) :: (c3, o3) :: news) (m1 = Lv paLN [some (.ref nl), some (.ref D)])) hh2 ?_ ?_ ?_ ?_ PassesOwn.never
    · repeat wtm_at "w"
      (repeat wtm_at "lf")
      exact ⟨rfl, [], 0, o1, _, .nil, ho1, rfl, rfl⟩
    · intro i m1 n1 hj91
      try wtm_at "q"
      obtain ⟨ys, k, oo, vo, _, _, rfl, _⟩ := hj91
      exact .tail _ (.tail _ (.tail _ (.tail _ hnl)))
    · intro it i v m1 n1 hi hv hj91
      try wtm_at "q"
      obtain ⟨ys, k, oo, vo, hys, hoo, rfl, rfl⟩ := hj91
      have hi2 : i < nodes.length := by omega
      obtain ⟨tv, rfl⟩ := int_of hnv hi2 hv
      have hpn := hns nodes[i] (List.getElem_mem hi2)
      have lys : ys.length ≤ i := by
        have h1 := hys.length
        have h2 : (partsF pw (nodes.take i) node).length ≤ i := Nat.le_trans (List.length_filter_le ..) (by simp; omega)
        have h3 : (ofN (partsF pw (nodes.take i) node)).length = (partsF pw (nodes.take i) node).length := by simp
        omega
      have hst : partsF pw (nodes.take (i + 1)) node = partsF pw (nodes.take i) node ++ if (nodes[i] != node && !(((List.range 3).filter (pwBig pw nodes[i] node)).length != 0)) then [nodes[i]] else [] := by
        unfold partsF
        rw [filter_step _ _ _ hi2]
      generalize nodes[i] = p at *
      wtm_at "w"
      rename_i oo2 hoo2
      (repeat wtm_at "lf")
      try wtm_at "uq"
      refine W.re ?_
      try wtm_at "q"
      repeat wtm_at "w"
      have epn : ((p : Int) != (node : Int)) = (p != node) := by rw [Bool.eq_iff_iff, bne_iff_ne, bne_iff_ne]; omega
      rw [epn]
      by_cases hpd : p = node
      · subst hpd
        try rw [if_neg (by simp)]
        repeat wtm_at "w"
        (repeat wtm_at "lf")
        refine ⟨_, [], List.Perm.of_eq (List.append_nil _).symm, ys, k, oo2, _, ?_, hoo2, rfl, rfl⟩
        rw [hst]
        simpa using hys
      · have hpd2 : (p != node) = true := bne_iff_ne.mpr hpd
        rw [if_pos hpd2]
        try wtm_at "q"
        repeat wtm_at "w"
        have hP2 : PowAt ((D, listO ys k) :: (c1, oo2) :: (c2, o2) :: (c3, o3) :: news) pl pw := hP.mono fun q hq => .tail _ (.tail _ (.tail _ (.tail _ hq)))
        refine W_ListCompR (d := d'.hide it _) hN hh2 [] [("node", c2), ("other", c1), ("powers", c3)] (CompOk.of (by show compOk _ ["k"] [] ["node", "other", "powers"] = true; decide +kernel)) (by simp) (by decide) 3
          (fun j zs n₁ => IntsAre zs (ofN ((List.range j).filter (pwBig pw p node))) ∧ n₁ = (D, listO ys k) :: (c1, oo2) :: (c2, o2) :: (c3, o3) :: news) (by omega) ?_ ?_ ?_
        · repeat wtm_at "w"
          (repeat wtm_at "lf")
          exact ⟨rfl, ⟨_, _, _, _, rfl, .head _⟩, _, List.sublist_cons_self .., .nil, rfl⟩
        · intro Ca it2 D2 k2 j tj zs n₁ hj hj91 hEv
          try wtm_at "q"
          obtain ⟨hzs, rfl⟩ := hj91
          obtain ⟨refs, kr, b, bv, tb, q1, q2, q3, q4⟩ := hP2.get hw hpn hj
          obtain ⟨refs', kr', b', bv', tb', r1, r2, r3, r4⟩ := hP2.get hw hnd hj
          refine W_tests1 ?_
          repeat wtm_at "w"
          refine W_itemL q1 (by omega) q2 ?_
          repeat wtm_at "w"
          refine W_itemT q3 (seqIndex_in (by omega) ?_) q4 ?_
          · have := (List.getElem?_eq_some_iff.mp q4).1; omega
          repeat wtm_at "w"
          refine W_itemL r1 (by omega) r2 ?_
          repeat wtm_at "w"
          refine W_itemT r3 (seqIndex_in (by omega) ?_) r4 ?_
          · have := (List.getElem?_eq_some_iff.mp r4).1; omega
          repeat wtm_at "w"
          have eb : decide ((((pw.getD p []).getD j 0 : Nat) : Int) > (((pw.getD node []).getD j 0 : Nat) : Int)) = pwBig pw p node j := by
            unfold pwBig
            rw [Bool.eq_iff_iff, decide_eq_true_eq, decide_eq_true_eq]; omega
          rw [eb]
          split
          · rename_i hc
            repeat wtm_at "w"
            (repeat wtm_at "lf")
            refine ⟨⟨_, rfl⟩, _, List.Sublist.refl _, ?_, rfl⟩
            rw [range_filter, if_pos hc]
            have := hzs.append (.cons (j : Int) tj .nil)
            simpa [ofN] using this
          · rename_i hc
            (repeat wtm_at "lf")
            refine ⟨⟨_, rfl⟩, _, List.Sublist.refl _, ?_, rfl⟩
            rw [range_filter, if_neg hc]
            simpa using hzs
        · intro D2 k2 zs n₁ hj91
          try wtm_at "q"
          obtain ⟨hzs, rfl⟩ := hj91
          have lzs : zs.length = ((List.range 3).filter (pwBig pw p node)).length := by have := hzs.length; simpa using this
          have lz3 : ((List.range 3).filter (pwBig pw p node)).length ≤ 3 := List.length_filter_le _ _
          repeat wtm_at "w"
          refine W_truthyL (by wtm_at "lmem") (by omega) ?_
          rw [lzs]
          rw [hpd2, Bool.true_and] at hst
          generalize (((List.range 3).filter (pwBig pw p node)).length != 0) = bb at hst ⊢
          repeat wtm_at "w"
          cases bb with
          | true =>
            try rw [if_neg (by simp)]
            repeat wtm_at "w"
            (repeat wtm_at "lf")
            refine ⟨_, [(D2, listO zs k2)], List.perm_append_comm (l₁ := [_]), ys, k, oo2, _, ?_, hoo2, rfl, rfl⟩
            rw [hst]
            simpa using hys
          | false =>
            try rw [if_pos (by simp)]
            repeat wtm_at "w"
            refine W_append (by wtm_at "sel") (by omega) ?_
            (repeat wtm_at "lf")
            refine ⟨rfl, ?_⟩
            repeat wtm_at "w"
            (repeat wtm_at "lf")
            refine ⟨_, [(D2, listO zs k2)], List.perm_append_comm (l₁ := [_]), _, _, oo2, _, ?_, hoo2, rfl, rfl⟩
            rw [hst]
            have := hys.append (.cons (p : Int) tv .nil)
            simpa [ofN] using this
    · intro m1 n1 hj91
      try wtm_at "q"
      obtain ⟨ys, k, oo, vo, hys, hoo, rfl, rfl⟩ := hj91
      rw [lnv, List.take_length] at hys
      (repeat wtm_at "lf")
      exact ⟨rfl, ys, k, oo, vo, hys, hoo, rfl, rfl⟩
  · intro m1 n1 hj91
    try wtm_at "q"
    obtain ⟨ys, k, oo, vo, hys, hoo, rfl, rfl⟩ := hj91
    repeat wtm_at "w"
    (repeat wtm_at "lf")
    exact ⟨_, List.Sublist.cons_cons _ ((List.Sublist.refl news).cons _ |>.cons _ |>.cons _), h _ _ _ hys⟩

noncomputable def ringGood (pw : List (List Nat)) (tw : List Nat) : Option (List Nat) → Bool
  | none => tw.length == 0
  | some ring => tw.length != 0 && (decide (3 ≤ ring.length) && (decide (ring.length ≤ 100) && ((ring.getD 0 0 == ring.getD (ring.length - 1) 0) && ring.all fun n => decide (n < pw.length) && (decide (pw.getD n [] = pw.getD (ring.getD 0 0) []) && (ring.drop 1).count n == 1))))
theorem PowAt.row {n : Led} {pl : Addr} {pw : List (List Nat)} (h : PowAt n pl pw) {i : Nat} (hi : i < pw.length) : Ex4 fun (refs : List Value) (k : Nat) (b : Addr) (tv : List Value) => And4 ((pl, listO refs k) ∈ n) (refs[i]? = some (.ref b)) ((b, tupO tv 0) ∈ n) (IntsAre tv (ofN (pw.getD i []))) := by
  obtain ⟨refs, k, h1, hl, h2⟩ := h
  obtain ⟨b, tv, a1, a2, a3⟩ := h2 i pw[i] (List.getElem?_eq_getElem hi)
  have e : pw.getD i [] = pw[i] := by simp [hi]
  exact ⟨refs, k, b, tv, h1, a1, a2, by rw [e]; exact a3⟩
theorem ints_drop : ∀ (n : Nat) {vs : List Value} {ns : List Int}, IntsAre vs ns → IntsAre (vs.drop n) (ns.drop n)
  | 0, _, _, h => h
  | n + 1, _, _, .nil => .nil
  | n + 1, _, _, .cons _ _ r => ints_drop n r
/- _law_ring_is_right(ring, powers, twice), where it is -/
theorem ring_c {d : Dy} {m : Loc} {news : Led} {E : Value → Shared → Prop} {tl pl : Addr} {tvs : List Value} {kt : Nat} {rv : Value} {Xr : Led} {pw : List (List Nat)} {tw : List Nat} {res : Option (List Nat)} {Q : Value → Loc → Led → Prop} (hr : 1 ≤ d.room) (hh : d.A.handled = none)
    (hRA : RA res rv Xr) (hX : ∀ p ∈ Xr, p ∈ news) (hP : PowAt news pl pw) (hp4 : pw.length ≤ 100) (htl : (tl, listO tvs kt) ∈ news) (htv : tvs.length = tw.length) (hl : tw.length ≤ 100) (hg : ringGood pw tw res = true)
    (h : Q (.bool true) m news) : W d (call (.ref 224) [rv, .ref pl, .ref tl]) m news Q E := by
  have sL : (3000 : Nat) ≤ sizeLine := Nat.le_of_ble_eq_true rfl
  refine W_defCw (LN := ["ring", "twice"]) (GN := ["len", "isinstance", "list"]) (CN := ["nodes", "powers"]) (by k_is) (by k_is) (Nm.of (by decide +kernel)) (by decide +kernel) (by omega) rfl
    (.loc (by decide +kernel) .here (.cel (by decide +kernel) (.there .here) (.loc (by decide +kernel) (.there .here) .nil))) ?_
  intro d' hr' hh' hw'
  have hh2 := hh'.trans hh
  intro c1 o1 ho1 c2 o2 ho2
  intro hj91 hN
  try wtm_at "q"
  obtain ⟨outer, hO⟩ := hj91
  show W d' _ (Lv ["ring", "twice"] [some _, some _]) ((c1, o1) :: (c2, o2) :: news) _ _
  try wtm_at "q"
  repeat wtm_at "w"
  refine W_truthyL (.tail _ (.tail _ htl)) (by omega) ?_
  cases hRA with
  | none =>
    have e : (tvs.length != 0) = false := by unfold ringGood at hg; simp at hg; simp [htv, hg]
    rw [e]
    repeat wtm_at "w"
    (repeat wtm_at "lf")
    try rw [if_pos (by simp)]
    repeat wtm_at "w"
    (repeat wtm_at "lf")
    exact ⟨_, (List.Sublist.refl news).cons _ |>.cons _, by simpa using h⟩
  | some hrv =>
    rename_i ring t D tt rvs k
    unfold ringGood at hg
    simp only [Bool.and_eq_true, decide_eq_true_eq, beq_iff_eq, List.all_eq_true, bne_iff_ne] at hg
    obtain ⟨g1, g2, g3, g4, g5⟩ := hg
    have e : (tvs.length != 0) = true := by rw [htv]; simpa using g1
    rw [e]
    repeat wtm_at "w"
    (repeat wtm_at "lf")
    try rw [if_neg (by simp)]
    have xt := hX _ (.head _)
    have xd := hX _ (.tail _ (.head _))
    repeat wtm_at "w"
    (repeat wtm_at "lf")
    try rw [if_neg (by simp)]
    repeat wtm_at "w"
    refine W_lenT (.tail _ (.tail _ xt)) (by simp) ?_
    intro _
    repeat wtm_at "w"
    (repeat wtm_at "lf")
    try rw [if_neg (by simp)]
    repeat wtm_at "w"
    refine W_itemT (n := 0) (.tail _ (.tail _ xt)) (by rfl) rfl ?_
    repeat wtm_at "w"
    (repeat wtm_at "lf")
    try rw [if_neg (by simp)]
    repeat wtm_at "w"
    refine W_itemT (n := 1) (.tail _ (.tail _ xt)) (by rfl) rfl ?_
    repeat wtm_at "w"
    refine W_isiLL (.tail _ (.tail _ xd)) ?_
    repeat wtm_at "w"
    (repeat wtm_at "lf")
    try rw [if_neg (by simp)]
    repeat wtm_at "w"
    refine W_itemT (n := 1) (.tail _ (.tail _ xt)) (by rfl) rfl ?_
    repeat wtm_at "w"
    rename_i oc hoc _ _ _ _
    have lrv : rvs.length = ring.length := by have := hrv.length; simpa using this
    refine W_lenL (.tail _ (.tail _ xd)) (by omega) ?_
    intro _
    repeat wtm_at "w"
    (repeat wtm_at "lf")
    try rw [if_neg (by simp; omega)]
    have xd2 : (D, listO rvs k) ∈ (c1, oc) :: (c2, o2) :: news := .tail _ (.tail _ xd)
    obtain ⟨t0, ht0⟩ := int_of hrv (i := 0) (by omega) (List.getElem?_eq_getElem (by omega))
    obtain ⟨t1, ht1⟩ := int_of hrv (i := ring.length - 1) (by omega) (List.getElem?_eq_getElem (by omega))
    have hsp : rvs = rvs.dropLast ++ [rvs[ring.length - 1]] := by
      have hne : rvs ≠ [] := by intro e; rw [e] at lrv; simp at lrv; omega
      have := List.dropLast_concat_getLast hne
      rw [List.getLast_eq_getElem] at this
      simpa [lrv] using this.symm
    have hr0 : ring.getD 0 0 = ring[0] := by simp [List.getD_eq_getElem?_getD, show 0 < ring.length by omega]
    have hr1 : ring.getD (ring.length - 1) 0 = ring[ring.length - 1] := by simp [List.getD_eq_getElem?_getD, show ring.length - 1 < ring.length by omega]
    repeat wtm_at "w"
    refine W_itemL xd2 (by omega) (List.getElem?_eq_getElem (by show 0 < rvs.length; omega)) ?_
    repeat wtm_at "w"
    refine W_itemLast (vs := rvs.dropLast) (v := rvs[ring.length - 1]) (k := k) (by rw [← hsp]; exact xd2) ?_
    show W d' (compareOp .NotEq rvs[0] rvs[ring.length - 1]) _ _ _ _
    rw [ht0, ht1]
    repeat wtm_at "w"
    rw [hr0, hr1] at g4
    rw [if_neg (by rw [← g4]; simp)]
    repeat wtm_at "w"
    have hP2 : PowAt ((c1, oc) :: (c2, o2) :: news) pl pw := hP.mono fun q hq => .tail _ (.tail _ hq)
    refine W_ListComp (n := rvs.length) (I := fun _ => listIt D) (V := fun i v => rvs[i]? = some v) (C₀ := fun v n₁ => (D, listO rvs k) ∈ n₁) (C := fun _ n₁ => (D, listO rvs k) ∈ n₁) hN hh2 [] [("nodes", c1), ("powers", c2)] (CompOk.of (by show compOk _ ["node"] [] ["nodes", "powers"] = true; decide +kernel)) (by simp) (by decide)
      (fun v j ys n₁ => ys = [] ∧ n₁ = (c1, oc) :: (c2, o2) :: news) (by omega) ?_ ?_ ?_ ?_
    · repeat wtm_at "w"
      (repeat wtm_at "lf")
      exact ⟨rfl, iter_list, xd2, rfl, rfl⟩
    · intro v j ys n₁ hj91
      try wtm_at "q"
      obtain ⟨_, rfl⟩ := hj91
      exact xd2
    · intro vv Ca it D2 k2 j v ys n₁ hj hv hj91 hEv
      try wtm_at "q"
      obtain ⟨rfl, rfl⟩ := hj91
      have hj2 : j < ring.length := by omega
      obtain ⟨tv, rfl⟩ := int_of hrv hj2 hv
      obtain ⟨q1, q2, q3⟩ := g5 ring[j] (List.getElem_mem hj2)
      obtain ⟨w1, w2, w3⟩ := g5 ring[0] (List.getElem_mem (by omega))
      rw [hr0] at q2
      obtain ⟨refs, kr, b, bv, r1, r2, r3, r4⟩ := hP2.row q1
      obtain ⟨refs', kr', b', bv', s1, s2, s3, s4⟩ := hP2.row w1
      refine W_tests1 ?_
      try wtm_at "uq"
      refine W.drop ?_
      try wtm_at "q"
      repeat wtm_at "w"
      refine W_itemL r1 (by omega) r2 ?_
      repeat wtm_at "w"
      refine W_itemL xd2 (by omega) (List.getElem?_eq_getElem (by show 0 < rvs.length; omega)) ?_
      show W _ (subscriptTail _ _ _ rvs[0]) _ _ _ _
      rw [ht0]
      refine W_itemL s1 (by omega) s2 ?_
      refine W_neRow r3 s3 r4 s4 ?_
      rw [q2]
      repeat wtm_at "w"
      (repeat wtm_at "lf")
      try rw [if_neg (by simp)]
      repeat wtm_at "w"
      (repeat wtm_at "lf")
      refine ⟨D, rvs, k, 1, _, rfl, xd2, rfl, by omega, by omega, fun l' => ?_⟩
      refine W_getL PySem.F.slot_list_count PySem.F.type_list_count (.head _) ?_
      repeat wtm_at "w"
      refine W_countI (.head _) (ints_drop 1 hrv) ?_
      intro _
      have ec : ((ofN ring).drop 1).count ((ring[j] : Nat) : Int) = 1 := by
        have h1 : ((ofN ring).drop 1) = ofN (ring.drop 1) := by simp [ofN]
        rw [h1]
        have h2 : ∀ (l : List Nat) (n : Nat), (ofN l).count (n : Int) = l.count n := by
          intro l n
          induction l with
          | nil => rfl
          | cons a l ih =>
            show (Int.ofNat a :: ofN l).count (n : Int) = _
            rw [List.count_cons, List.count_cons, ih]
            congr 1
            by_cases e : a = n
            · subst e; simp
            · have e2 : ¬ (Int.ofNat a = (n : Int)) := fun q => e (Int.ofNat.inj q)
              simp [e]; omega
        rw [h2]; exact q3
      rw [ec]
      repeat wtm_at "w"
      (repeat wtm_at "lf")
      try rw [if_neg (by simp)]
      repeat wtm_at "w"
      (repeat wtm_at "lf")
      exact ⟨_, List.sublist_cons_self .., ⟨_, rfl⟩, rfl, rfl⟩
    · intro vv D2 k2 ys n₁ hj91
      try wtm_at "q"
      obtain ⟨rfl, rfl⟩ := hj91
      refine W_notL (.head _) (by simp) ?_
      repeat wtm_at "w"
      (repeat wtm_at "lf")
      exact ⟨_, (List.Sublist.refl news).cons _ |>.cons _ |>.cons _, by simpa using h⟩

noncomputable abbrev lamB (p1 p2 p3 p4 p5 : Pos) : Expr := .Call (.Name "sum" p1) [.Subscript (.Name "powers" p2) (.Name "node" p3) p4] [] p5
theorem gbSum (P : Params) : nsIn (hd.heap_39 P) mainGlobals (Str.ofString "sum") = some none ∧ bootBuiltins (Str.ofString "sum") = some (.builtin "sum") ∧ Str.ofString "sum" ≠ "__name__" := gb4 P
/- the key's lambda: the sum of a row of powers -/
theorem lam_turn {A : Around} {w : World} {s : Shared} {f c' cp pl rb : Addr} {qual : Str} {params : Arguments} {scope : Scope} {cl : List (Str × Addr)} {pm ctv : Value} {p1 p2 p3 p4 p5 : Pos} {n : Int} {t : Tok} {refs tv : List Value} {ns : List Int} {Q E : Value → Shared → Prop}
    (hroom : A.depth < recursionLimit) (hh : A.handled = none) (X : (hd.heap_39 w.params).In s.heap) (T : Ex4 fun loose mg mb mean => Top topProg loose mean mg mb s.heap)
    (ho : s.heap.get? f = some (kla_obj "<lambda>" qual params (lamB p1 p2 p3 p4 p5) scope cl pm c' ctv)) (hcd : s.heap.CodeRec (.ref c') qual)
    (hbind : bindArgs (kla_fn "<lambda>" qual params (lamB p1 p2 p3 p4 p5) scope cl pm (.ref c') ctv) ⟨[.int n t], []⟩ = pure [(Str.ofString "node", Value.int n t)])
    (hk : scope.kind = .function) (hcell : ∀ x ∈ scope.names, x.2 ≠ .cell) (hco : scope.isCoroutine = false) (hgen : scope.isGenerator = false)
    (k1 : scope.names.lookup (Str.ofString "node") = some .local) (k2 : scope.names.lookup (Str.ofString "powers") = some .free) (k3 : scope.names.lookup (Str.ofString "sum") = some .globalImplicit)
    (hcl : cl.lookup (Str.ofString "powers") = some cp) (hcp : s.heap.IsCell cp (some (.ref pl))) (hpl : s.heap.IsList pl refs.toArray) (h0 : 0 ≤ n) (hz : n < 1000) (hi : refs[n.toNat]? = some (.ref rb)) (hrb : s.heap.get? rb = some (tupO tv 0)) (htv : IntsAre tv ns)
    (h : ∀ h' tk t', (∀ b o, s.heap.get? b = some o → h'.get? b = some o) → Q (.int ns.sum t') { s with heap := h', toks := tk }) : wpAny (model PG w) A (call (.ref f) [.int n t]) Q E s := by
  obtain ⟨loose, mg, mb, mean, T⟩ := T
  refine wpAny_call (kla_callFunE (fd := kla_fn "<lambda>" qual params (lamB p1 p2 p3 p4 p5) scope cl pm (.ref c') ctv) hroom ho rfl hco hgen rfl hcd ?_)
  rw [hbind]
  refine wpAny_pure (wpAny_newFunctionEnv hcell (by intro y hy; obtain rfl := List.mem_singleton.mp hy; exact k1) (fun h₁ hns hsb => ⟨T.nolimit.fresh _ hsb, ?_⟩) hk)
  have hk₁ : ∀ b o, s.heap.get? b = some o → h₁.get? b = some o := fun b o e => hsb.extBut b o (Nat.ne_of_lt (Heap.lt_size e)) (Heap.get?_push_of_some _ e)
  show codeAny _ _ (.expr (lamB p1 p2 p3 p4 p5) (envX qual scope s.heap.objs.size f (.ref c') cl)) _ _
  refine kla_codeExpr ?_
  have T' := topRead_of T
  refine Call_ (Name_function_global (env := envX qual scope s.heap.objs.size f (.ref c') cl) hk k3 (loadGlobal_builtin (T'.g.keeps hk₁) (mg_none_of X T'.g (gbSum w.params).1) (T'.b.keeps hk₁) ((T'.builtins _ (gbSum w.params).2.2).trans (gbSum w.params).2.1) ?_) (by decide)) rfl
  refine callWith_method1 (spliced_more (Subscript_ (wpAny_Name (wpAny_loadName_free hk k2 hcl (hcp.keeps hk₁) ?_ (by decide)) (by decide))) rfl) rfl rfl
  refine wpAny_Name (wpAny_loadName_local hk k1 hns (v := .int n t) (by simp) ?_) (by decide)
  refine item_listL (hpl.at fun o e => hk₁ _ _ e) h0 (by omega) hi ?_ rfl (by intro _; rfl)
  refine spliced_none ?_
  have ht : h₁.IsTuple rb tv.toArray := ⟨_, hk₁ _ _ hrb, rfl, 0, rfl⟩
  obtain ⟨xs, hx⟩ := htv.allInts.items
  have hn : numsOf tv.toArray.toList = ns := by rw [show tv.toArray.toList = tv from rfl, htv.numsOf]
  rw [hx] at ht hn
  rw [nums_intItems] at hn
  refine ktm_sumG hh ht fun h' tk t' hk2 => ?_
  have := h h' tk t' fun b o e => hk2 b o (hk₁ b o e)
  rw [preSum_eq, List.take_of_length_le (by simp), hn]
  exact this
/- sorted(xs, key=lambda node: sum(powers[node])) -/
theorem W_sortedLam {d : Dy} {m : Loc} {news : Led} {E : Value → Shared → Prop} {l f c' cp pl : Addr} {vs : List Value} {k : Nat} {qual : Str} {params : Arguments} {scope : Scope} {cl : List (Str × Addr)} {pm ctv : Value} {p1 p2 p3 p4 p5 : Pos} {oc ocp : Obj} {ws : Array Value} {tq : Tok} {refs : List Value} {kr : Nat} {nodes : List Nat} {g : Nat → List Nat} {Q : Value → Loc → Led → Prop}
    (hh : d.A.handled = none) (hl : (l, listO vs k) ∈ news) (hi : IntsAre vs (ofN nodes)) (h64 : nodes.length < 64) (hz : ∀ n ∈ nodes, n < 1000)
    (ho : (f, kla_obj "<lambda>" qual params (lamB p1 p2 p3 p4 p5) scope cl pm c' ctv) ∈ news) (hc : (c', oc) ∈ news) (hoc : oc.data = .fields ws) (hws : ws[1]? = some (.str qual tq))
    (hbind : ∀ n t, bindArgs (kla_fn "<lambda>" qual params (lamB p1 p2 p3 p4 p5) scope cl pm (.ref c') ctv) ⟨[.int n t], []⟩ = pure [(Str.ofString "node", Value.int n t)])
    (hk : scope.kind = .function) (hcell : ∀ x ∈ scope.names, x.2 ≠ .cell) (hco : scope.isCoroutine = false) (hgen : scope.isGenerator = false)
    (k1 : scope.names.lookup (Str.ofString "node") = some .local) (k2 : scope.names.lookup (Str.ofString "powers") = some .free) (k3 : scope.names.lookup (Str.ofString "sum") = some .globalImplicit)
    (hcl : cl.lookup (Str.ofString "powers") = some cp) (hcp : (cp, ocp) ∈ news) (hocp : ocp.data = .cell (some (.ref pl))) (hpl : (pl, listO refs kr) ∈ news)
    (hrow : ∀ n ∈ nodes, Ex2 fun rb tv => And3 (refs[n]? = some (.ref rb)) ((rb, tupO tv 0) ∈ news) (IntsAre tv (ofN (g n))))
    (h : ∀ D vs' ns' c, IntsAre vs' (ofN ns') → ns'.Perm nodes → ns'.Pairwise (fun x y => (g x).sum ≤ (g y).sum) → Q (.ref D) m ((D, listO vs' c) :: news)) :
    W d (call (.builtin "sorted") [.ref l] [(Str.ofString "key", .ref f)]) m news Q E := .mk fun s hs => by
  obtain ⟨fs, hf, N, nd⟩ := hs.N
  have mm : ∀ {p}, p ∈ news → p ∈ news ++ fs := fun hp => List.mem_append_left _ hp
  have hr := d.hroom
  refine ksk_letter (b := false) (ns := ofN nodes) (g := fun n => (ofN (g n.toNat)).sum) hs.F N (listO_isList (hs.mem hl)) hi (by simpa using h64) (ksk_s1 _ _) (fun x => ksk_l1 _ _) (fun x => ksk_t1 _ _) (fun n t h' tk own hn F' N' => ?_) fun D vs' ns' c h' tk F' N' l1 hv hlen hp hs2 _ => ?_
  · obtain ⟨n, hnm, rfl⟩ := List.mem_map.mp hn
    obtain ⟨rb, tv, r1, r2, r3⟩ := hrow n hnm
    have N2 : ∀ {p}, p ∈ news → h'.get? p.1 = some p.2 := fun hp => (N' _ (List.mem_append_left _ (mm hp))).1
    obtain ⟨loose, mg, mb, mean, T⟩ := d.T
    have hn3 := hz n hnm
    refine lam_turn (s := { s with heap := h', toks := tk }) (by show d.A.depth < _; omega) hh (d.K.keeps F'.keep) ⟨_, _, _, _, T.keeps F'.keep⟩ (N2 ho) ⟨c', oc, ws, tq, rfl, N2 hc, hoc, hws⟩ (hbind _ _) hk hcell hco hgen k1 k2 k3 hcl ⟨ocp, N2 hcp, hocp⟩ (listO_isList (N2 hpl)) (by show (0:Int) ≤ (n : Int); omega) (by show (n : Int) < 1000; omega) r1 (N2 r2) r3 fun h2 tk2 t2 hk2 => ?_
    exact KskEnd.intro (F'.kept hk2) (N'.grown hk2) fun p hp => hp
  · obtain ⟨ns2, rfl⟩ : ∃ ns2 : List Nat, ns' = ofN ns2 := by
      refine ⟨ns'.map Int.toNat, ?_⟩
      show ns' = (ns'.map Int.toNat).map Int.ofNat
      rw [List.map_map]
      refine (List.map_id ns').symm.trans (List.map_congr_left fun x hx => ?_)
      obtain ⟨y, _, rfl⟩ := List.mem_map.mp (hp.mem_iff.mp hx)
      rfl
    refine ⟨m, _, hs.heap (n' := (D, listO vs' c) :: news) hf tk F' N' ?_, h D vs' ns2 c hv ?_ ?_⟩
    · rw [List.cons_append, List.map_cons]
      refine List.nodup_cons.mpr ⟨fun hm => ?_, nd⟩
      obtain ⟨q, hq, e⟩ := List.mem_map.mp hm
      have := l1 q hq
      rw [e] at this
      exact Nat.lt_irrefl _ this
    · have := hp.map Int.toNat
      have e : ∀ l : List Nat, (ofN l).map Int.toNat = l := fun l => by show (l.map Int.ofNat).map Int.toNat = l; rw [List.map_map]; exact (List.map_congr_left fun x _ => rfl).trans (List.map_id l)
      rwa [e, e] at this
    · have es : ∀ l : List Nat, (ofN l).sum = ((l.sum : Nat) : Int) := fun l => by
        induction l with
        | nil => rfl
        | cons x l ih => show Int.ofNat x + (ofN l).sum = _; rw [ih]; simp
      have := List.pairwise_map.mp hs2
      refine this.imp fun {x y} hxy => ?_
      have hxy2 : (ofN (g x)).sum ≤ (ofN (g y)).sum := hxy
      rw [es, es] at hxy2
      exact Int.ofNat_le.mp hxy2

local macro_rules | `(tactic| wtm_at "perm") => `(tactic| (refine perm_by fun f => ?_; simp only [List.map_append, List.map_cons, List.map_nil, List.sum_append, List.sum_cons, List.sum_nil]; omega))
section
variable {d : Dy} {m : Loc} {news : Led} {E : Value → Shared → Prop} {env : Env} {pos : Pos} {s : Shared} {x : Str} {v : Value} {LN GN : List Str} {CN : List (Str × Addr)} {vs vs' : List (Option Value)}
noncomputable abbrev cellO : Obj := { cls := .type "cell", data := .cell none }
/- a comprehension's turns, its target a cell of its own -/
theorem comp_loopC {elt iter : Expr} {px : Pos} {scope : Scope} {n : Nat} (hn : n < 1000000) (hh : d.A.handled = none)
    {cenv : Env} {Ca it D cx : Addr} {GN' : List Str} {CN' : List (Str × Addr)} (hcE : Ev cenv Ca [] GN' CN') (hcx : (x, cx) ∈ CN') (hkx : cenv.kindOf x = some .cell) {R : Result → Shared → Prop}
    (J : Nat → List Value → Led → Prop)
    (turn : ∀ k i t ys n₁ oc, i < n → J i ys n₁ → oc.data = .cell (some (.int i t)) → W (((d.comp Ca m).hide it (rangeIt (i + 1) n)).hide D (· = listO ys k)) (eval elt cenv) (Lv [] []) ((cx, oc) :: n₁)
      (fun y m₄ n₄ => m₄ = Lv [] [] ∧ Ex4 fun n5 xt oc' v' => And3 (oc'.data = .cell v') (n₄.Perm (((cx, oc') :: n5) ++ xt)) (J (i + 1) (ys ++ [y]) n5)) (fun _ _ => False))
    (done : ∀ s' k ys n₁ oc, J n ys n₁ → St (d.comp Ca m) s' (Lv [] []) ((D, listO ys k) :: (cx, oc) :: n₁) → R (.ok .next) s')
    {o₀ oc₀ : Obj} {vc₀ : Option Value} {n₀ : Led} {k₀ : Nat} (hI : rangeIt 0 n o₀) (hJ : J 0 [] n₀) (hoc : oc₀.data = .cell vc₀) (hs : St (d.comp Ca m) s (Lv [] []) ((it, o₀) :: (D, listO [] k₀) :: (cx, oc₀) :: n₀)) :
    codeAny (model PG d.w) d.A (.compLoop (.ListComp elt [⟨.Name x px, iter, [], 0⟩] scope pos) 0 (.ref it) (.ref D) cenv) R s := by
  have sL : (1000000 : Nat) ≤ sizeLine := Nat.le_of_ble_eq_true rfl
  have It := iter_range (w := d.w) (r := 0) (t := 0) (u := 0) (v := 0) hn
  obtain ⟨P9, p9⟩ : ∃ P9 : Nat → Shared → Prop, ∀ kk s', P9 kk s' ↔ Ex7 fun i ys k o n₁ oc vc => And7 (kk = n - i) (i ≤ n) (ys.length ≤ i) (rangeIt i n o) (oc.data = .cell vc) (J i ys n₁) (St (d.comp Ca m) s' (Lv [] []) ((it, o) :: (D, listO ys k) :: (cx, oc) :: n₁)) := ⟨_, fun _ _ => Iff.rfl⟩
  refine codeAny_compLoop_tests P9 ?_ n ((p9 _ _).mpr ⟨0, [], k₀, o₀, n₀, oc₀, vc₀, by simp, Nat.zero_le _, Nat.le_refl _, hI, hoc, hJ, hs⟩)
  intro kk s' hP
  obtain ⟨i, ys, k, o, n₁, oc, vc, rfl, hi, hlen, hIo, hoc1, hJi, hs1⟩ := (p9 _ _).mp hP
  have hsw : ∀ {s' : Shared} {mm : Loc} {p q : Addr × Obj} {r : Led}, St (d.comp Ca m) s' mm (p :: q :: r) → St (d.comp Ca m) s' mm (q :: p :: r) := fun h => h.perm (List.Perm.swap ..)
  have hhD : St ((d.comp Ca m).hide D (· = listO ys k)) s' (Lv [] []) ((it, o) :: (cx, oc) :: n₁) := St.hide (hsw hs1) rfl
  by_cases hlt : i < n
  · refine (It.src ((d.comp Ca m).hide D (· = listO ys k)) it rfl hh).item i _ _ o s' hlt hIo trivial hhD fun v o' h' tk hv hI' hs2 => ?_
    obtain ⟨t, rfl⟩ := hv
    obtain ⟨oD, rfl, hs3⟩ := hs2.show'
    have hs4 : St (((d.comp Ca m).hide it (rangeIt (i + 1) n)).hide D (· = listO ys k)) { s' with heap := h', toks := tk } (Lv [] []) ((cx, oc) :: n₁) := St.hide (St.hide (hsw hs3) hI') rfl
    have st : W (((d.comp Ca m).hide it (rangeIt (i + 1) n)).hide D (· = listO ys k)) (storeName cenv x (.int i t)) (Lv [] []) ((cx, oc) :: n₁) (fun _ m' n' => m' = Lv [] [] ∧ ∃ oc', oc'.data = .cell (some (.int i t)) ∧ n' = (cx, oc') :: n₁) (fun _ _ => False) :=
      W_storeC hcE hcx hkx .here hoc1 fun o' ho' => ⟨rfl, o', ho', rfl⟩
    show wpAny _ _ (standAt px >>= fun _ => bindName cenv x (.int i t)) _ _ _
    refine wpAny_bind (wpAny_standAt (wpAny_bindName (wpAny_mono (st.go _ hs4) (fun _ s5 h5 => ?_) fun _ _ q => q.elim)))
    obtain ⟨m5, n5, hs5, rfl, oc5, ho5, rfl⟩ := h5
    have tst : W (((d.comp Ca m).hide it (rangeIt (i + 1) n)).hide D (· = listO ys k)) (testsOf [] cenv) (Lv [] []) ((cx, oc5) :: n₁) (fun ok m₃ n₃ => ok = true ∧ m₃ = Lv [] [] ∧ n₃ = (cx, oc5) :: n₁) (fun _ _ => False) := W_tests0 ⟨rfl, rfl, rfl⟩
    refine wpAny_mono (tst.go s5 hs5) (fun ok s6 h6 => ?_) fun _ _ q => q.elim
    obtain ⟨m6, n6, hs6, rfl, rfl, rfl⟩ := h6
    refine wpAny_mono ((turn k i t ys n₁ oc5 hlt hJi ho5).go s6 hs6) (fun y s7 h7 => ?_) fun _ _ q => q.elim
    obtain ⟨m7, n7, hs7, rfl, n8, xt, oc8, v8, ho8, hp8, hJ8⟩ := h7
    have hs7' := (hs7.perm hp8.symm).sub (List.sublist_append_left ((cx, oc8) :: n8) xt)
    obtain ⟨oD, rfl, hs8⟩ := hs7'.show'
    have ap : W ((d.comp Ca m).hide it (rangeIt (i + 1) n)) (call (.builtin "list.append") [.ref D, y]) (Lv [] []) ((D, listO ys k) :: (cx, oc8) :: n8) (fun _ m' n' => m' = Lv [] [] ∧ n' = (D, listO (ys ++ [y]) (k + 1)) :: (cx, oc8) :: n8) (fun _ _ => False) :=
      W_append .here (by omega) ⟨rfl, rfl⟩
    refine wpAny_mono (ap.go s7 hs8) (fun _ s9 h9 => ?_) fun _ _ q => q.elim
    obtain ⟨m9, n9, hs9, rfl, rfl⟩ := h9
    obtain ⟨oI, hI9, hs10⟩ := hs9.show'
    exact ⟨n - (i + 1), by omega, (p9 _ _).mpr ⟨i + 1, ys ++ [y], k + 1, oI, n8, oc8, v8, rfl, hlt, by simp; omega, hI9, ho8, hJ8, hs10⟩⟩
  · obtain rfl : i = n := by omega
    refine (It.src ((d.comp Ca m).hide D (· = listO ys k)) it rfl hh).stop _ _ o s' hIo trivial hhD fun h' tk hs2 => ?_
    obtain ⟨oD, rfl, hs3⟩ := hs2.show'
    exact done _ k ys n₁ oc hJi hs3

theorem Ev.compC {scope : Scope} {GN' : List Str} {CN' : List (Str × Addr)} {L : Addr} (hE : Ev env L LN GN CN) (ok : CompOk scope [] GN' (CN'.map (·.1))) (hsub : ∀ p ∈ CN', p ∈ CN) (hx : scope.names.lookup x = some .cell) (hx1 : (x == ("__debug__" : Str)) = false) (hx2 : (x == ("__classdict__" : Str)) = false) (C cx : Addr) :
    Ev (compEnvC scope ((x, cx) :: cloE env.cells scope.names []) C env) C [] GN' ((x, cx) :: CN') ∧ (compEnvC scope ((x, cx) :: cloE env.cells scope.names []) C env).kindOf x = some .cell := by
  have E0 := hE.comp ok hsub C
  have kx : (compEnvC scope ((x, cx) :: cloE env.cells scope.names []) C env).kindOf x = some .cell := lookup_relabel (env := env) hx
  refine ⟨⟨ok.fn, rfl, hE.hG, hE.hB, ok.nd, fun y hy => (nomatch hy), fun y hy => E0.glo y hy, fun y c hc => ?_⟩, kx⟩
  rcases List.mem_cons.mp hc with e | hc
  · cases e
    exact ⟨.inl kx, by show List.lookup x ((x, cx) :: _) = _; simp, hx1, hx2⟩
  · obtain ⟨q1, q2, q3, q4⟩ := E0.cel y c hc
    have ne : y ≠ x := fun e => by
      have h1 := (ok.cel y (List.mem_map.mpr ⟨_, hc, rfl⟩)).1
      rw [e, hx] at h1; cases h1
    refine ⟨q1, ?_, q3, q4⟩
    show List.lookup y ((x, cx) :: cloE env.cells scope.names []) = some c
    have eb : (y == x) = false := by simpa using ne
    rw [List.lookup_cons, eb]
    exact q2

/- y = [elt for x in range(..)], x a cell, onto a local: the stores are exchanged -/
theorem W_AsgCompC {elt iter : Expr} {px py spos : Pos} {scope : Scope} {y : Str} {Q : Flow → Loc → Led → Prop} (hE : Ev env d.L LN GN CN) (hh : d.A.handled = none) (GN' : List Str) (CN' : List (Str × Addr)) (ok : CompOk scope [] GN' (CN'.map (·.1))) (hsub : ∀ p ∈ CN', p ∈ CN)
    (hx : scope.names.lookup x = some .cell) (hx1 : (x == ("__debug__" : Str)) = false) (hx2 : (x == ("__classdict__" : Str)) = false)
    (hcf : ∀ n acc, cellsFrom n scope.names acc = (x, n) :: acc) (hpc : ∀ h : Heap, pushCells h scope.names = h.push cellO) (n : Nat) (J : Nat → List Value → Led → Prop) (hn : n < 1000000)
    (hsw : swapsWith (.ListComp elt [⟨.Name x px, iter, [], 0⟩] scope pos) (some (.Name y py)) spos.line env = pure true)
    (h : W d (eval iter env) m news (fun v m1 n1 => And3 (m1 = m) (Ex4 fun r t u w => v = .ref r ∧ (r, rangeO n t u w) ∈ n1) (∃ n2, n2.Sublist n1 ∧ J 0 [] n2)) E)
    (turn : ∀ Ca cx it D k i t ys n₁ oc, i < n → J i ys n₁ → oc.data = .cell (some (.int i t)) → Ev (compEnvC scope ((x, cx) :: cloE env.cells scope.names []) Ca env) Ca [] GN' ((x, cx) :: CN') → W (((d.comp Ca m).hide it (rangeIt (i + 1) n)).hide D (· = listO ys k)) (eval elt (compEnvC scope ((x, cx) :: cloE env.cells scope.names []) Ca env)) (Lv [] []) ((cx, oc) :: n₁)
      (fun y m₄ n₄ => m₄ = Lv [] [] ∧ Ex4 fun n5 xt oc' v' => And3 (oc'.data = .cell v') (n₄.Perm (((cx, oc') :: n5) ++ xt)) (J (i + 1) (ys ++ [y]) n5)) (fun _ _ => False))
    (done : ∀ Ca D k ys n₁, J n ys n₁ → W (d.hide Ca IsNs) (storeName env y (.ref D)) m ((D, listO ys k) :: n₁) (fun _ m2 n2 => Q .next m2 n2) E) (hfs : ∀ x, foldedSetIterable iter env x = pure x := by intro _; rfl) :
    W d (exec (.Assign [.Name y py] (.ListComp elt [⟨.Name x px, iter, [], 0⟩] scope pos) spos) env) m news Q E := .mk fun s hs => by
  rw [exec_Assign_Name_used _ _ _ _ hsw]
  refine wpAny_bind (wpAny_standAt (wpAny_bind ?_))
  show wpAny _ d.A (do let _ ← comprehension (.ListComp elt [⟨.Name x px, iter, [], 0⟩] scope pos) scope env _ (newList []) false (eval iter env) (some (assign (.Name y py) env))) _ _ s
  refine wpAny_bind (wpAny_mono (wpAny_comprehension_free (use := some (assign (.Name y py) env)) (Q := fun _ s' => Ex2 fun m' n' => St d s' m' n' ∧ Q .next m' n') rfl hfs (hE.clos ok hsub) ok.fn ok.nms
    (h.run hs fun v s1 m1 n1 hs1 h1 => ?_)) (fun _ s' hq => wpAny_pure (wpAny_pure hq)) fun _ _ e => e)
  obtain ⟨rfl, ⟨r, t, u, w, rfl, hm⟩, n2, hsub2, hJ⟩ := h1
  refine (iter_range hn).start d s1 m1 n1 rfl hh hs1 hm fun it o h' tk hI hs2 => ?_
  have hs2' := hs2.sub (hsub2.cons_cons (it, o))
  generalize hS0 : ({ s1 with heap := h', toks := tk } : Shared) = S0 at hs2' ⊢
  have h1 := hs2'.push (listO [] 0)
  refine wpAny_newObj_type ?_
  show wpAny _ _ _ _ _ { S0 with heap := S0.heap.push (listO [] 0) }
  generalize hS : ({ S0 with heap := S0.heap.push (listO [] 0) } : Shared) = S at h1 ⊢
  simp only [newFunctionEnv, Option.isSome_some, if_true]
  refine wpAny_bind (wpAny_alloc ?_)
  refine wpAny_bind (wpAny_layCells _ (fun name kind cells => by cases hkc : kind == NameKind.cell <;> simp [hkc]) _ _ _ _ ?_)
  rw [hcf, hpc]
  refine wpAny_bind ?_
  rw [List.forIn_nil]
  refine wpAny_pure (wpAny_pure ?_)
  have hns : (S.heap.push { cls := .type "dict", data := .dict #[] }).Ns S.heap.objs.size (Lv [] []) := Heap.Ns.new S.heap (.type "dict")
  have h2 := St.enterC (tk := S.toks) h1 rfl hns (fun b o e => Heap.get?_push_of_some _ e)
  have h3 := h2.push cellO
  have h4 := h3.perm (n' := (it, o) :: (S0.heap.objs.size, listO [] 0) :: ((S.heap.push { cls := .type "dict", data := .dict #[] }).objs.size, cellO) :: n2) (by wtm_at "perm")
  obtain ⟨hEv, hkx⟩ := hE.compC ok hsub hx hx1 hx2 S.heap.objs.size (S.heap.push { cls := .type "dict", data := .dict #[] }).objs.size
  have loop := fun (s' : Shared) (hs' : St (d.comp S.heap.objs.size m1) s' (Lv [] []) ((it, o) :: (S0.heap.objs.size, listO [] 0) :: ((S.heap.push { cls := .type "dict", data := .dict #[] }).objs.size, cellO) :: n2)) =>
    comp_loopC (pos := pos) (iter := iter) (px := px) (scope := scope) (R := compPost (model PG d.w) d.A E (some (assign (.Name y py) env)) (fun _ s' => Ex2 fun m' n' => St d s' m' n' ∧ Q .next m' n') (.ref S0.heap.objs.size) S.heap.objs.size) hn hh hEv (.head _) hkx J
      (fun k i t ys n₁ oc a b c => turn _ _ _ _ k i t ys n₁ oc a b c hEv)
      (fun s' k ys n₁ oc hj hs' => by
        obtain ⟨oC, hn', hs2⟩ := hs'.leaveC hs2'.F.above
        have hs3 := hs2.sub (n' := (S.heap.objs.size, oC) :: (S0.heap.objs.size, listO ys k) :: n₁) (((List.Sublist.refl n₁).cons _).cons_cons _ |>.cons_cons _)
        show wpAny _ d.A (assign (.Name y py) env (.ref S0.heap.objs.size)) _ _ _
        refine wpAny_mono ((W_asgName (px := py) (done S.heap.objs.size S0.heap.objs.size k ys n₁ hj)).go s' (hs3.hide hn')) (fun _ s4 h4 => ?_) fun _ _ q => q
        obtain ⟨m4, n4, hs4, hq⟩ := h4
        obtain ⟨oC', hn'', hs5⟩ := hs4.show'
        obtain ⟨mc, hns'⟩ := hn''.at (hs5.mem (.head _))
        exact ⟨mc, hns', fun h'' hsb => ⟨_, _, hs5.extBut s4.toks hsb.extBut, hq⟩⟩) hI hJ (vc₀ := none) rfl hs'
  exact codeAny_compStart_list (loop _ h4) ((iter_range (r := r) (t := t) (u := u) (v := w) hn).self (d.comp S.heap.objs.size m1) it o _ _ _ rfl hh hI h4 (loop _ h4))
end

section
variable {d : Dy} {m : Loc} {news : Led} {E : Value → Shared → Prop} {env : Env} {pos : Pos} {s : Shared} {x : Str} {v : Value} {LN GN : List Str} {CN : List (Str × Addr)} {vs vs' : List (Option Value)}
/- [elt for x in iter ..], its source told behind its evaluation -/
theorem W_ListCompK {elt iter : Expr} {px : Pos} {ifs : List Expr} {scope : Scope} {Q : Value → Loc → Led → Prop} (hE : Ev env d.L LN GN CN) (hh : d.A.handled = none) (GN' : List Str) (CN' : List (Str × Addr)) (ok : CompOk scope [x] GN' (CN'.map (·.1))) (hsub : ∀ p ∈ CN', p ∈ CN)
    (hcell : ∀ y ∈ scope.names, y.2 ≠ .cell) {n : Nat} {I : Value → Addr → Nat → Obj → Prop} {V : Nat → Value → Prop} {C₀ C : Value → Led → Prop} (J : Value → Nat → List Value → Led → Prop) (hsz : n ≤ sizeLine)
    (h : W d (eval iter env) m news (fun v m1 n1 => m1 = m ∧ Iter d.w v n (I v) V (C₀ v) (C v) ∧ C₀ v n1 ∧ J v 0 [] n1) E) (hC : ∀ v i ys n₁, J v i ys n₁ → C v n₁)
    (turn : ∀ vv Ca it D k i v ys n₁, i < n → V i v → J vv i ys n₁ → Ev (compEnvC scope (cloE env.cells scope.names []) Ca env) Ca [x] GN' CN' → W (((d.comp Ca m).hide it (I vv it (i + 1))).hide D (· = listO ys k)) (testsOf ifs (compEnvC scope (cloE env.cells scope.names []) Ca env)) (Lv [x] [some v]) n₁ (fun ok m₃ n₃ =>
      if ok = true then W (((d.comp Ca m).hide it (I vv it (i + 1))).hide D (· = listO ys k)) (eval elt (compEnvC scope (cloE env.cells scope.names []) Ca env)) m₃ n₃ (fun y m₄ n₄ => (∃ o, m₄ = Lv [x] [o]) ∧ J vv (i + 1) (ys ++ [y]) n₄) (fun _ _ => False)
      else (∃ o, m₃ = Lv [x] [o]) ∧ J vv (i + 1) ys n₃) (fun _ _ => False))
    (done : ∀ vv D k ys n₁, J vv n ys n₁ → Q (.ref D) m ((D, listO ys k) :: n₁)) (hfs : ∀ x, foldedSetIterable iter env x = pure x := by intro _; rfl) :
    W d (eval (.ListComp elt [⟨.Name x px, iter, ifs, 0⟩] scope pos) env) m news Q E := .mk fun s hs => by
  rw [eval_ListComp]
  refine wpAny_comprehension_free (use := none) rfl hfs (hE.clos ok hsub) ok.fn ok.nms (h.run hs fun v s1 m1 n1 hs1 h1 => ?_)
  obtain ⟨rfl, It, hC0, hJ⟩ := h1
  refine It.start d s1 m1 n1 rfl hh hs1 hC0 fun it o h' tk hI hs2 => ?_
  refine comp_block (RR := fun acc Ca => compPost (model PG d.w) d.A E none (fun a s' => Ex2 fun m' n' => St d s' m' n' ∧ Q a m' n') acc Ca) It hh hsz (hE.comp ok hsub) hcell (J v) (hC v) (turn v) (fun s' Ca D k ys n₁ oC hj hn hs3 => ?_) hI hJ hs2
  obtain ⟨mc, hns⟩ := hn.at (hs3.mem (.head _))
  refine ⟨mc, hns, fun h'' hsb => ⟨_, _, ?_, done v D k ys n₁ hj⟩⟩
  exact hs3.extBut s'.toks hsb.extBut
theorem W_eqNI {i : Int} {t : Tok} {Q : Value → Loc → Led → Prop} (h : Q (.bool false) m news) : W d (compareOp .Eq .none (.int i t)) m news Q E := .mk fun s hs =>
  cmp_ofEq (SeqAt.RcAt.none_int i t _ _ _ _ ⟨_, _, hs, h⟩)
theorem W_modA {n : Nat} {t u : Tok} {Q : Value → Loc → Led → Prop} (hn : n < 4) (h : ∀ t', Q (.str (wordA n) t') m news) : W d (binaryOp .Mod (.str (Str.ofString "node %d was already marked done") t) (.int n u)) m news Q E := .mk fun s hs => by
  refine KPc.mod_int (by kpc_eq) (by omega) (by omega) (by kpc_run) ?_
  intro t' k
  refine ⟨_, _, hs.toks k, ?_⟩
  have e : wordA n = Str.ofString "node " ++ Str.ofString (toString (n : Int)) ++ Str.ofString " was already marked done" := by show Str.empty ++ _ ++ _ ++ _ = _; rw [KPc.empty_app]
  rw [← e]; exact h t'
theorem W_modB {n : Nat} {t u : Tok} {Q : Value → Loc → Led → Prop} (hn : n < 4) (h : ∀ t', Q (.str (wordB n) t') m news) : W d (binaryOp .Mod (.str (Str.ofString "node %d was not passed out (still not ready)") t) (.int n u)) m news Q E := .mk fun s hs => by
  refine KPc.mod_int (by kpc_eq) (by omega) (by omega) (by kpc_run) ?_
  intro t' k
  refine ⟨_, _, hs.toks k, ?_⟩
  have e : wordB n = Str.ofString "node " ++ Str.ofString (toString (n : Int)) ++ Str.ofString " was not passed out (still not ready)" := by show Str.empty ++ _ ++ _ ++ _ = _; rw [KPc.empty_app]
  rw [← e]; exact h t'
end
theorem valueAt_snoc {kvs : List (Int × Value)} {k j : Int} {v : Value} : valueAt (kvs ++ [(k, v)]) j = (valueAt kvs j).or (if j = k then some v else none) := by
  unfold valueAt
  rw [List.find?_append]
  cases hq : kvs.find? fun kv => kv.1 = j with
  | some p => simp
  | none =>
    by_cases e : j = k
    · subst e; simp
    · have e2 : ¬ k = j := fun q => e q.symm
      simp [e, e2]

section
variable {d : Dy} {m : Loc} {news : Led} {E : Value → Shared → Prop} {env : Env} {pos p : Pos} {s : Shared} {a b : Addr} {vs ws : List Value} {k k2 : Nat} {v : Value}
theorem W_lSet {Q : Unit → Loc → Led → Prop} {g : Obj → Led} {i : Nat} {t : Tok} (hs : Sel a (listO vs k) news g) (hi : i < vs.length) (hz : vs.length ≤ 1000000) (h : Q () m (g (listO (vs.set i v) k))) : W d (setItem (.ref a) (.int (i : Int) t) v) m news Q E := .mk fun s h' => by
  have ho : s.heap.get? a = some (listOf vs.toArray k) := h'.mem hs.mem
  refine ki_setAt ho (by omega) (by omega) (by simpa using hi) ⟨_, _, h'.update s.toks hs (Heap.SameBut.update ..) ?_, h⟩
  have q := PySem.IsL.update ho (·.setIfInBounds (i : Int).toNat v)
  have e : (vs.toArray.setIfInBounds (i : Int).toNat v) = (vs.set i v).toArray := by simp
  rw [show (if ((fun x : Array Value => x.setIfInBounds (i : Int).toNat v) vs.toArray).size == vs.toArray.size then k else k + 1) = k by simp] at q
  have q2 : (s.heap.update a (Obj.mapSeq (·.setIfInBounds (i : Int).toNat v))).get? a = some (listOf (vs.toArray.setIfInBounds (i : Int).toNat v) k) := q
  rw [e] at q2
  exact q2
/- list.index, tuples of whole numbers -/
theorem W_indexT {rs : List (List Int)} {ns : List Int} {j : Nat} {Q : Value → Loc → Led → Prop} (hm : (a, listO vs k) ∈ news) (hb : (b, tupO ws k2) ∈ news) (hv : RowsAre news vs rs) (hw : IntsAre ws ns) (hj : rs[j]? = some ns) (hno : ∀ i, i < j → rs[i]? ≠ some ns) (hz : rs.length < 1000000)
    (h : ∀ t', Q (.int (j : Nat) t') m news) : W d (call (.builtin "list.index") [.ref a, .ref b]) m news Q E := .mk fun s hs => by
  have hu := d.hroom.2
  have nd : (news.map (·.1)).Nodup := by
    obtain ⟨fs, _, _, nd⟩ := hs.N
    rw [List.map_append] at nd
    exact (List.nodup_append.mp nd).1
  obtain ⟨i1, i2⟩ := rows_count nd ns hv
  have hl := hv.length
  have hjl : j < rs.length := (List.getElem?_eq_some_iff.mp hj).1
  have hrow : ∀ {vs : List Value} {rs : List (List Int)}, RowsAre news vs rs → ∀ (i : Nat) (y : Value), vs[i]? = some y → ∃ r, rs[i]? = some r ∧ rowOf news y = r.map some := by
    intro vs rs h
    induction h with
    | nil => intro i y e; simp at e
    | @cons a tv vs k r rs h1 h2 _ ih =>
      intro i y e
      cases i with
      | zero =>
        obtain rfl := Option.some.inj e
        refine ⟨r, rfl, ?_⟩
        have hl : news.lookup a = some (tupO tv k) := led_lookup _ nd h1
        show (match news.lookup a with | some o => (match o.data with | .seq its _ => its.toList.map intOf | _ => []) | none => []) = _
        rw [hl]
        exact ints_map h2
      | succ i => exact ih i y (by simpa using e)
  refine call_meets PySem.F.slot_list_index ⟨_, hs.mem hm, rfl⟩ PySem.F.entry_list_index (PySem.F.args_list_index_2 _ _) (SeqAt.list_indexAt a vs.toArray k none #[] (.ref b) (fun y => decide (rowOf news y = ns.map some)) j (by simp; omega) (by omega) ?_ ?_) ⟨hs.mem hm, fun y hy => i2 y (by simpa using hy) hb hw _ s ?_ hs.look, ?_⟩
  · obtain ⟨r, e1, e2⟩ := hrow hv j (vs[j]'(by omega)) (List.getElem?_eq_getElem (by omega))
    rw [hj] at e1
    obtain rfl := Option.some.inj e1
    simpa using e2
  · intro i hi hij
    have hi2 : i < vs.length := by simpa using hi
    obtain ⟨r, e1, e2⟩ := hrow hv i (vs[i]) (List.getElem?_eq_getElem hi2)
    rw [decide_eq_false_iff_not]
    intro e3
    have e4 : rowOf news vs[i] = ns.map some := by simpa using e3
    rw [e2] at e4
    exact hno i hij (by rw [e1, map_some_inj e4])
  · show d.A.units + _ + 1 < cLine
    omega
  · exact ⟨_, _, hs.toks _, h _⟩
end

section
variable {d : Dy} {m : Loc} {news : Led} {E : Value → Shared → Prop} {env : Env} {pos p : Pos} {s : Shared} {a b : Addr} {vs ws : List Value} {k k2 : Nat} {v : Value}
/- entering a def, the base told -/
theorem W_defBase {f : Addr} {args : List Value} {ps LN GN : List Str} (all : List Str) {name qual : Str} {params : Arguments} {body : List Stmt} {scope : Scope} {dV kV doc pm cdv ct oc : Value} {an od : Option Addr} {osl : Array (Option Value)} {Q : Value → Loc → Led → Prop}
    (ho : (hd.heap_39 d.w.params).lookup f = some ⟨oc, od, .func (fnOf name qual params body scope dV kV doc pm an cdv ct), osl⟩) (hcd : codeIn (hd.heap_39 d.w.params) cdv qual = true) (hN : Nm scope all GN) (hall : ps ++ LN = all) (hroom : 0 < d.room)
    (hb : bindArgs (fnOf name qual params body scope dV kV doc pm an cdv ct) ⟨args, []⟩ = pure (ps.zip args)) (hl : args.length = ps.length)
    (h : ∀ d' : Dy, d'.room + 1 = d.room → d'.A.handled = d.A.handled → d'.base = d.base → Nm scope all GN →
      W d' (execs body (envX qual scope d'.L f cdv [])) (Lv all (args.map some ++ LN.map fun _ => none)) news (fun fl m' n' => ∃ n'', n''.Sublist n' ∧ Q (match fl with | .ret v => v | _ => .none) m n'') (fun _ _ => False))
    (hcell : ∀ x ∈ scope.names, x.2 ≠ .cell := by decide) (hco : scope.isCoroutine = false := by rfl) (hgen : scope.isGenerator = false := by rfl) : W d (call (.ref f) args) m news Q E := by
  subst hall
  have nd : ps.Nodup := (List.nodup_append.mp hN.nd).1
  have e : (fun y => (ps.zip args).reverse.lookup y) = Lv (ps ++ LN) (args.map some ++ LN.map fun _ => none) := funext fun y => entry_eq ps args LN hl.symm nd y
  refine W_callG ho hcd hroom hb (fun y hy => (hN.loc y.1 (List.mem_append_left _ (List.of_mem_zip (show (y.1, y.2) ∈ ps.zip args from hy)).1)).1) hcell hco hgen hN.fn fun L => ⟨fun _ _ => False, ?_, fun _ _ _ x => x.elim⟩
  rw [e]
  exact h (d.callee (envX qual scope L f cdv []) L m hroom hN.fn rfl) (by show d.room - 1 + 1 = d.room; omega) rfl rfl hN
theorem W_lenB {Q : Value → Loc → Led → Prop} (hb : d.base.IsList a vs.toArray) (hf : (vs.length : Int) < 2 ^ 62) (h : ∀ t', Q (.int vs.length t') m news) : W d (call (.builtin "len") [.ref a]) m news Q E :=
  .mk fun s hs => len_list (hb.at fun o e => hs.F.keep _ o e) (by simp; omega) ⟨_, _, hs.toks _, by simpa using h _⟩
theorem W_itemLB {i : Int} {u : Tok} {value slice : Expr} {Q : Value → Loc → Led → Prop} (hb : d.base.IsList a vs.toArray) (h0 : 0 ≤ i) (hx : vs[i.toNat]? = some v) (h : Q v m news) (hz : i < 2 ^ 63 := by omega)
    (hs : subscripted slice false (.ref a) (.int i u) = operate [.ref a, .int i u] (getItem (.ref a) (.int i u)) := by rfl) (hl : ∀ r, letTemporaryGo value (.ref a) r = pure () := by intro _; rfl) :
    W d (subscriptTail value slice (.ref a) (.int i u)) m news Q E := .mk fun s h' => item_listL (hb.at fun o e => h'.F.keep _ o e) h0 hz hx ⟨_, _, h', h⟩ hs hl
end

noncomputable def twF (pw : List (List Nat)) (nodes : List Nat) : List Nat := nodes.filter fun n => decide ((nodes.map fun o => pw.getD o []).count (pw.getD n []) > 1)
noncomputable def cleanF (pw : List (List Nat)) (nodes : List Nat) (n : Nat) : Bool := ((partsF pw nodes n ++ [n]).filter fun o => (twF pw nodes).any (· == o)).length == 0
noncomputable def grpF (R : Nat → Option Nat) (nodes : List Nat) (k : Nat) : List Nat := nodes.filter fun n => decide (R n = some k)
noncomputable def wordR (R : Nat → Option Nat) (n : Nat) : Str := if (R n).isSome then wordA n else wordB n
structure RightOk (below pw : List (List Nat)) (nodes : List Nat) (R : Nat → Option Nat) (rs : List PN) (res : Option (List Nat)) (st : RSt) : Prop where
  run : RunOk below nodes rs res st
  ring : ringGood pw (twF pw nodes) res = true
  hw : ∀ l ∈ pw, l.length = 3
  p4 : pw.length ≤ 100
  nd : nodes.Nodup
  nl : nodes.length < 60
  lt : ∀ n ∈ nodes, n < pw.length
  ord : ∀ n ∈ nodes, cleanF pw nodes n = true → ∀ o ∈ partsF pw nodes n, cleanF pw nodes o = true ∧ (pw.getD o []).sum < (pw.getD n []).sum
  rk : ∀ n ∈ nodes, cleanF pw nodes n = true → ∃ r, R n = some r ∧ (∀ o ∈ partsF pw nodes n, ∃ q, R o = some q ∧ q < r) ∧ (r = 0 ∨ ∃ o ∈ partsF pw nodes n, R o = some (r - 1))
  rn : ∀ n ∈ nodes, cleanF pw nodes n = false → R n = none
  gs : st.gs = ((List.range nodes.length).map (grpF R nodes)).filter fun g => g.length != 0
  wd : ∀ n ∈ nodes, wordF st.rs n = wordR R n
theorem count_ofN (l : List (List Nat)) (a : List Nat) : (l.map ofN).count (ofN a) = l.count a := by
  have inj : ∀ {a b : List Nat}, ofN a = ofN b → a = b := by
    intro a
    induction a with
    | nil => intro b h; cases b with | nil => rfl | cons y b => cases h
    | cons x a ih =>
      intro b h
      cases b with
      | nil => cases h
      | cons y b =>
        have h1 : Int.ofNat x :: ofN a = Int.ofNat y :: ofN b := h
        obtain ⟨e1, e2⟩ := List.cons.inj h1
        rw [Int.ofNat.inj e1, ih e2]
  induction l with
  | nil => rfl
  | cons x l ih =>
    rw [List.map_cons, List.count_cons, List.count_cons, ih]
    congr 1
    by_cases e : x = a
    · subst e; simp
    · have e2 : ¬ ofN x = ofN a := fun q => e (inj q)
      simp [e, e2]
theorem partsF_mem {pw : List (List Nat)} {nodes : List Nat} {n o : Nat} (h : o ∈ partsF pw nodes n) : o ∈ nodes := (List.mem_filter.mp h).1
/- lists of whole numbers, each at hand -/
inductive GR (n : Led) : List (List Nat) → List Value → Prop
  | nil : GR n [] []
  | snoc {gs : List (List Nat)} {vs lv : List Value} {g : List Nat} {l : Addr} {e : Nat} : GR n gs vs → (l, listO lv e) ∈ n → IntsAre lv (ofN g) → GR n (gs ++ [g]) (vs ++ [.ref l])
theorem GR.mono {n n' : Led} {gs : List (List Nat)} {vs : List Value} (h : GR n gs vs) (hs : ∀ p ∈ n, p ∈ n') : GR n' gs vs := by
  induction h with
  | nil => exact .nil
  | snoc _ h1 h2 ih => exact .snoc ih (hs _ h1) h2
theorem GR.len {n : Led} {gs : List (List Nat)} {vs : List Value} (h : GR n gs vs) : vs.length = gs.length := by
  induction h with
  | nil => rfl
  | snoc _ _ _ ih => simp [ih]
theorem GA.gr {gs : List (List Nat)} {vs : List Value} {X : Led} (h : GA gs vs X) {n : Led} (hs : ∀ p ∈ X, p ∈ n) : GR n gs vs := by
  induction h with
  | nil => exact .nil
  | snoc _ h2 ih => exact .snoc (ih fun p hp => hs p (.tail _ hp)) (hs _ (.head _)) h2
theorem GR.get {n : Led} {gs : List (List Nat)} {vs : List Value} (h : GR n gs vs) {j : Nat} {v : Value} (hv : vs[j]? = some v) : Ex4 fun g l lv e => And4 (gs[j]? = some g) (v = .ref l) ((l, listO lv e) ∈ n) (IntsAre lv (ofN g)) := by
  induction h with
  | nil => simp at hv
  | @snoc gs vs lv g l e h h1 h2 ih =>
    have hl := h.len
    rcases Nat.lt_or_ge j vs.length with q | q
    · rw [List.getElem?_append_left q] at hv
      obtain ⟨g', l', lv', e', a1, a2, a3, a4⟩ := ih hv
      exact ⟨g', l', lv', e', by rw [List.getElem?_append_left (by omega)]; exact a1, a2, a3, a4⟩
    · have hj : j = vs.length := by
        have := (List.getElem?_eq_some_iff.mp hv).1
        simp at this; omega
      subst hj
      simp at hv
      refine ⟨g, l, lv, e, ?_, hv.symm, h1, h2⟩
      rw [hl]; simp
theorem EqN.ints {news : Led} {a b : Addr} {vs ws : List Value} {k k2 : Nat} {ns : List Int} (ha : (a, listO vs k) ∈ news) (hb : (b, listO ws k2) ∈ news) (hv : IntsAre vs ns) (hw : IntsAre ws ns) : EqN 1 news (.ref a) (.ref b) true := by
  refine EqN.listT (n := 0) ha hb (by have := hv.length; have := hw.length; omega) fun j v w h1 h2 => ?_
  obtain ⟨i, t, e1, rfl⟩ := ints_nth hv h1
  obtain ⟨i', t', e2, rfl⟩ := ints_nth hw h2
  rw [e1] at e2
  obtain rfl := Option.some.inj e2
  have := EqN.int (news := news) (i := i) (j := i) (t := t) (u := t')
  simpa using this
theorem GR.eqs {news : Led} {gs : List (List Nat)} {vs ws : List Value} (h1 : GR news gs vs) (h2 : GR news gs ws) : vs.length = ws.length ∧ ∀ (j : Nat) (v w : Value), vs[j]? = some v → ws[j]? = some w → EqN 1 news v w true := by
  refine ⟨by rw [h1.len, h2.len], fun j v w e1 e2 => ?_⟩
  obtain ⟨g, l, lv, e, a1, rfl, a3, a4⟩ := h1.get e1
  obtain ⟨g', l', lv', e', b1, rfl, b3, b4⟩ := h2.get e2
  rw [a1] at b1
  obtain rfl := Option.some.inj b1
  exact EqN.ints a3 b3 a4 b4
theorem WL.get {f : Nat → Str} {ns : List Nat} {vs : List Value} {tl : Led} (h : WL f ns vs tl) {n : Led} (hs : ∀ p ∈ tl, p ∈ n) {j : Nat} {v : Value} (hv : vs[j]? = some v) : Ex3 fun a t tt => And3 (ns[j]? = some a) (v = .ref t) ((t, tupO [.str (f a) tt] 0) ∈ n) := by
  induction h with
  | nil => simp at hv
  | @snoc ns vs tl a t tt h ih =>
    have hl := h.len
    rcases Nat.lt_or_ge j vs.length with q | q
    · rw [List.getElem?_append_left q] at hv
      obtain ⟨a', t', tt', a1, a2, a3⟩ := ih (fun p hp => hs p (.tail _ hp)) hv
      exact ⟨a', t', tt', by rw [List.getElem?_append_left (by omega)]; exact a1, a2, a3⟩
    · have hj : j = vs.length := by
        have := (List.getElem?_eq_some_iff.mp hv).1
        simp at this; omega
      subst hj
      simp at hv
      refine ⟨a, t, tt, ?_, hv.symm, hs _ (.head _)⟩
      rw [hl]; simp
theorem WL.eqs {news tl tl' : Led} {f g : Nat → Str} {ns : List Nat} {vs ws : List Value} (h1 : WL f ns vs tl) (h2 : WL g ns ws tl') (s1 : ∀ p ∈ tl, p ∈ news) (s2 : ∀ p ∈ tl', p ∈ news) (hfg : ∀ n ∈ ns, f n = g n) :
    vs.length = ws.length ∧ ∀ (j : Nat) (v w : Value), vs[j]? = some v → ws[j]? = some w → EqN 1 news v w true := by
  refine ⟨by rw [h1.len, h2.len], fun j v w e1 e2 => ?_⟩
  obtain ⟨a, t, tt, a1, rfl, a3⟩ := h1.get s1 e1
  obtain ⟨b, t', tt', b1, rfl, b3⟩ := h2.get s2 e2
  rw [a1] at b1
  obtain rfl := Option.some.inj b1
  have ef := hfg a (List.mem_of_getElem? a1)
  rw [ef] at a3
  have := EqN.tup (n := 0) (e := fun _ => true) a3 b3 (fun j v w q1 q2 => ?_) (fun _ => by simp)
  · simpa using this
  · cases j with
    | zero =>
      obtain rfl := Option.some.inj q1
      obtain rfl := Option.some.inj q2
      have := EqN.str (news := news) (x := g a) (y := g a) (t := tt) (u := tt')
      simpa using this
    | succ j => simp at q1
theorem filterL_step {α : Type} (l : List α) (p : α → Bool) (i : Nat) (h : i < l.length) : (l.take (i + 1)).filter p = (l.take i).filter p ++ if p l[i] then [l[i]] else [] := by
  rw [List.take_succ_eq_append_getElem h, List.filter_append]
  congr 1
  by_cases q : p l[i] = true <;> simp [q]

theorem cdTab (P : Params) : codeHdIn (hd.heap_39 P) 228 226 = true := by kernel_rfl
noncomputable abbrev riLN : List Str := ["below", "run", "node", "parts", "groups", "words"]
noncomputable abbrev riQ : Str := (Str.ofString "_law_run_is_right" ++ Str.ofString ".<locals>.") ++ Str.ofString "<lambda>"
noncomputable abbrev lamP : Pos := ⟨268, 34, 268, 64⟩
/- _law_run_is_right(below, powers, nodes), where it is -/
theorem right_c {d : Dy} {m : Loc} {rest X : Led} {ps : Array Value} {E : Value → Shared → Prop} {nl bl pl : Addr} {nv : List Value} {kn : Nat} {below pw : List (List Nat)} {nodes : List Nat} {R : Nat → Option Nat} {rs : List PN} {res : Option (List Nat)} {st : RSt} {Q : Value → Loc → Led → Prop} (hr : 8 ≤ d.room) (hh : d.A.handled = none)
    (hT : TabS riQ lamP ps X) (hB : BelowAt rest bl below) (hP : PowAt rest pl pw) (hnl : (nl, listO nv kn) ∈ rest) (hnv : IntsAre nv (ofN nodes)) (O : RightOk below pw nodes R rs res st)
    (h : ∀ ps' X', TabS riQ lamP ps' X' → Q (.bool true) m ((226, tabObj ps') :: (X' ++ rest))) :
    W d (call (.ref 229) [.ref bl, .ref pl, .ref nl]) m ((226, tabObj ps) :: (X ++ rest)) Q E := by
  have sL : (3000 : Nat) ≤ sizeLine := Nat.le_of_ble_eq_true rfl
  have lnv : nv.length = nodes.length := by have := hnv.length; simpa using this
  have hnl60 := O.nl
  have hp4 := O.p4
  refine W_defCw (LN := riLN) (GN := ["_law_run", "sorted", "_law_parts", "max", "range", "len", "_law_ring_is_right"]) (CN := ["ranks", "twice", "nodes", "powers"]) (by k_is) (by k_is) (Nm.of (by decide +kernel)) (by decide +kernel) (by omega) rfl
    (.loc (by decide +kernel) .here (.cel (by decide +kernel) (.there (.there (.there .here))) (.cel (by decide +kernel) (.there (.there .here)) .nil))) ?_
  intro d' hr' hh' hw'
  have hh2 := hh'.trans hh
  intro c1 o1 ho1 c2 o2 ho2 c3 o3 ho3 c4 o4 ho4
  intro hj91 hN
  try wtm_at "q"
  obtain ⟨outer, hO⟩ := hj91
  show W d' _ (Lv riLN [some _, none, none, none, none, none]) ((c1, o1) :: (c2, o2) :: (c3, o3) :: (c4, o4) :: ((226, tabObj ps) :: (X ++ rest))) _ _
  try wtm_at "q"
  have up : ∀ q ∈ rest, q ∈ (c1, o1) :: (c2, o2) :: (c3, o3) :: (c4, o4) :: ((226, tabObj ps) :: (X ++ rest)) := fun q hq => .tail _ (.tail _ (.tail _ (.tail _ (.tail _ (List.mem_append_right _ hq)))))
  (repeat wtm_at "lf")
  try wtm_at "uq"
  refine W.re ?_
  try wtm_at "q"
  try wtm_at "q"
  repeat wtm_at "w"
  refine run_c (by omega) hh2 (by
      obtain ⟨refs, k, h1, h2⟩ := hB
      (repeat wtm_at "lf")
      refine ⟨refs, k, up _ h1, fun i l e => ?_⟩
      obtain ⟨b, lv, kb, q1, q2, q3⟩ := h2 i l e
      (repeat wtm_at "lf")
      exact ⟨b, lv, kb, q1, up _ q2, q3⟩) (up _ hnl) hnv O.run ?_
  intro t rv g gv gk wd wv wk Xr Xg Xw hRA hGA hWL
  refine W.perm (n' := (c1, o1) :: (c2, o2) :: (226, tabObj ps) :: (X ++ ((t, tupO [rv, .ref g, .ref wd] 0) :: (g, listO gv gk) :: (wd, listO wv wk) :: (c3, o3) :: (c4, o4) :: (Xr ++ (Xg ++ (Xw ++ rest)))))) ?_ (by wtm_at "perm")
  have mt : (t, tupO [rv, .ref g, .ref wd] 0) ∈ (t, tupO [rv, .ref g, .ref wd] 0) :: (g, listO gv gk) :: (wd, listO wv wk) :: (c3, o3) :: (c4, o4) :: (Xr ++ (Xg ++ (Xw ++ rest))) := .head _
  have mg : (g, listO gv gk) ∈ (t, tupO [rv, .ref g, .ref wd] 0) :: (g, listO gv gk) :: (wd, listO wv wk) :: (c3, o3) :: (c4, o4) :: (Xr ++ (Xg ++ (Xw ++ rest))) := .tail _ (.head _)
  have mw : (wd, listO wv wk) ∈ (t, tupO [rv, .ref g, .ref wd] 0) :: (g, listO gv gk) :: (wd, listO wv wk) :: (c3, o3) :: (c4, o4) :: (Xr ++ (Xg ++ (Xw ++ rest))) := .tail _ (.tail _ (.head _))
  have m3 : (c3, o3) ∈ (t, tupO [rv, .ref g, .ref wd] 0) :: (g, listO gv gk) :: (wd, listO wv wk) :: (c3, o3) :: (c4, o4) :: (Xr ++ (Xg ++ (Xw ++ rest))) := .tail _ (.tail _ (.tail _ (.head _)))
  have m4 : (c4, o4) ∈ (t, tupO [rv, .ref g, .ref wd] 0) :: (g, listO gv gk) :: (wd, listO wv wk) :: (c3, o3) :: (c4, o4) :: (Xr ++ (Xg ++ (Xw ++ rest))) := .tail _ (.tail _ (.tail _ (.tail _ (.head _))))
  have mX : ∀ q ∈ Xr ++ (Xg ++ (Xw ++ rest)), q ∈ (t, tupO [rv, .ref g, .ref wd] 0) :: (g, listO gv gk) :: (wd, listO wv wk) :: (c3, o3) :: (c4, o4) :: (Xr ++ (Xg ++ (Xw ++ rest))) := fun q hq => .tail _ (.tail _ (.tail _ (.tail _ (.tail _ hq))))
  generalize hbase : (t, tupO [rv, .ref g, .ref wd] 0) :: (g, listO gv gk) :: (wd, listO wv wk) :: (c3, o3) :: (c4, o4) :: (Xr ++ (Xg ++ (Xw ++ rest))) = base at *
  have mR : ∀ q ∈ rest, q ∈ base := fun q hq => mX q (List.mem_append_right _ (List.mem_append_right _ (List.mem_append_right _ hq)))
  have hP1 : PowAt base pl pw := hP.mono mR
  have hnl1 : (nl, listO nv kn) ∈ base := mR _ hnl
  repeat wtm_at "w"
  (repeat wtm_at "lf")
  try rw [if_neg (by simp)]
  repeat wtm_at "w"
  have ltw : ∀ j, ((nodes.take j).filter fun n => decide ((nodes.map fun o => pw.getD o []).count (pw.getD n []) > 1)).length ≤ 60 := fun j => Nat.le_trans (List.length_filter_le ..) (by simp; omega)
  have up1 : ∀ q ∈ base, q ∈ (c1, o1) :: (c2, o2) :: (226, tabObj ps) :: (X ++ base) := fun q hq => .tail _ (.tail _ (.tail _ (List.mem_append_right _ hq)))
  refine W_ListComp (n := nv.length) (I := fun _ => listIt nl) (V := fun i v => nv[i]? = some v) (C₀ := fun v n₁ => (nl, listO nv kn) ∈ n₁) (C := fun _ n₁ => (nl, listO nv kn) ∈ n₁) hN hh2 [] [("nodes", c3), ("powers", c4)] (CompOk.of (by show compOk _ ["node"] [] ["nodes", "powers"] = true; decide +kernel)) (by simp) (by decide)
      (fun v j ys n₁ => IntsAre ys (ofN ((nodes.take j).filter fun n => decide ((nodes.map fun o => pw.getD o []).count (pw.getD n []) > 1))) ∧ n₁ = (c1, o1) :: (c2, o2) :: (226, tabObj ps) :: (X ++ base)) (by omega) ?_ ?_ ?_ ?_
  · have := up1 _ m3
    repeat wtm_at "w"
    (repeat wtm_at "lf")
    exact ⟨rfl, iter_list, up1 _ hnl1, .nil, rfl⟩
  · intro v j ys n₁ hj91
    try wtm_at "q"
    obtain ⟨_, rfl⟩ := hj91
    exact up1 _ hnl1
  · intro vv Ca it D k j v ys n₁ hj hv hj91 hEv
    try wtm_at "q"
    obtain ⟨hys, rfl⟩ := hj91
    have hj2 : j < nodes.length := by omega
    obtain ⟨tv, rfl⟩ := int_of hnv hj2 hv
    have hlt := O.lt nodes[j] (List.getElem_mem hj2)
    obtain ⟨p, hp9⟩ : ∃ p, p = nodes[j] := ⟨_, rfl⟩
    rw [← hp9] at hlt hv ⊢
    have a3 := up1 _ m3
    have a4 := up1 _ m4
    have hP2 : PowAt ((c1, o1) :: (c2, o2) :: (226, tabObj ps) :: (X ++ base)) pl pw := hP1.mono up1
    try wtm_at "q"
    refine W_tests1 ?_
    (repeat wtm_at "lf")
    try wtm_at "uq"
    refine W.drop ?_
    try wtm_at "q"
    repeat wtm_at "w"
    refine W_ListComp (n := nv.length) (I := fun _ => listIt nl) (V := fun i v => nv[i]? = some v) (C₀ := fun v n₁ => (nl, listO nv kn) ∈ n₁) (C := fun _ n₁ => (nl, listO nv kn) ∈ n₁) hEv hh2 [] [("powers", c4)] (CompOk.of (by show compOk _ ["other"] [] ["powers"] = true; decide +kernel)) (by simp) (by decide)
      (fun v i zs n₁ => RowsAre ((c1, o1) :: (c2, o2) :: (226, tabObj ps) :: (X ++ base)) zs ((nodes.take i).map fun o => ofN (pw.getD o [])) ∧ n₁ = (c1, o1) :: (c2, o2) :: (226, tabObj ps) :: (X ++ base)) (by omega) ?_ ?_ ?_ ?_
    · repeat wtm_at "w"
      (repeat wtm_at "lf")
      exact ⟨rfl, iter_list, up1 _ hnl1, .nil, rfl⟩
    · intro v j ys n₁ hj91
      try wtm_at "q"
      obtain ⟨_, rfl⟩ := hj91
      exact up1 _ hnl1
    · intro vv2 Ca2 it2 D2 k2 i v zs n₁ hi hv hj91 hEv2
      try wtm_at "q"
      obtain ⟨hzs, rfl⟩ := hj91
      have hi2 : i < nodes.length := by omega
      obtain ⟨tv2, rfl⟩ := int_of hnv hi2 hv
      have hlt2 := O.lt nodes[i] (List.getElem_mem hi2)
      obtain ⟨refs, kr, b, bv, q1, q2, q3, q4⟩ := hP2.row hlt2
      refine W_tests0 ?_
      (repeat wtm_at "lf")
      rw [if_pos rfl]
      try wtm_at "q"
      try wtm_at "q"
      repeat wtm_at "w"
      refine W_itemL q1 (by omega) q2 ?_
      (repeat wtm_at "lf")
      (repeat wtm_at "lf")
      refine ⟨⟨_, rfl⟩, ?_, rfl⟩
      rw [List.take_succ_eq_append_getElem hi2, List.map_append]
      exact hzs.append (.cons q3 q4 .nil)
    · intro vv2 D2 k2 zs n₁ hj91
      try wtm_at "q"
      obtain ⟨hzs, rfl⟩ := hj91
      rw [lnv, List.take_length] at hzs
      obtain ⟨refs, kr, b, bv, q1, q2, q3, q4⟩ := hP2.row hlt
      refine W_getL PySem.F.slot_list_count PySem.F.type_list_count (.head _) ?_
      repeat wtm_at "w"
      refine W_itemL (.tail _ q1) (by omega) q2 ?_
      repeat wtm_at "w"
      refine W_countT (.head _) (.tail _ q3) (hzs.mono fun q hq => .tail _ hq) q4 ?_
      intro _
      have ec : (nodes.map fun o => ofN (pw.getD o [])).count (ofN (pw.getD p [])) = (nodes.map fun o => pw.getD o []).count (pw.getD p []) := by
        rw [← count_ofN, List.map_map]; rfl
      rw [ec]
      have eg : ∀ c : Nat, decide (((c : Nat) : Int) > 1) = decide (c > 1) := fun c => by rw [Bool.eq_iff_iff, decide_eq_true_eq, decide_eq_true_eq]; omega
      repeat wtm_at "w"
      rw [eg]
      (repeat wtm_at "lf")
      refine ⟨_, List.sublist_cons_self .., ?_⟩
      (repeat wtm_at "lf")
      split
      · rename_i hc
        repeat wtm_at "w"
        (repeat wtm_at "lf")
        refine ⟨⟨_, rfl⟩, ?_, rfl⟩
        rw [filter_step _ _ _ hj2, ← hp9, if_pos hc]
        have := hys.append (.cons (p : Int) tv .nil)
        simpa [ofN] using this
      · rename_i hc
        (repeat wtm_at "lf")
        refine ⟨⟨_, rfl⟩, ?_, rfl⟩
        rw [filter_step _ _ _ hj2, ← hp9, if_neg hc]
        simpa using hys
  · intro vv D k ys n₁ hj91
    try wtm_at "q"
    obtain ⟨hys, rfl⟩ := hj91
    rw [lnv, List.take_length] at hys
    have hys2 : IntsAre ys (ofN (twF pw nodes)) := hys
    have ltwF : (twF pw nodes).length ≤ 60 := by have := ltw nodes.length; rwa [List.take_length] at this
    repeat wtm_at "w"
    rename_i o2' ho2' _ _
    refine W_dict0 ?_
    intro rk ork hDI
    repeat wtm_at "w"
    rename_i o1' ho1'
    refine W.perm (n' := (226, tabObj ps) :: (X ++ ((rk, ork) :: (D, listO ys k) :: (c1, o1') :: (c2, o2') :: base))) ?_ (by wtm_at "perm")
    have b1 : (c1, o1') ∈ (D, listO ys k) :: (c1, o1') :: (c2, o2') :: base := .tail _ (.head _)
    have b2 : (c2, o2') ∈ (D, listO ys k) :: (c1, o1') :: (c2, o2') :: base := .tail _ (.tail _ (.head _))
    have bD : (D, listO ys k) ∈ (D, listO ys k) :: (c1, o1') :: (c2, o2') :: base := .head _
    have bB : ∀ q ∈ base, q ∈ (D, listO ys k) :: (c1, o1') :: (c2, o2') :: base := fun q hq => .tail _ (.tail _ (.tail _ hq))
    generalize hb2 : (D, listO ys k) :: (c1, o1') :: (c2, o2') :: base = base2 at *
    obtain ⟨P1, p1⟩ := PIs.ex (fun m1 n1 => Ex6 fun kvs ork' ps' X' oa ob => And5 (TabS riQ lamP ps' X') (DI d'.w rk kvs ork') (∀ n ∈ nodes, ∃ tt, valueAt kvs (n : Int) = (R n).map fun r => Value.int (r : Nat) tt) (n1 = (rk, ork') :: (226, tabObj ps') :: (X' ++ base2)) (m1 = Lv riLN [some (.ref bl), some (.ref t), oa, ob, none, none]))
    (repeat wtm_at "lf")
    try wtm_at "q"
    refine W_cut P1 ?_ ?_
    · (repeat wtm_at "lf")
      try wtm_at "uq"
      refine W.re ?_
      try wtm_at "q"
      try wtm_at "q"
      refine W_ForK hh2 ?_ PassesOwn.never
      refine W_CallKw ?_
      repeat wtm_at "w"
      (repeat wtm_at "lf")
      refine ⟨_, rfl, ?_⟩
      have u3 : (c3, o3) ∈ (226, tabObj ps) :: (X ++ ((rk, ork) :: base2)) := .tail _ (List.mem_append_right _ (.tail _ (bB _ m3)))
      repeat wtm_at "w"
      refine W_Lambda (c := 228) (P := 226) (cdTab _) hT rfl (hN.clos (LN' := ["node"]) (GN' := ["sum"]) (CN' := [("powers", c4)]) (CompOk.of (by show compOk _ ["node"] ["sum"] ["powers"] = true; decide +kernel)) (by simp)) ?_
      intro f c' oc ws tq ctv pm hoc hws
      have u4 : (c4, o4) ∈ base2 := bB _ m4
      obtain ⟨refs, kr, hr1, hr2, hr3⟩ := id hP1
      refine W_sortedLam (g := fun n => pw.getD n []) (cp := c4) (pl := pl) (refs := refs) (kr := kr) hh2 (.tail _ (.tail _ (.tail _ (.tail _ (bB _ hnl1))))) hnv (by omega) (fun n hn => by have := O.lt n hn; omega) (.head _) (.tail _ (.tail _ (.head _))) hoc hws (fun _ _ => rfl) rfl (by decide) rfl rfl (by decide +kernel) (by decide +kernel) (by decide +kernel) (by rfl) (.tail _ (.tail _ (.tail _ (.tail _ u4)))) ho4 (.tail _ (.tail _ (.tail _ (.tail _ (bB _ hr1))))) ?_ ?_
      · intro n hn
        obtain ⟨b, tv, q1, q2, q3⟩ := hr3 n (pw[n]'(O.lt n hn)) (List.getElem?_eq_getElem (O.lt n hn))
        (repeat wtm_at "lf")
        refine ⟨b, tv, q1, .tail _ (.tail _ (.tail _ (.tail _ (bB _ q2)))), ?_⟩
        have e : pw.getD n [] = pw[n]'(O.lt n hn) := by simp [O.lt n hn]
        show IntsAre tv (ofN (pw.getD n []))
        rw [e]; exact q3
      · intro D3 vs3 ord c3' hvs3 hperm hsorted
        have hnd : ord.Nodup := hperm.nodup_iff.mpr O.nd
        have lvs3 : vs3.length = ord.length := by have := hvs3.length; simpa using this
        have lord : ord.length = nodes.length := hperm.length_eq
        generalize hlam : kla_obj _ _ _ _ _ _ _ _ _ = olam
        have pm3 : ∀ ok : Obj, ((rk, ok) :: ((D3, listO vs3 c3') :: (f, olam) :: (226, tabObj #[rawInt lamP.line, rawInt lamP.col, Value.ref c']) :: (c', oc) :: base2)).Perm ((D3, listO vs3 c3') :: (f, olam) :: (226, tabObj #[rawInt lamP.line, rawInt lamP.col, Value.ref c']) :: (c', oc) :: (rk, ok) :: base2) := fun ok => by wtm_at "perm"
        have e1 : (D3, listO vs3 c3') ∈ (D3, listO vs3 c3') :: (f, olam) :: (226, tabObj #[rawInt lamP.line, rawInt lamP.col, Value.ref c']) :: (c', oc) :: base2 := .head _
        have eB : ∀ q ∈ base2, q ∈ (D3, listO vs3 c3') :: (f, olam) :: (226, tabObj #[rawInt lamP.line, rawInt lamP.col, Value.ref c']) :: (c', oc) :: base2 := fun q hq => .tail _ (.tail _ (.tail _ (.tail _ hq)))
        have hT2 : TabS riQ lamP #[rawInt lamP.line, rawInt lamP.col, Value.ref c'] [(c', oc)] := .made hoc hws
        have pmE : ∀ ok : Obj, ((rk, ok) :: ((D3, listO vs3 c3') :: (f, olam) :: (226, tabObj #[rawInt lamP.line, rawInt lamP.col, Value.ref c']) :: (c', oc) :: base2)).Perm (((rk, ok) :: (226, tabObj #[rawInt lamP.line, rawInt lamP.col, Value.ref c']) :: ([(c', oc)] ++ base2)) ++ [(D3, listO vs3 c3'), (f, olam)]) := fun ok => by wtm_at "perm"
        generalize hb3 : (D3, listO vs3 c3') :: (f, olam) :: (226, tabObj #[rawInt lamP.line, rawInt lamP.col, Value.ref c']) :: (c', oc) :: base2 = base3 at *
        obtain ⟨J1, j1⟩ := JIs.ex (fun i m1 n1 => Ex4 fun kvs ork' oa ob => And5 (DI d'.w rk kvs ork') (∀ n : Nat, (n ∈ ord.take i ∧ cleanF pw nodes n = true → ∃ r tt, R n = some r ∧ valueAt kvs (n : Int) = some (.int (r : Nat) tt)) ∧ (¬ (n ∈ ord.take i ∧ cleanF pw nodes n = true) → valueAt kvs (n : Int) = none)) (kvs.length ≤ i) (((rk, ork') :: base3).Perm n1) (m1 = Lv riLN [some (.ref bl), some (.ref t), oa, ob, none, none]))
        (repeat wtm_at "lf")
        refine ⟨vs3.length, fun _ => listIt D3, fun i v => vs3[i]? = some v, fun n₁ => (D3, listO vs3 c3') ∈ n₁, fun n₁ => (D3, listO vs3 c3') ∈ n₁,
          J1,
          iter_list, .head _, j1.i ⟨[], ork, _, _, hDI, fun n => ⟨fun hq => by simp at hq, fun _ => rfl⟩, Nat.le_refl _, pm3 ork, rfl⟩, ?_, ?_, ?_⟩
        · intro i m1 n1 hj
          obtain ⟨kvs, ork', oa, ob, _, _, _, hp, _⟩ := j1.e hj
          exact hp.mem_iff.mp (.tail _ e1)
        · intro it i v m1 n1 hi hv hj
          obtain ⟨kvs, ork', oa, ob, hDI', hKV, hlen, hp, rfl⟩ := j1.e hj
          clear hj
          have hi2 : i < ord.length := by omega
          obtain ⟨tv, rfl⟩ := int_of hvs3 hi2 hv
          have hpm : ord[i] ∈ nodes := hperm.mem_iff.mp (List.getElem_mem hi2)
          have htk : ord.take (i + 1) = ord.take i ++ [ord[i]] := List.take_succ_eq_append_getElem hi2
          have hni : ord[i] ∉ ord.take i := by
            intro hm
            have := hnd.sublist (List.take_sublist (i + 1) ord)
            rw [htk] at this
            exact (List.nodup_append.mp this).2.2 _ hm _ (.head _) rfl
          have hbef : ∀ o ∈ partsF pw nodes ord[i], cleanF pw nodes ord[i] = true → o ∈ ord.take i ∧ cleanF pw nodes o = true := by
            intro o ho hcl
            obtain ⟨q1, q2⟩ := O.ord _ hpm hcl o ho
            (repeat wtm_at "lf")
            refine ⟨?_, q1⟩
            have hm : o ∈ ord := hperm.mem_iff.mpr (partsF_mem ho)
            obtain ⟨j, hj, rfl⟩ := List.getElem_of_mem hm
            rcases Nat.lt_or_ge j i with hji | hji
            · exact List.mem_take_iff_getElem.mpr ⟨j, by omega, rfl⟩
            · exfalso
              rcases Nat.lt_or_ge i j with hij | hij
              · have := List.pairwise_iff_getElem.mp hsorted i j hi2 hj hij
                omega
              · obtain rfl : i = j := by omega
                omega
          have hlt := O.lt _ hpm
          obtain ⟨r0, hrk⟩ : ∃ r0, cleanF pw nodes ord[i] = true → R ord[i] = some r0 ∧ (∀ o ∈ partsF pw nodes ord[i], ∃ q, R o = some q ∧ q < r0) ∧ (r0 = 0 ∨ ∃ o ∈ partsF pw nodes ord[i], R o = some (r0 - 1)) := by
            by_cases hc : cleanF pw nodes ord[i] = true
            · obtain ⟨r, h1, h2, h3⟩ := O.rk _ hpm hc
              (repeat wtm_at "lf")
              exact ⟨r, fun _ => ⟨h1, h2, h3⟩⟩
            · (repeat wtm_at "lf")
              exact ⟨0, fun q => absurd q hc⟩
          generalize ord[i] = p at *
          refine W.perm (n' := (rk, ork') :: base3) ?_ hp
          wtm_at "w"
          (repeat wtm_at "lf")
          try wtm_at "uq"
          refine W.re ?_
          try wtm_at "q"
          try wtm_at "q"
          have z3 := eB _ (bB _ m3)
          have z4 := eB _ (bB _ m4)
          have z1 := eB _ b1
          have z2 := eB _ b2
          have zD := eB _ bD
          have hP3 : PowAt ((rk, ork') :: base3) pl pw := hP1.mono fun q hq => .tail _ (eB _ (bB _ hq))
          repeat wtm_at "w"
          refine parts_c (by show 1 ≤ d'.room; omega) hh2 hP3 O.hw O.p4 (.tail _ (eB _ (bB _ hnl1))) hnv (by omega) O.lt hlt ?_
          intro D4 pvs k4 hpv
          have lpv : pvs.length = (partsF pw nodes p).length := by have := hpv.length; simpa using this
          have lpp : (partsF pw nodes p).length ≤ nodes.length := List.length_filter_le _ _
          repeat wtm_at "w"
          refine W_ListCompK (n := (pvs ++ [Value.int p tv]).length) (I := fun v _ => match v with | .ref l => listIt l | _ => fun _ _ => False) (V := fun i v => (pvs ++ [Value.int p tv])[i]? = some v) (C₀ := fun v n₁ => match v with | .ref l => (l, listO (pvs ++ [Value.int p tv]) 0) ∈ n₁ | _ => False) (C := fun v n₁ => match v with | .ref l => (l, listO (pvs ++ [Value.int p tv]) 0) ∈ n₁ | _ => False) (d := d'.hide it _) hN hh2 [] [("twice", c2)] (CompOk.of (by show compOk _ ["other"] [] ["twice"] = true; decide +kernel)) (by simp) (by decide)
            (fun v j zs n₁ => Ex2 fun l l2 => And3 (v = .ref l) (IntsAre zs (ofN (((partsF pw nodes p ++ [p]).take j).filter fun o => (twF pw nodes).any (· == o)))) (n₁ = (l, listO (pvs ++ [Value.int p tv]) 0) :: (l2, listO [Value.int p tv] 0) :: (D4, listO pvs k4) :: (rk, ork') :: base3)) (by simp; omega) ?_ ?_ ?_ ?_
          · repeat wtm_at "w"
            refine W_newList (Nat.le_trans (by simp) sL) ?_
            intro l2
            refine W_addL (.tail _ (.head _)) (.head _) (by simp; omega) ?_
            intro l
            (repeat wtm_at "lf")
            exact ⟨rfl, iter_list, .head _, l, l2, rfl, .nil, rfl⟩
          · intro v j ys n₁ hj91
            try wtm_at "q"
            obtain ⟨l, l2, rfl, _, rfl⟩ := hj91
            exact .head _
          · intro vv Ca it2 D5 k5 j v zs n₁ hj hv2 hj91 hEv
            try wtm_at "q"
            obtain ⟨l, l2, rfl, hzs, rfl⟩ := hj91
            have hall : IntsAre (pvs ++ [Value.int p tv]) (ofN (partsF pw nodes p ++ [p])) := by
              have := hpv.append (.cons (p : Int) tv .nil)
              simpa [ofN] using this
            have hj2 : j < (partsF pw nodes p ++ [p]).length := by simp at hj ⊢; omega
            obtain ⟨tv2, rfl⟩ := int_of hall hj2 hv2
            have fs := filter_step _ (fun o => (twF pw nodes).any (· == o)) _ hj2
            generalize (partsF pw nodes p ++ [p])[j] = o at *
            try wtm_at "q"
            refine W_tests1 ?_
            repeat wtm_at "w"
            refine W_inInts (.tail _ (.tail _ (.tail _ (.tail _ zD)))) hys2 ?_
            rw [any_ofN]
            repeat wtm_at "w"
            (repeat wtm_at "lf")
            split
            · rename_i hc
              repeat wtm_at "w"
              (repeat wtm_at "lf")
              refine ⟨⟨_, rfl⟩, l, l2, rfl, ?_, rfl⟩
              rw [fs, if_pos hc]
              have := hzs.append (.cons (o : Int) tv2 .nil)
              simpa [ofN] using this
            · rename_i hc
              (repeat wtm_at "lf")
              refine ⟨⟨_, rfl⟩, l, l2, rfl, ?_, rfl⟩
              rw [fs, if_neg hc]
              simpa using hzs
          · intro vv D5 k5 zs n₁ hj91
            try wtm_at "q"
            obtain ⟨l, l2, rfl, hzs, rfl⟩ := hj91
            have et : (partsF pw nodes p ++ [p]).take (pvs ++ [Value.int p tv]).length = partsF pw nodes p ++ [p] := List.take_of_length_le (by simp; omega)
            rw [et] at hzs
            have lzs : zs.length = ((partsF pw nodes p ++ [p]).filter fun o => (twF pw nodes).any (· == o)).length := by have := hzs.length; simpa using this
            have lz : ((partsF pw nodes p ++ [p]).filter fun o => (twF pw nodes).any (· == o)).length ≤ 100 := Nat.le_trans (List.length_filter_le ..) (by simp; omega)
            refine W_truthyL (.head _) (by omega) ?_
            have ecl : (!(zs.length != 0)) = cleanF pw nodes p := by rw [lzs]; unfold cleanF; cases ((partsF pw nodes p ++ [p]).filter fun o => (twF pw nodes).any (· == o)).length <;> rfl
            (repeat wtm_at "lf")
            rw [ecl]
            repeat wtm_at "w"
            cases hc : cleanF pw nodes p with
            | false =>
              (repeat wtm_at "lf")
              try rw [if_neg (by simp)]
              repeat wtm_at "w"
              (repeat wtm_at "lf")
              (repeat wtm_at "lf")
              refine ⟨(rk, ork') :: base3, [(D5, listO zs k5), (l, listO (pvs ++ [Value.int p tv]) 0), (l2, listO [Value.int p tv] 0), (D4, listO pvs k4)], by wtm_at "perm", j1.i ⟨kvs, ork', _, _, hDI', fun n => ?_, by omega, List.Perm.refl _, rfl⟩⟩
              rw [htk]
              (repeat wtm_at "lf")
              refine ⟨fun q => ?_, fun q => ?_⟩
              · rcases List.mem_append.mp q.1 with q1 | q1
                · exact (hKV n).1 ⟨q1, q.2⟩
                · rw [List.mem_singleton.mp q1, hc] at q; cases q.2
              · exact (hKV n).2 fun q1 => q ⟨List.mem_append_left _ q1.1, q1.2⟩
            | true =>
              rw [if_pos rfl]
              obtain ⟨hR, hR2, hR3⟩ := hrk hc
              refine W.perm (n' := (D4, listO pvs k4) :: (rk, ork') :: ((D5, listO zs k5) :: (l, listO (pvs ++ [Value.int p tv]) 0) :: (l2, listO [Value.int p tv] 0) :: base3)) ?_ (by wtm_at "perm")
              repeat wtm_at "w"
              rename_i tneg
              refine W_newList (Nat.le_trans (by simp) sL) ?_
              intro l6
              repeat wtm_at "w"
              refine W_ListComp (d := d'.hide it _) (n := pvs.length) (I := fun _ => listIt D4) (V := fun i v => pvs[i]? = some v) (C₀ := fun v n₁ => (D4, listO pvs k4) ∈ n₁) (C := fun _ n₁ => (D4, listO pvs k4) ∈ n₁) hN hh2 [] [("ranks", c1)] (CompOk.of (by show compOk _ ["other"] [] ["ranks"] = true; decide +kernel)) (by simp) (by decide)
                (fun v j us n₁ => IntsAre us (((partsF pw nodes p).take j).map fun o => (((R o).getD 0 : Nat) : Int)) ∧ n₁ = (l6, listO [Value.int (-1) tneg] 0) :: (D4, listO pvs k4) :: (rk, ork') :: ((D5, listO zs k5) :: (l, listO (pvs ++ [Value.int p tv]) 0) :: (l2, listO [Value.int p tv] 0) :: base3)) (by omega) ?_ ?_ ?_ ?_
              · repeat wtm_at "w"
                (repeat wtm_at "lf")
                exact ⟨rfl, iter_list, .tail _ (.head _), .nil, rfl⟩
              · intro v j ys n₁ hj91
                try wtm_at "q"
                obtain ⟨_, rfl⟩ := hj91
                exact .tail _ (.head _)
              · intro vv Ca it2 D7 k7 j v us n₁ hj hv2 hj91 hEv
                try wtm_at "q"
                obtain ⟨hus, rfl⟩ := hj91
                have hj2 : j < (partsF pw nodes p).length := by omega
                obtain ⟨tv2, rfl⟩ := int_of hpv hj2 hv2
                have hom : (partsF pw nodes p)[j] ∈ partsF pw nodes p := List.getElem_mem hj2
                have fs := List.take_succ_eq_append_getElem hj2
                generalize (partsF pw nodes p)[j] = o at *
                obtain ⟨r1, tt1, w1, w2⟩ := (hKV o).1 (hbef o hom hc)
                refine W_tests0 ?_
                (repeat wtm_at "lf")
                rw [if_pos rfl]
                try wtm_at "q"
                try wtm_at "q"
                repeat wtm_at "w"
                refine W_dItem hDI' (.tail _ (.tail _ (.head _))) w2 ?_
                (repeat wtm_at "lf")
                (repeat wtm_at "lf")
                refine ⟨⟨_, rfl⟩, ?_, rfl⟩
                rw [fs, List.map_append]
                have := hus.append (.cons (r1 : Int) tt1 .nil)
                simpa [w1] using this
              · intro vv D7 k7 us n₁ hj91
                try wtm_at "q"
                obtain ⟨hus, rfl⟩ := hj91
                rw [lpv, List.take_length] at hus
                have lus : us.length = (partsF pw nodes p).length := by have := hus.length; simpa using this
                refine W_addL (.tail _ (.head _)) (.head _) (by simp; omega) ?_
                intro l8
                repeat wtm_at "w"
                refine W_maxL (ns := (-1 : Int) :: ((partsF pw nodes p).map fun o => (((R o).getD 0 : Nat) : Int))) hh2 (.head _) (.cons _ _ hus) (by simp) ?_
                intro M tM hM1 hM2
                repeat wtm_at "w"
                have hM : M + 1 = (r0 : Int) := by
                  have q1 := hM2 (-1) (.head _)
                  have q2 : M + 1 ≤ (r0 : Int) := by
                    rcases List.mem_cons.mp hM1 with e | e
                    · omega
                    · obtain ⟨o, ho, rfl⟩ := List.mem_map.mp e
                      obtain ⟨q, w1, w2⟩ := hR2 o ho
                      rw [w1]; show (q : Int) + 1 ≤ r0; omega
                  rcases hR3 with e | ⟨o, ho, e⟩
                  · omega
                  · have q3 := hM2 _ (List.mem_cons_of_mem _ (List.mem_map.mpr ⟨o, ho, rfl⟩))
                    rw [e] at q3
                    have q4 : ((r0 - 1 : Nat) : Int) ≤ M := q3
                    obtain ⟨q, w1, w2⟩ := hR2 o ho
                    omega
                rw [hM]
                refine W_dSet hDI' (by wtm_at "sel") (by omega) ?_
                intro o' hDI2
                have hno : valueAt kvs (p : Int) = none := (hKV p).2 fun q => hni q.1
                rw [stored_absent hno] at hDI2
                repeat wtm_at "w"
                (repeat wtm_at "lf")
                (repeat wtm_at "lf")
                refine ⟨(rk, o') :: base3, [(l8, listO ([Value.int (-1) tneg] ++ us) 0), (D7, listO us k7), (l6, listO [Value.int (-1) tneg] 0), (D5, listO zs k5), (l, listO (pvs ++ [Value.int p tv]) 0), (l2, listO [Value.int p tv] 0), (D4, listO pvs k4)], by wtm_at "perm", j1.i ⟨_, o', _, _, hDI2, fun n => ?_, by simp; omega, List.Perm.refl _, rfl⟩⟩
                rw [htk, valueAt_snoc]
                by_cases en : n = p
                · subst en
                  (repeat wtm_at "lf")
                  refine ⟨fun _ => ⟨r0, _, hR, by rw [hno, if_pos rfl]; rfl⟩, fun q => absurd ⟨List.mem_append_right _ (.head _), hc⟩ q⟩
                · have en2 : ¬ (n : Int) = (p : Int) := by omega
                  rw [if_neg en2, Option.or_none]
                  (repeat wtm_at "lf")
                  refine ⟨fun q => (hKV n).1 ⟨?_, q.2⟩, fun q => (hKV n).2 fun q1 => q ⟨List.mem_append_left _ q1.1, q1.2⟩⟩
                  rcases List.mem_append.mp q.1 with q1 | q1
                  · exact q1
                  · exact absurd (List.mem_singleton.mp q1) en
        · intro m1 n1 hj
          obtain ⟨kvs, ork', oa, ob, hDI', hKV, hlen, hp, rfl⟩ := j1.e hj
          rw [lvs3, List.take_length] at hKV
          (repeat wtm_at "lf")
          (repeat wtm_at "lf")
          refine ⟨_, _, hp.symm.trans (pmE ork'), rfl, p1.i ⟨kvs, ork', _, _, oa, ob, hT2, hDI', ?_, rfl, rfl⟩⟩
          intro n hn
          by_cases hc : cleanF pw nodes n = true
          · obtain ⟨r, tt, e1, e2⟩ := (hKV n).1 ⟨hperm.mem_iff.mpr hn, hc⟩
            (repeat wtm_at "lf")
            exact ⟨tt, by rw [e1, e2]; rfl⟩
          · (repeat wtm_at "lf")
            exact ⟨0, by rw [O.rn n hn (by simpa using hc), (hKV n).2 fun q => hc q.2]; rfl⟩
    · intro m1 n1 hp
      obtain ⟨kvs, ork', ps', X', oa, ob, hT', hDI', hKV, rfl, rfl⟩ := p1.e hp
      clear hp
      obtain ⟨x0, hp0⟩ : ∃ x0, ((rk, ork') :: (226, tabObj ps') :: (X' ++ base2)).Perm (((226, tabObj ps') :: (X' ++ rest)) ++ x0) := ⟨(rk, ork') :: (D, listO ys k) :: (c1, o1') :: (c2, o2') :: (t, tupO [rv, .ref g, .ref wd] 0) :: (g, listO gv gk) :: (wd, listO wv wk) :: (c3, o3) :: (c4, o4) :: (Xr ++ (Xg ++ Xw)), by rw [← hb2, ← hbase]; wtm_at "perm"⟩
      have up5 : ∀ q ∈ base2, q ∈ (rk, ork') :: (226, tabObj ps') :: (X' ++ base2) := fun q hq => .tail _ (.tail _ (List.mem_append_right _ hq))
      have k0 : (rk, ork') ∈ (rk, ork') :: (226, tabObj ps') :: (X' ++ base2) := .head _
      generalize hb5 : (rk, ork') :: (226, tabObj ps') :: (X' ++ base2) = B5 at *
      have k1 := up5 _ b1
      have k2 := up5 _ b2
      have kD := up5 _ bD
      have kt := up5 _ (bB _ mt)
      have kg := up5 _ (bB _ mg)
      have kw := up5 _ (bB _ mw)
      have k3 := up5 _ (bB _ m3)
      have k4 := up5 _ (bB _ m4)
      have kl := up5 _ (bB _ hnl1)
      have kX : ∀ q ∈ Xr ++ (Xg ++ (Xw ++ rest)), q ∈ B5 := fun q hq => up5 _ (bB _ (mX q hq))
      have hP5 : PowAt B5 pl pw := hP1.mono fun q hq => up5 _ (bB _ hq)
      obtain ⟨P2, p2⟩ := PIs.ex (fun m2 n2 => Ex4 fun gl gvs gks X2 => And3 (GA ((List.range nodes.length).map (grpF R nodes)) gvs X2) (n2 = (gl, listO gvs gks) :: (X2 ++ B5)) (m2 = Lv riLN [some (.ref bl), some (.ref t), oa, ob, some (.ref gl), none]))
      (repeat wtm_at "lf")
      try wtm_at "q"
      refine W_cut P2 ?_ ?_
      · try wtm_at "q"
        refine W_AsgCompC hN hh2 [] [("nodes", c3), ("ranks", c1)] (CompOk.of (by show compOk _ [] [] ["nodes", "ranks"] = true; decide +kernel)) (by simp) (by decide +kernel) (by decide +kernel) (by decide +kernel) (fun _ _ => rfl) (fun _ => rfl) nodes.length
          (fun i ys n₁ => ∃ X, GA ((List.range i).map (grpF R nodes)) ys X ∧ n₁ = X ++ B5) (by omega) (by rfl) ?_ ?_ ?_
        · repeat wtm_at "w"
          refine W_lenL kl (by omega) ?_
          intro _
          rw [lnv]
          repeat wtm_at "w"
          (repeat wtm_at "lf")
          exact ⟨rfl, ⟨_, _, _, _, rfl, .head _⟩, _, List.sublist_cons_self .., [], .nil, rfl⟩
        · intro Ca cx it D2 k2' i tk ys2 n₁ oc hi hj91 hoc hEv
          try wtm_at "q"
          obtain ⟨X2, hGA2, rfl⟩ := hj91
          have z1 : (c1, o1') ∈ (cx, oc) :: (X2 ++ B5) := .tail _ (List.mem_append_right _ k1)
          have z3 : (c3, o3) ∈ (cx, oc) :: (X2 ++ B5) := .tail _ (List.mem_append_right _ k3)
          have z0 : (rk, ork') ∈ (cx, oc) :: (X2 ++ B5) := .tail _ (List.mem_append_right _ k0)
          have zl : (nl, listO nv kn) ∈ (cx, oc) :: (X2 ++ B5) := .tail _ (List.mem_append_right _ kl)
          refine W_ListComp (n := nv.length) (I := fun _ => listIt nl) (V := fun i v => nv[i]? = some v) (C₀ := fun v n₁ => (nl, listO nv kn) ∈ n₁) (C := fun _ n₁ => (nl, listO nv kn) ∈ n₁) hEv hh2 [] [("rank", cx), ("ranks", c1)] (CompOk.of (by show compOk _ ["node"] [] ["rank", "ranks"] = true; decide +kernel)) (by simp) (by decide)
            (fun v j zs n₁ => IntsAre zs (ofN ((nodes.take j).filter fun n => decide (R n = some i))) ∧ n₁ = (cx, oc) :: (X2 ++ B5)) (by omega) ?_ ?_ ?_ ?_
          · repeat wtm_at "w"
            (repeat wtm_at "lf")
            exact ⟨rfl, iter_list, zl, .nil, rfl⟩
          · intro v j ys n₁ hj91
            try wtm_at "q"
            obtain ⟨_, rfl⟩ := hj91
            exact zl
          · intro vv Ca2 it2 D3 k3' j v zs n₁ hj hv hj91 hEv2
            try wtm_at "q"
            obtain ⟨hzs, rfl⟩ := hj91
            have hj2 : j < nodes.length := by omega
            obtain ⟨tv, rfl⟩ := int_of hnv hj2 hv
            obtain ⟨tt, hval⟩ := hKV nodes[j] (List.getElem_mem hj2)
            have fs := filter_step _ (fun n => decide (R n = some i)) _ hj2
            generalize nodes[j] = p at *
            try wtm_at "q"
            refine W_tests1 ?_
            repeat wtm_at "w"
            refine W_dGet hDI' z0 ?_
            rw [hval]
            cases hR : R p with
            | none =>
              repeat wtm_at "w"
              refine W_eqNI ?_
              repeat wtm_at "w"
              (repeat wtm_at "lf")
              (repeat wtm_at "lf")
              try rw [if_neg (by simp)]
              (repeat wtm_at "lf")
              refine ⟨⟨_, rfl⟩, ?_, rfl⟩
              rw [fs]
              simpa [hR] using hzs
            | some r =>
              show W _ (eval (Expr.Name "rank" _) _) _ _ _ _
              repeat wtm_at "w"
              show W _ (compareOp .Eq (.int (r : Nat) tt) (.int i tk)) _ _ _ _
              repeat wtm_at "w"
              (repeat wtm_at "lf")
              split
              · rename_i hc
                have hc2 : r = i := by have := beq_iff_eq.mp hc; omega
                subst hc2
                repeat wtm_at "w"
                (repeat wtm_at "lf")
                refine ⟨⟨_, rfl⟩, ?_, rfl⟩
                rw [fs]
                have := hzs.append (.cons (p : Int) tv .nil)
                simpa [ofN, hR] using this
              · rename_i hc
                have hc2 : ¬ r = i := fun e => hc (by subst e; exact beq_self_eq_true _)
                (repeat wtm_at "lf")
                refine ⟨⟨_, rfl⟩, ?_, rfl⟩
                rw [fs]
                simpa [hR, hc2] using hzs
          · intro vv D3 k3' zs n₁ hj91
            try wtm_at "q"
            obtain ⟨hzs, rfl⟩ := hj91
            rw [lnv, List.take_length] at hzs
            (repeat wtm_at "lf")
            refine ⟨rfl, (D3, listO zs k3') :: (X2 ++ B5), [], oc, _, hoc, by wtm_at "perm", (D3, listO zs k3') :: X2, ?_, rfl⟩
            rw [List.range_succ, List.map_append]
            exact .snoc hGA2 hzs
        · intro Ca D2 k2' ys2 n₁ hj91
          try wtm_at "q"
          obtain ⟨X2, hGA2, rfl⟩ := hj91
          repeat wtm_at "w"
          (repeat wtm_at "lf")
          (repeat wtm_at "lf")
          exact ⟨rfl, p2.i ⟨_, _, _, _, hGA2, rfl, rfl⟩⟩
      · intro m2 n2 hp
        obtain ⟨gl, gvs, gks, X2, hGA2, rfl, rfl⟩ := p2.e hp
        clear hp
        repeat wtm_at "w"
        refine W_newList (Nat.zero_le _) ?_
        intro wl
        repeat wtm_at "w"
        have up6 : ∀ q ∈ B5, q ∈ (gl, listO gvs gks) :: (X2 ++ B5) := fun q hq => .tail _ (List.mem_append_right _ hq)
        have hG6 : GR ((gl, listO gvs gks) :: (X2 ++ B5)) ((List.range nodes.length).map (grpF R nodes)) gvs := hGA2.gr fun q hq => .tail _ (List.mem_append_left _ hq)
        have kgl : (gl, listO gvs gks) ∈ (gl, listO gvs gks) :: (X2 ++ B5) := .head _
        obtain ⟨x1, hp1⟩ : ∃ x1, ((gl, listO gvs gks) :: (X2 ++ B5)).Perm (((226, tabObj ps') :: (X' ++ rest)) ++ x1) := ⟨x0 ++ (gl, listO gvs gks) :: X2, ((hp0.append_left X2).cons _).trans (by wtm_at "perm")⟩
        generalize (gl, listO gvs gks) :: (X2 ++ B5) = B6 at *
        obtain ⟨P3, p3⟩ := PIs.ex (fun m3 n3 => Ex4 fun wvs wks X3 oa' => And3 (WL (wordR R) nodes wvs X3) (n3 = (wl, listO wvs wks) :: (X3 ++ B6)) (m3 = Lv riLN [some (.ref bl), some (.ref t), oa', ob, some (.ref gl), some (.ref wl)]))
        (repeat wtm_at "lf")
        try wtm_at "q"
        refine W_cut P3 ?_ ?_
        · try wtm_at "q"
          obtain ⟨J2, j2⟩ := JIs.ex (fun i m3 n3 => Ex4 fun wvs wks X3 oa' => And3 (WL (wordR R) (nodes.take i) wvs X3) (n3 = (wl, listO wvs wks) :: (X3 ++ B6)) (m3 = Lv riLN [some (.ref bl), some (.ref t), oa', ob, some (.ref gl), some (.ref wl)]))
          refine W_ForList (l := nl) (vs := nv) (k := kn) J2 hh2 ?_ ?_ ?_ ?_ PassesOwn.never
          · have z3 : (c3, o3) ∈ (wl, listO [] 0) :: B6 := .tail _ (up6 _ k3)
            repeat wtm_at "w"
            (repeat wtm_at "lf")
            exact ⟨rfl, j2.i ⟨[], 0, [], _, .nil, rfl, rfl⟩⟩
          · intro i m3 n3 hj
            obtain ⟨wvs, wks, X3, oa', _, rfl, _⟩ := j2.e hj
            exact .tail _ (List.mem_append_right _ (up6 _ kl))
          · intro it i v m3 n3 hi hv hj
            obtain ⟨wvs, wks, X3, oa', hWL2, rfl, rfl⟩ := j2.e hj
            clear hj
            have hi2 : i < nodes.length := by omega
            obtain ⟨tv, rfl⟩ := int_of hnv hi2 hv
            obtain ⟨tt, hval⟩ := hKV nodes[i] (List.getElem_mem hi2)
            have hn4 := (O.run.ns nodes[i] (List.getElem_mem hi2)).2.1
            have htk : nodes.take (i + 1) = nodes.take i ++ [nodes[i]] := List.take_succ_eq_append_getElem hi2
            have lw : wvs.length ≤ 60 := by have := hWL2.len; rw [List.length_take] at this; omega
            obtain ⟨p, hp9⟩ : ∃ p, p = nodes[i] := ⟨_, rfl⟩
            rw [← hp9] at hval hn4 htk hv ⊢
            have z1 : (c1, o1') ∈ (wl, listO wvs wks) :: (X3 ++ B6) := .tail _ (List.mem_append_right _ (up6 _ k1))
            have z0 : (rk, ork') ∈ (wl, listO wvs wks) :: (X3 ++ B6) := .tail _ (List.mem_append_right _ (up6 _ k0))
            wtm_at "w"
            (repeat wtm_at "lf")
            try wtm_at "uq"
            refine W.re ?_
            try wtm_at "q"
            try wtm_at "q"
            repeat wtm_at "w"
            refine W_dIn hDI' z0 ?_
            rw [hval, Option.isSome_map]
            cases hR : (R p).isSome with
            | true =>
              have ew : wordR R p = wordA p := by unfold wordR; rw [hR]; rfl
              repeat wtm_at "w"
              refine W_modA hn4 ?_
              intro tw
              repeat wtm_at "w"
              refine W_newTuple (Nat.le_trans (by simp) sL) ?_
              intro tp
              repeat wtm_at "w"
              refine W_append (by wtm_at "sel") (by omega) ?_
              (repeat wtm_at "lf")
              refine ⟨rfl, ?_⟩
              repeat wtm_at "w"
              (repeat wtm_at "lf")
              (repeat wtm_at "lf")
              refine ⟨_, [], ?_, j2.i ⟨_, wks + 1, (tp, tupO [.str (wordR R p) tw] 0) :: X3, _, by rw [htk]; exact .snoc hWL2, rfl, rfl⟩⟩
              rw [ew]
              wtm_at "perm"
            | false =>
              have ew : wordR R p = wordB p := by unfold wordR; rw [hR]; rfl
              repeat wtm_at "w"
              refine W_modB hn4 ?_
              intro tw
              repeat wtm_at "w"
              refine W_newTuple (Nat.le_trans (by simp) sL) ?_
              intro tp
              repeat wtm_at "w"
              refine W_append (by wtm_at "sel") (by omega) ?_
              (repeat wtm_at "lf")
              refine ⟨rfl, ?_⟩
              repeat wtm_at "w"
              (repeat wtm_at "lf")
              (repeat wtm_at "lf")
              refine ⟨_, [], ?_, j2.i ⟨_, wks + 1, (tp, tupO [.str (wordR R p) tw] 0) :: X3, _, by rw [htk]; exact .snoc hWL2, rfl, rfl⟩⟩
              rw [ew]
              wtm_at "perm"
          · intro m3 n3 hj
            obtain ⟨wvs, wks, X3, oa', hWL2, rfl, rfl⟩ := j2.e hj
            rw [lnv, List.take_length] at hWL2
            (repeat wtm_at "lf")
            (repeat wtm_at "lf")
            exact ⟨rfl, p3.i ⟨wvs, wks, X3, oa', hWL2, rfl, rfl⟩⟩
        · intro m3 n3 hp
          obtain ⟨wvs, wks, X3, oa', hWL2, rfl, rfl⟩ := p3.e hp
          clear hp
          have up7 : ∀ q ∈ B6, q ∈ (wl, listO wvs wks) :: (X3 ++ B6) := fun q hq => .tail _ (List.mem_append_right _ hq)
          have kX3 : ∀ q ∈ X3, q ∈ (wl, listO wvs wks) :: (X3 ++ B6) := fun q hq => .tail _ (List.mem_append_left _ hq)
          have kwl : (wl, listO wvs wks) ∈ (wl, listO wvs wks) :: (X3 ++ B6) := .head _
          obtain ⟨x2, hp2⟩ : ∃ x2, ((wl, listO wvs wks) :: (X3 ++ B6)).Perm (((226, tabObj ps') :: (X' ++ rest)) ++ x2) := ⟨x1 ++ (wl, listO wvs wks) :: X3, ((hp1.append_left X3).cons _).trans (by wtm_at "perm")⟩
          generalize (wl, listO wvs wks) :: (X3 ++ B6) = B7 at *
          have up57 : ∀ q ∈ B5, q ∈ B7 := fun q hq => up7 _ (up6 _ hq)
          have hG7 := hG6.mono up7
          repeat wtm_at "w"
          refine W_itemT (n := 1) (up57 _ kt) (by rfl) rfl ?_
          have lgv : gvs.length = nodes.length := by have := hG7.len; simpa using this
          have lgs : ((List.range nodes.length).map (grpF R nodes)).length = nodes.length := by simp
          have hG7' := hG7
          have hgrl : ∀ l ∈ (List.range nodes.length).map (grpF R nodes), l.length ≤ 60 := by
            intro l hl
            obtain ⟨q, _, rfl⟩ := List.mem_map.mp hl
            exact Nat.le_trans (List.length_filter_le ..) (by omega)
          generalize hgs : (List.range nodes.length).map (grpF R nodes) = gsA at *
          refine W_ListComp (n := gvs.length) (I := fun _ => listIt gl) (V := fun i v => gvs[i]? = some v) (C₀ := fun v n₁ => (gl, listO gvs gks) ∈ n₁) (C := fun _ n₁ => (gl, listO gvs gks) ∈ n₁) hN hh2 [] [] (CompOk.of (by show compOk _ ["group"] [] [] = true; decide +kernel)) (by simp) (by decide)
            (fun v j zs n₁ => GR B7 ((gsA.take j).filter fun g => g.length != 0) zs ∧ n₁ = B7) (by omega) ?_ ?_ ?_ ?_
          · repeat wtm_at "w"
            (repeat wtm_at "lf")
            exact ⟨rfl, iter_list, up7 _ kgl, .nil, rfl⟩
          · intro v j ys n₁ hj91
            try wtm_at "q"
            obtain ⟨_, rfl⟩ := hj91
            exact up7 _ kgl
          · intro vv Ca2 it2 D3 k3' j v zs n₁ hj hv hj91 hEv2
            try wtm_at "q"
            obtain ⟨hzs, rfl⟩ := hj91
            have hj2 : j < gsA.length := by omega
            obtain ⟨gg, ll, lv, e, q1, rfl, q3, q4⟩ := hG7.get hv
            have e2 : gsA[j] = gg := by rw [List.getElem?_eq_getElem hj2] at q1; exact Option.some.inj q1
            have lgg := hgrl gg (e2 ▸ List.getElem_mem hj2)
            have llv : lv.length = gg.length := by have := q4.length; simpa using this
            refine W_tests1 ?_
            repeat wtm_at "w"
            refine W_truthyL q3 (by omega) ?_
            rw [llv]
            (repeat wtm_at "lf")
            split
            · rename_i hc
              repeat wtm_at "w"
              (repeat wtm_at "lf")
              rw [filterL_step _ _ _ hj2, e2, if_pos hc]
              exact ⟨⟨_, rfl⟩, .snoc hzs q3 q4, rfl⟩
            · rename_i hc
              (repeat wtm_at "lf")
              rw [filterL_step _ _ _ hj2, e2, if_neg hc, List.append_nil]
              exact ⟨⟨_, rfl⟩, hzs, rfl⟩
          · intro vv D3 k3' zs n₁ hj91
            try wtm_at "q"
            obtain ⟨hzs, rfl⟩ := hj91
            rw [List.take_of_length_le (by omega), ← hgs, ← O.gs] at hzs
            have hg1 : GR ((D3, listO zs k3') :: n₁) st.gs gv := hGA.gr fun q hq => .tail _ (up57 _ (kX q (List.mem_append_right _ (List.mem_append_left _ hq))))
            obtain ⟨el, ee⟩ := hg1.eqs (hzs.mono fun q hq => .tail _ hq)
            refine W_neEq (n := 1) (.tail _ (up57 _ kg)) (.head _) el ee (by omega) ?_
            repeat wtm_at "w"
            refine W_itemT (n := 2) (.tail _ (up57 _ kt)) (by rfl) rfl ?_
            repeat wtm_at "w"
            obtain ⟨el2, ee2⟩ := WL.eqs (news := (D3, listO zs k3') :: n₁) hWL hWL2 (fun q hq => .tail _ (up57 _ (kX q (List.mem_append_right _ (List.mem_append_right _ (List.mem_append_left _ hq)))))) (fun q hq => .tail _ (kX3 q hq)) O.wd
            refine W_neEq (n := 1) (.tail _ (up57 _ kw)) (.tail _ kwl) el2 ee2 (by omega) ?_
            repeat wtm_at "w"
            refine W_itemT (n := 0) (.tail _ (up57 _ kt)) (by rfl) rfl ?_
            have y2 := up57 _ k2
            have y4 := up57 _ k4
            have lys : ys.length = (twF pw nodes).length := by have := hys2.length; simpa using this
            repeat wtm_at "w"
            refine ring_c (by omega) hh2 hRA (fun q hq => .tail _ (up57 _ (kX q (List.mem_append_left _ hq)))) (hP5.mono fun q hq => .tail _ (up57 _ hq)) hp4 (.tail _ (up57 _ kD)) lys (by omega) O.ring ?_
            (repeat wtm_at "lf")
            (repeat wtm_at "lf")
            refine ⟨_, x2 ++ [(D3, listO zs k3')], ?_, _, List.Sublist.refl _, h _ _ hT'⟩
            exact (hp2.cons _).trans (by wtm_at "perm")

noncomputable def runChk (nodes : List Nat) (rs : List PN) (res : Option (List Nat)) (st : RSt) : Bool :=
  okB rs && (closedB rs && ((match res with | none => true | some ring => ring.length != 0 && decide (ring.length ≤ 1000)) && (!st.act && (okB st.rs && ((nodes.all fun n => decide (n ∈ st.rs.map (·.node)) && (decide (n < 4) && (decide (0 ≤ npOf st.rs n) || decide (npOf st.rs n = -2)))) && (decide (nodes.length ≤ 100) && decide (st.gs.length ≤ 100)))))))
noncomputable def runAll (below : List (List Nat)) (nodes : List Nat) : Option (List PN × Option (List Nat) × RSt) :=
  match addAll below nodes nodes [] with
  | none => none
  | some rs => match fcF rs 100 [] (rs.map (·.node)) with
    | none => none
    | some res => match runN nodes.length ⟨rs, rdyP rs, 0, 0, []⟩ with
      | none => none
      | some st => if runChk nodes rs res st then some (rs, res, st) else none
theorem runAll_ok {below : List (List Nat)} {nodes : List Nat} {rs : List PN} {res : Option (List Nat)} {st : RSt} (h : runAll below nodes = some (rs, res, st)) : RunOk below nodes rs res st := by
  unfold runAll at h
  split at h
  · cases h
  · rename_i rs' e1
    split at h
    · cases h
    · rename_i res' e2
      split at h
      · cases h
      · rename_i st' e3
        split at h
        · rename_i hc
          obtain ⟨rfl, rfl, rfl⟩ : rs' = rs ∧ res' = res ∧ st' = st := by simpa using h
          unfold runChk at hc
          simp only [Bool.and_eq_true, Bool.or_eq_true, List.all_eq_true, decide_eq_true_eq, Bool.not_eq_true'] at hc
          obtain ⟨c1, c2, c3, c4, c5, c6, c7, c8⟩ := hc
          refine ⟨e1, c1, c2, e2, ?_, e3, c4, c5, fun n hn => c6 n hn, c7, c8⟩
          rintro ring rfl
          simp only [Bool.and_eq_true, decide_eq_true_eq, bne_iff_ne] at c3
          exact ⟨fun e => c3.1 (by rw [e]; rfl), c3.2⟩
        · cases h
noncomputable abbrev Mx := Nat → Nat → Bool
noncomputable def twM (M : Mx) (nodes : List Nat) : List Nat := nodes.filter fun n => decide ((nodes.filter fun o => M o n && M n o).length > 1)
noncomputable def partsM (M : Mx) (nodes : List Nat) (n : Nat) : List Nat := nodes.filter fun o => o != n && M o n
noncomputable def cleanM (M : Mx) (nodes : List Nat) (n : Nat) : Bool := ((partsM M nodes n ++ [n]).filter fun o => (twM M nodes).any (· == o)).length == 0
noncomputable def bStep (M : Mx) (x : Nat) (st : List (List Nat)) (y : Nat) : List (List Nat) :=
  let s1 := if M y x then st.set x (st.getD x [] ++ [y]) else st
  if M x y then s1.set y (s1.getD y [] ++ [x]) else s1
noncomputable def bIn (M : Mx) (x j : Nat) (st : List (List Nat)) : List (List Nat) := (List.range j).foldl (bStep M x) st
noncomputable def bOut (M : Mx) (i : Nat) : List (List Nat) := (List.range i).foldl (fun st x => bIn M x x st) [[], [], [], []]
noncomputable abbrev belowM (M : Mx) : List (List Nat) := bOut M 4
noncomputable def firstsM (M : Mx) : List Nat := [0, 1, 2, 3].filter fun i => ([0, 1, 2, 3].filter fun j => decide (j < i) && (M i j && M j i)).length == 0
noncomputable def ringM (M : Mx) (tw : List Nat) : Option (List Nat) → Bool
  | none => tw.length == 0
  | some ring => tw.length != 0 && (decide (3 ≤ ring.length) && (decide (ring.length ≤ 100) && ((ring.getD 0 0 == ring.getD (ring.length - 1) 0) && ring.all fun n => decide (n < 4) && (M n (ring.getD 0 0) && (M (ring.getD 0 0) n && (ring.drop 1).count n == 1)))))
noncomputable def rankM (gs : List (List Nat)) (n : Nat) : Option Nat := gs.findIdx? fun g => g.any (· == n)
noncomputable def rightM (M : Mx) (nodes : List Nat) : Bool :=
  match runAll (belowM M) nodes with
  | none => false
  | some (_, res, st) =>
    ringM M (twM M nodes) res && ((nodes.all fun n =>
      (if cleanM M nodes n then ((partsM M nodes n).all fun o => cleanM M nodes o && !M n o) &&
        (match rankM st.gs n with
        | none => false
        | some r => ((partsM M nodes n).all fun o => match rankM st.gs o with | none => false | some q => decide (q < r)) && (r == 0 || (partsM M nodes n).any fun o => rankM st.gs o == some (r - 1)))
      else rankM st.gs n == none) && (decide (0 ≤ npOf st.rs n) == !(rankM st.gs n).isSome)) &&
      decide (st.gs = ((List.range nodes.length).map (grpF (rankM st.gs) nodes)).filter fun g => g.length != 0))
noncomputable def transM (M : Mx) : Bool := [0, 1, 2, 3].all fun i => [0, 1, 2, 3].all fun j => !M i j || [0, 1, 2, 3].all fun k => !M j k || M i k
noncomputable def checkM (M : Mx) : Bool := !transM M || (rightM M [0, 1, 2, 3] && (firstsM M == [0, 1, 2, 3] || rightM M (firstsM M)))
noncomputable def mxOf (l : List Bool) : Mx := fun i j => i == j || l.getD (if j < i then 3 * i + j else 3 * i + j - 1) false
noncomputable def allB : Nat → List Bool → (List Bool → Bool) → Bool
  | 0, l, p => p l
  | n + 1, l, p => allB n (true :: l) p && allB n (false :: l) p
theorem allB_ok (p : List Bool → Bool) : ∀ (n : Nat) (l : List Bool), allB n l p = true → ∀ t : List Bool, t.length = n → p (t.reverse ++ l) = true
  | 0, l, h, t, ht => by
    rw [List.length_eq_zero_iff.mp ht]; exact h
  | n + 1, l, h, t, ht => by
    unfold allB at h
    rw [Bool.and_eq_true] at h
    cases t with
    | nil => cases ht
    | cons b t =>
      rw [List.reverse_cons, List.append_assoc]
      cases b with
      | true => exact allB_ok p n _ h.1 t (by simpa using ht)
      | false => exact allB_ok p n _ h.2 t (by simpa using ht)

noncomputable def leP (a b : List Nat) : Bool := ((List.range 3).filter fun k => decide (a.getD k 0 > b.getD k 0)).length == 0
noncomputable def mxP (pw : List (List Nat)) : Mx := fun i j => leP (pw.getD i []) (pw.getD j [])
theorem leP_iff {a b : List Nat} : leP a b = true ↔ a.getD 0 0 ≤ b.getD 0 0 ∧ a.getD 1 0 ≤ b.getD 1 0 ∧ a.getD 2 0 ≤ b.getD 2 0 := by
  unfold leP
  rw [beq_iff_eq, List.length_eq_zero_iff, List.filter_eq_nil_iff]
  constructor
  · intro h
    have h0 := h 0 (by decide)
    have h1 := h 1 (by decide)
    have h2 := h 2 (by decide)
    simp only [decide_eq_true_eq] at h0 h1 h2
    omega
  · rintro ⟨h0, h1, h2⟩ k hk
    have hk := List.mem_range.mp hk
    rw [decide_eq_true_eq]
    rcases (by omega : k = 0 ∨ k = 1 ∨ k = 2) with rfl | rfl | rfl <;> omega
theorem len3 {a : List Nat} (h : a.length = 3) : ∃ x y z, a = [x, y, z] := by
  match a, h with
  | [x, y, z], _ => exact ⟨x, y, z, rfl⟩
theorem leP_eq {a b : List Nat} (ha : a.length = 3) (hb : b.length = 3) : (leP a b = true ∧ leP b a = true) ↔ a = b := by
  obtain ⟨x, y, z, rfl⟩ := len3 ha
  obtain ⟨x', y', z', rfl⟩ := len3 hb
  rw [leP_iff, leP_iff]
  simp
  omega
theorem leP_sum {a b : List Nat} (ha : a.length = 3) (hb : b.length = 3) (h : leP a b = true) (hn : leP b a = false) : a.sum < b.sum := by
  have hn2 : ¬ leP b a = true := by rw [hn]; decide
  obtain ⟨x, y, z, rfl⟩ := len3 ha
  obtain ⟨x', y', z', rfl⟩ := len3 hb
  rw [leP_iff] at h hn2
  simp at h hn2 ⊢
  omega
theorem leP_trans {a b c : List Nat} (h1 : leP a b = true) (h2 : leP b c = true) : leP a c = true := by
  rw [leP_iff] at *
  omega
noncomputable def MxOk (M : Mx) (pw : List (List Nat)) : Prop := ∀ i j, i < 4 → j < 4 → M i j = mxP pw i j
theorem parts_m {M : Mx} {pw : List (List Nat)} {nodes : List Nat} (hM : MxOk M pw) (h4 : ∀ n ∈ nodes, n < 4) {n : Nat} (hn : n < 4) : partsF pw nodes n = partsM M nodes n := by
  unfold partsF partsM
  refine List.filter_congr fun o ho => ?_
  congr 1
  rw [hM o n (h4 o ho) hn]
  show _ = leP _ _
  unfold leP
  have : (fun k => decide ((pw.getD o []).getD k 0 > (pw.getD n []).getD k 0)) = pwBig pw o n := rfl
  rw [this]
  cases ((List.range 3).filter (pwBig pw o n)).length <;> rfl
theorem tw_m {M : Mx} {pw : List (List Nat)} {nodes : List Nat} (hM : MxOk M pw) (h4 : ∀ n ∈ nodes, n < 4) (hw : ∀ n ∈ nodes, (pw.getD n []).length = 3) : twF pw nodes = twM M nodes := by
  unfold twF twM
  refine List.filter_congr fun n hn => ?_
  congr 2
  rw [List.count_eq_countP, List.countP_map, List.countP_eq_length_filter]
  rw [show nodes.filter ((fun x => x == pw.getD n []) ∘ fun o => pw.getD o []) = nodes.filter fun o => M o n && M n o from List.filter_congr fun o ho => by
    rw [Bool.eq_iff_iff, Bool.and_eq_true, hM o n (h4 o ho) (h4 n hn), hM n o (h4 n hn) (h4 o ho)]
    show (pw.getD o [] == pw.getD n []) = true ↔ leP _ _ = true ∧ leP _ _ = true
    rw [beq_iff_eq, leP_eq (hw o ho) (hw n hn)]]
theorem clean_m {M : Mx} {pw : List (List Nat)} {nodes : List Nat} (hM : MxOk M pw) (h4 : ∀ n ∈ nodes, n < 4) (hw : ∀ n ∈ nodes, (pw.getD n []).length = 3) {n : Nat} (hn : n < 4) : cleanF pw nodes n = cleanM M nodes n := by
  unfold cleanF cleanM
  rw [parts_m hM h4 hn, tw_m hM h4 hw]
theorem ring_m {M : Mx} {pw : List (List Nat)} (hM : MxOk M pw) (h4 : pw.length = 4) (hw : ∀ l ∈ pw, l.length = 3) {tw : List Nat} {res : Option (List Nat)} (h : ringM M tw res = true) : ringGood pw tw res = true := by
  have hg : ∀ n, n < 4 → (pw.getD n []).length = 3 := fun n hn => by
    have e : pw.getD n [] = pw[n] := by simp [show n < pw.length by omega]
    rw [e]; exact hw _ (List.getElem_mem _)
  cases res with
  | none => exact h
  | some ring =>
    unfold ringM at h
    unfold ringGood
    simp only [Bool.and_eq_true, decide_eq_true_eq, beq_iff_eq, List.all_eq_true, bne_iff_ne] at h ⊢
    obtain ⟨h1, h2, h3, h5, h6⟩ := h
    refine ⟨h1, h2, h3, h5, fun n hn => ?_⟩
    obtain ⟨a, b, c, e⟩ := h6 n hn
    have h0 : ring.getD 0 0 ∈ ring := by
      cases ring with
      | nil => simp at h2
      | cons x l => simp
    have a0 := (h6 _ h0).1
    rw [hM _ _ a a0] at b
    rw [hM _ _ a0 a] at c
    exact ⟨by omega, (leP_eq (hg n a) (hg _ a0)).mp ⟨b, c⟩, e⟩
/- the check of a matrix, as RightOk -/
theorem right_m {M : Mx} {pw : List (List Nat)} {nodes : List Nat} (hM : MxOk M pw) (h4 : pw.length = 4) (hw : ∀ l ∈ pw, l.length = 3) (hn : ∀ n ∈ nodes, n < 4) (nd : nodes.Nodup) (nl : nodes.length < 60) (h : rightM M nodes = true) :
    ∃ R rs res st, RightOk (belowM M) pw nodes R rs res st := by
  have hg : ∀ n ∈ nodes, (pw.getD n []).length = 3 := fun n hm => by
    have := hn n hm
    have e : pw.getD n [] = pw[n] := by simp [show n < pw.length by omega]
    rw [e]; exact hw _ (List.getElem_mem _)
  unfold rightM at h
  split at h
  · cases h
  · rename_i rs res st er
    simp only [Bool.and_eq_true, List.all_eq_true, decide_eq_true_eq] at h
    obtain ⟨h1, h2, h3⟩ := h
    refine ⟨rankM st.gs, rs, res, st, runAll_ok er, ring_m hM h4 hw (by rw [tw_m hM hn hg]; exact h1), hw, by omega, nd, nl, fun n hm => by have := hn n hm; omega, ?_, ?_, ?_, h3, ?_⟩
    · intro n hm hc o ho
      have q := (h2 n hm).1
      rw [clean_m hM hn hg (hn n hm)] at hc
      rw [if_pos hc, Bool.and_eq_true, List.all_eq_true] at q
      rw [parts_m hM hn (hn n hm)] at ho
      have q1 := q.1 o ho
      rw [Bool.and_eq_true] at q1
      have ho' := List.mem_filter.mp ho
      have ho4 := hn o ho'.1
      rw [clean_m hM hn hg ho4]
      refine ⟨q1.1, leP_sum (hg o ho'.1) (hg n hm) ?_ ?_⟩
      · have := ho'.2; rw [Bool.and_eq_true, hM o n ho4 (hn n hm)] at this; exact this.2
      · have := q1.2
        rw [Bool.not_eq_true', hM n o (hn n hm) ho4] at this
        exact this
    · intro n hm hc
      have q := (h2 n hm).1
      rw [clean_m hM hn hg (hn n hm)] at hc
      rw [if_pos hc, Bool.and_eq_true] at q
      have q2 := q.2
      rw [parts_m hM hn (hn n hm)]
      split at q2
      · cases q2
      · rename_i r er2
        rw [Bool.and_eq_true, List.all_eq_true, Bool.or_eq_true, List.any_eq_true] at q2
        refine ⟨r, er2, fun o ho => ?_, ?_⟩
        · have := q2.1 o ho
          split at this
          · cases this
          · rename_i q eq
            exact ⟨q, eq, by simpa using this⟩
        · rcases q2.2 with e | ⟨o, ho, e⟩
          · exact .inl (by simpa using e)
          · exact .inr ⟨o, ho, by simpa using e⟩
    · intro n hm hc
      have q := (h2 n hm).1
      rw [clean_m hM hn hg (hn n hm)] at hc
      rw [if_neg (by rw [hc]; decide)] at q
      simpa using q
    · intro n hm
      have q := (h2 n hm).2
      rw [beq_iff_eq] at q
      unfold wordF wordR
      cases hr : (rankM st.gs n).isSome with
      | true =>
        rw [hr] at q
        rw [if_neg (by simpa using q), if_pos rfl]
      | false =>
        rw [hr] at q
        rw [if_pos (by simpa using q), if_neg (by decide)]
theorem leP_refl (a : List Nat) : leP a a = true := leP_iff.mpr ⟨Nat.le_refl _, Nat.le_refl _, Nat.le_refl _⟩
noncomputable def bitsM (M : Mx) : List Bool := [M 0 1, M 0 2, M 0 3, M 1 0, M 1 2, M 1 3, M 2 0, M 2 1, M 2 3, M 3 0, M 3 1, M 3 2]
theorem mxOf_ok (pw : List (List Nat)) : MxOk (mxOf (bitsM (mxP pw))) pw := by
  intro i j hi hj
  have r : ∀ i, mxP pw i i = true := fun i => leP_refl _
  rcases (by omega : i = 0 ∨ i = 1 ∨ i = 2 ∨ i = 3) with rfl | rfl | rfl | rfl <;> rcases (by omega : j = 0 ∨ j = 1 ∨ j = 2 ∨ j = 3) with rfl | rfl | rfl | rfl <;> first | rfl | (rw [r]; rfl)
theorem trans_ok {M : Mx} {pw : List (List Nat)} (hM : MxOk M pw) : transM M = true := by
  have h4 : ∀ i ∈ [0, 1, 2, 3], i < 4 := by decide
  unfold transM
  rw [List.all_eq_true]
  intro i hi
  rw [List.all_eq_true]
  intro j hj
  rw [Bool.or_eq_true, Bool.not_eq_true', List.all_eq_true]
  cases e : M i j with
  | false => exact .inl rfl
  | true =>
    refine .inr fun k hk => ?_
    rw [Bool.or_eq_true, Bool.not_eq_true']
    cases e2 : M j k with
    | false => exact .inl rfl
    | true =>
      refine .inr ?_
      rw [hM _ _ (h4 i hi) (h4 j hj)] at e
      rw [hM _ _ (h4 j hj) (h4 k hk)] at e2
      rw [hM _ _ (h4 i hi) (h4 k hk)]
      exact leP_trans e e2

theorem chk_0 : allB 8 [true, true, true, true] (fun l => checkM (mxOf l)) = true := by decide +kernel
theorem chk_1 : allB 8 [false, true, true, true] (fun l => checkM (mxOf l)) = true := by decide +kernel
theorem chk_2 : allB 8 [true, false, true, true] (fun l => checkM (mxOf l)) = true := by decide +kernel
theorem chk_3 : allB 8 [false, false, true, true] (fun l => checkM (mxOf l)) = true := by decide +kernel
theorem chk_4 : allB 8 [true, true, false, true] (fun l => checkM (mxOf l)) = true := by decide +kernel
theorem chk_5 : allB 8 [false, true, false, true] (fun l => checkM (mxOf l)) = true := by decide +kernel
theorem chk_6 : allB 8 [true, false, false, true] (fun l => checkM (mxOf l)) = true := by decide +kernel
theorem chk_7 : allB 8 [false, false, false, true] (fun l => checkM (mxOf l)) = true := by decide +kernel
theorem chk_8 : allB 8 [true, true, true, false] (fun l => checkM (mxOf l)) = true := by decide +kernel
theorem chk_9 : allB 8 [false, true, true, false] (fun l => checkM (mxOf l)) = true := by decide +kernel
theorem chk_10 : allB 8 [true, false, true, false] (fun l => checkM (mxOf l)) = true := by decide +kernel
theorem chk_11 : allB 8 [false, false, true, false] (fun l => checkM (mxOf l)) = true := by decide +kernel
theorem chk_12 : allB 8 [true, true, false, false] (fun l => checkM (mxOf l)) = true := by decide +kernel
theorem chk_13 : allB 8 [false, true, false, false] (fun l => checkM (mxOf l)) = true := by decide +kernel
theorem chk_14 : allB 8 [true, false, false, false] (fun l => checkM (mxOf l)) = true := by decide +kernel
theorem chk_15 : allB 8 [false, false, false, false] (fun l => checkM (mxOf l)) = true := by decide +kernel
theorem chk_of (b1 b2 b3 b4 : Bool) : allB 8 [b1, b2, b3, b4] (fun l => checkM (mxOf l)) = true := by
  cases b4 <;> cases b3 <;> cases b2 <;> cases b1
  · exact chk_15
  · exact chk_14
  · exact chk_13
  · exact chk_12
  · exact chk_11
  · exact chk_10
  · exact chk_9
  · exact chk_8
  · exact chk_7
  · exact chk_6
  · exact chk_5
  · exact chk_4
  · exact chk_3
  · exact chk_2
  · exact chk_1
  · exact chk_0
theorem check_all (l : List Bool) (hl : l.length = 12) : checkM (mxOf l) = true := by
  have e : l = (l.take 8).reverse.reverse ++ [l[8], l[9], l[10], l[11]] := by
    rw [List.reverse_reverse]
    refine (List.take_append_drop 8 l).symm.trans ?_
    congr 1
    refine List.ext_getElem (by simp [hl]) fun i h1 h2 => ?_
    have hi : i < 4 := by simpa using h2
    rcases (by omega : i = 0 ∨ i = 1 ∨ i = 2 ∨ i = 3) with rfl | rfl | rfl | rfl <;> simp
  rw [e]
  exact allB_ok (fun l => checkM (mxOf l)) 8 _ (chk_of l[8] l[9] l[10] l[11]) _ (by simp [hl])
theorem firsts_lt (M : Mx) : ∀ n ∈ firstsM M, n < 4 := fun n hn => by
  have := (List.mem_filter.mp hn).1
  simp only [List.mem_cons, List.not_mem_nil, or_false] at this
  omega
theorem firsts_nd (M : Mx) : (firstsM M).Nodup := List.Nodup.sublist (List.filter_sublist ..) (by decide)
theorem firsts_len (M : Mx) : (firstsM M).length ≤ 4 := List.length_filter_le _ _
/- both sorters answer right -/
theorem right_all {pw : List (List Nat)} (h4 : pw.length = 4) (hw : ∀ l ∈ pw, l.length = 3) : ∃ M, MxOk M pw ∧ (∃ R rs res st, RightOk (belowM M) pw [0, 1, 2, 3] R rs res st) ∧ ∃ R rs res st, RightOk (belowM M) pw (firstsM M) R rs res st := by
  refine ⟨mxOf (bitsM (mxP pw)), mxOf_ok pw, ?_⟩
  have hM := mxOf_ok pw
  have h := check_all (bitsM (mxP pw)) rfl
  generalize mxOf (bitsM (mxP pw)) = M at *
  unfold checkM at h
  rw [trans_ok hM] at h
  simp only [Bool.not_true, Bool.false_or, Bool.and_eq_true, Bool.or_eq_true, beq_iff_eq] at h
  have r1 := right_m hM h4 hw (nodes := [0, 1, 2, 3]) (by decide) (by decide) (by decide) h.1
  refine ⟨r1, ?_⟩
  rcases h.2 with e | e
  · rw [e]; exact r1
  · exact right_m hM h4 hw (firsts_lt M) (firsts_nd M) (by have := firsts_len M; omega) e

/- _law_blanks_go, any text with a mark -/
theorem blanks_l {d : Dy} {m : Loc} {news : Led} {E : Value → Shared → Prop} {l : List Nat} {a b : Nat} {t1 t2 t3 : Tok} {Q : Value → Loc → Led → Prop} (hr : 2 ≤ d.room) (hh : d.A.handled = none)
    (hz : l.length ≤ 1000) (ha : leadN l = a) (hb : leadN l.reverse = b) (hlt : a < l.length) (h : Q (.bool true) m news) : W d (call (.ref 190) [.str (mkS l) t1, .int a t2, .int b t3]) m news Q E := by
  have L := mkS_len l
  subst ha hb
  have r := leadN_rev hlt
  have sm := lead_sum hlt
  refine blanks_c (lead := leadN l) (trail := leadN l.reverse) hr hh (by omega) (by omega) (by omega) ?_ ?_ ?_ ?_ h
  · intro i hi
    rw [blank_mkS (by omega), leadN_at l i hi]; rfl
  · rw [blank_mkS hlt]
    exact beq_eq_false_iff_ne.mpr (leadN_end l hlt)
  · intro j hj
    rw [show ((mkS l).length : Int) - 1 - (j : Int) = ((l.length - 1 - j : Nat) : Int) by omega, blank_mkS (by omega)]
    have := leadN_at l.reverse j hj
    rw [rev_getD (by omega)] at this
    rw [this]; rfl
  · rw [show ((mkS l).length : Int) - 1 - (leadN l.reverse : Int) = ((l.length - 1 - leadN l.reverse : Nat) : Int) by omega, blank_mkS (by omega)]
    have := leadN_end l.reverse (by simpa using r)
    rw [rev_getD (by omega)] at this
    exact beq_eq_false_iff_ne.mpr this
/- _strip_padding(row, -1), any text with a mark -/
theorem strip_l {d : Dy} {m : Loc} {news : Led} {E : Value → Shared → Prop} {l : List Nat} {t1 t2 : Tok} {Q : Value → Loc → Led → Prop} (hr : 1 ≤ d.room)
    (hz : l.length ≤ 1000000) (hlt : leadN l < l.length) (h : ∀ t, Q (.str (mkS (bareF l)) t) m news) : W d (call (.ref 28) [.str (mkS l) t1, .int (-1) t2]) m news Q E := by
  have L := mkS_len l
  have r := leadN_rev hlt
  have sm := lead_sum hlt
  refine strip_c (n := -1) (lead := leadN l) (trail := leadN l.reverse) hr (by omega) (by omega) (by omega) ?_ ?_ ?_ ?_ ?_
  · intro i hi
    rw [blank_mkS (by omega), leadN_at l i hi]; rfl
  · rw [blank_mkS hlt]
    exact beq_eq_false_iff_ne.mpr (leadN_end l hlt)
  · intro j hj
    rw [show ((mkS l).length : Int) - 1 - (j : Int) = ((l.length - 1 - j : Nat) : Int) by omega, blank_mkS (by omega)]
    have := leadN_at l.reverse j hj
    rw [rev_getD (by omega)] at this
    rw [this]; rfl
  · rw [show ((mkS l).length : Int) - 1 - (leadN l.reverse : Int) = ((l.length - 1 - leadN l.reverse : Nat) : Int) by omega, blank_mkS (by omega)]
    have := leadN_end l.reverse (by simpa using r)
    rw [rev_getD (by omega)] at this
    exact beq_eq_false_iff_ne.mpr this
  · intro t
    have c1 : cutN (-1) (leadN l) = leadN l := rfl
    have c2 : cutN (-1 - (cutN (-1) (leadN l) : Nat)) (leadN l.reverse) = leadN l.reverse := by
      unfold cutN
      rw [if_pos (by omega)]
    rw [strip_mkS (by rw [c2, c1]; omega), c2, c1]
    exact h t
noncomputable def CL : List (List Nat) := [[0, 0, 0], [1, 0, 0], [0, 1, 0], [0, 0, 1], [2, 0, 0], [1, 1, 0], [1, 0, 1], [0, 2, 0], [0, 1, 1], [0, 0, 2]]
noncomputable def cnt3 (x y : Int) : List Nat := [([x, y] : List Int).count 1, ([x, y] : List Int).count 2, ([x, y] : List Int).count 3]
noncomputable def pwOf (c : Int) : List Nat := cnt3 (c.fmod 4) ((c.fdiv 4).fmod 4)
theorem fmod_lt (c : Int) {k : Nat} (hk : 0 < k) : ∃ n : Nat, c.fmod (k : Int) = (n : Int) ∧ n < k := by
  have e := Int.fmod_eq_emod_of_nonneg c (show (0 : Int) ≤ (k : Int) by omega)
  have h1 := Int.emod_nonneg c (show (k : Int) ≠ 0 by omega)
  have h2 := Int.emod_lt_of_pos c (show (0 : Int) < (k : Int) by omega)
  exact ⟨(c.fmod k).toNat, by omega, by omega⟩
theorem pwOf_cl (c : Int) : pwOf c ∈ CL := by
  obtain ⟨x, e1, h1⟩ := fmod_lt c (k := 4) (by decide)
  obtain ⟨y, e2, h2⟩ := fmod_lt (c.fdiv 4) (k := 4) (by decide)
  unfold pwOf
  have e1' : c.fmod 4 = (x : Int) := e1
  have e2' : (c.fdiv 4).fmod 4 = (y : Int) := e2
  rw [e1', e2']
  rcases (by omega : x = 0 ∨ x = 1 ∨ x = 2 ∨ x = 3) with rfl | rfl | rfl | rfl <;> rcases (by omega : y = 0 ∨ y = 1 ∨ y = 2 ∨ y = 3) with rfl | rfl | rfl | rfl <;> decide
noncomputable def wOf (p : List Nat) : Nat := (wAt p 3).toNat
noncomputable def textOf (p : List Nat) : List Nat := bitsL 20 (wOf p)
noncomputable def minP (p q : List Nat) : List Nat := [min (p.getD 0 0) (q.getD 0 0), min (p.getD 1 0) (q.getD 1 0), min (p.getD 2 0) (q.getD 2 0)]
noncomputable def rowOfP (a : Nat) (p : List Nat) (b : Nat) : List Nat := List.replicate a 32 ++ textOf p ++ List.replicate b 32
theorem cl_text : ∀ p ∈ CL, wAt p 3 = (wOf p : Int) ∧ wOf p < 2 ^ 20 ∧ p.length = 3 ∧ (p.getD 0 0 < 1000 ∧ p.getD 1 0 < 1000 ∧ p.getD 2 0 < 1000) := by decide +kernel
theorem cl_row : ∀ p ∈ CL, ∀ a ∈ [0, 1, 2], ∀ b ∈ [0, 1, 2], leadN (rowOfP a p b) = a ∧ leadN (rowOfP a p b).reverse = b ∧ a < (rowOfP a p b).length ∧ bareF (rowOfP a p b) = textOf p ∧ (rowOfP a p b).length ≤ 100 := by decide +kernel
noncomputable def comChk (p q : List Nat) : Bool := decide (minP p q ∈ CL) && ((textOf (minP p q) == textOf q) == leP q p && ((textOf (minP p q) == textOf p) == leP p q && (commonL 14 (textOf p) (textOf q) 0 == textOf (minP p q) && commonL 14 (textOf p) (textOf q) 1 == textOf (minP p q))))
theorem cl_com : ∀ p ∈ CL, ∀ q ∈ CL, comChk p q = true := by decide +kernel
theorem cl_com' {p q : List Nat} (hp : p ∈ CL) (hq : q ∈ CL) {back : Nat} (hb : back ≤ 1) : minP p q ∈ CL ∧ (textOf (minP p q) == textOf q) = leP q p ∧ (textOf (minP p q) == textOf p) = leP p q ∧ commonL 14 (textOf p) (textOf q) back = textOf (minP p q) := by
  have h := cl_com p hp q hq
  unfold comChk at h
  rw [Bool.and_eq_true, Bool.and_eq_true, Bool.and_eq_true, Bool.and_eq_true, decide_eq_true_eq, beq_iff_eq, beq_iff_eq, beq_iff_eq, beq_iff_eq] at h
  refine ⟨h.1, h.2.1, h.2.2.1, ?_⟩
  rcases (by omega : back = 0 ∨ back = 1) with rfl | rfl
  · exact h.2.2.2.1
  · exact h.2.2.2.2
theorem mkS_append (l r : List Nat) : (mkS l ++ mkS r : Str) = mkS (l ++ r) := by
  apply Str.ext'
  rw [Str.cps_append]
  simp
theorem mul_blank {a : Nat} (h : a < 3) : Txt.mul (Str.ofString " ") (a : Int) = mkS (List.replicate a 32) := by
  rcases (by omega : a = 0 ∨ a = 1 ∨ a = 2) with rfl | rfl | rfl <;> decide +kernel
theorem mkS_beq (l r : List Nat) : (mkS l == mkS r) = (l == r) := by
  rw [Bool.eq_iff_iff, beq_iff_eq, beq_iff_eq]
  exact ⟨fun h => mkS_inj h, fun h => by rw [h]⟩

theorem ints_set : ∀ {vs : List Value} {ns : List Int}, IntsAre vs ns → ∀ (j : Nat) (i : Int) (t : Tok), IntsAre (vs.set j (.int i t)) (ns.set j i)
  | _, _, .nil, _, _, _ => .nil
  | _, _, .cons n t' r, 0, i, t => .cons i t r
  | _, _, .cons n t' r, j + 1, i, t => .cons n t' (ints_set r j i t)
noncomputable abbrev ceLN : List Str := ["script", "cells", "place"]
/- _law_cells(script): four whole numbers -/
theorem cells_c {d : Dy} {m : Loc} {news : Led} {E : Value → Shared → Prop} {sl : Addr} {sv : List Value} {script : List Int} {Q : Value → Loc → Led → Prop} (hr : 1 ≤ d.room) (hh : d.A.handled = none)
    (hsl : d.base.IsList sl sv.toArray) (hsv : IntsAre sv script) (hl : script.length ≤ 1000) (h : ∀ D vs k cs, IntsAre vs cs → cs.length = 4 → Q (.ref D) m ((D, listO vs k) :: news)) :
    W d (call (.ref 162) [.ref sl]) m news Q E := by
  have sL : (3000 : Nat) ≤ sizeLine := Nat.le_of_ble_eq_true rfl
  have lsv : sv.length = script.length := hsv.length
  refine W_defBase (ps := ["script"]) (LN := ["cells", "place"]) (GN := ["range", "len"]) ceLN (by k_is) (by k_is) (Nm.of (by decide +kernel)) rfl (by omega) rfl rfl ?_
  intro d' hr' hh' hb' hN
  have hslb : d'.base.IsList sl sv.toArray := hb' ▸ hsl
  have hh2 := hh'.trans hh
  show W d' _ (Lv ceLN [some _, none, none]) _ _ _
  try wtm_at "q"
  repeat wtm_at "w"
  refine W_newList (Nat.le_trans (by simp) sL) ?_
  intro D
  repeat wtm_at "w"
  (repeat wtm_at "lf")
  try wtm_at "q"
  refine W_cut (fun m1 n1 => Ex4 fun vs k cs o => And4 (IntsAre vs cs) (cs.length = 4) (((D, listO vs k) :: news).Sublist n1) (m1 = Lv ceLN [some (.ref sl), some (.ref D), o])) ?_ ?_
  · try wtm_at "q"
    refine W_ForRange (n := script.length) (fun i m1 n1 => Ex4 fun vs k cs o => And4 (IntsAre vs cs) (cs.length = 4) (((D, listO vs k) :: news).Sublist n1) (m1 = Lv ceLN [some (.ref sl), some (.ref D), o])) (by omega) hh2 ?_ ?_ ?_ PassesOwn.never
    · repeat wtm_at "w"
      refine W_lenB hslb (by omega) ?_
      intro _
      rw [lsv]
      repeat wtm_at "w"
      (repeat wtm_at "lf")
      exact ⟨_, _, _, _, rfl, .head _, _, _, [20, 9, 134, 53], _, .cons _ _ (.cons _ _ (.cons _ _ (.cons _ _ .nil))), rfl, List.sublist_cons_self .., rfl⟩
    · intro it i t m1 n1 hi hj91
      try wtm_at "q"
      obtain ⟨vs, k, cs, o, hcs, l4, hsub, rfl⟩ := hj91
      refine W.sub ?_ hsub
      have lvs : vs.length = 4 := by have := hcs.length; omega
      obtain ⟨tz, hz⟩ := ints_at hcs (i % 4) (by omega)
      obtain ⟨ty, hy⟩ := ints_at hsv i hi
      have e1 : (i : Int).fmod 4 = ((i % 4 : Nat) : Int) := by rw [Int.fmod_eq_emod_of_nonneg _ (by decide)]; omega
      repeat wtm_at "w"
      refine W_mod (by decide) ?_
      intro _
      rw [e1]
      refine W_itemL (.head _) (by omega) hz ?_
      repeat wtm_at "w"
      refine W_itemLB hslb (by omega) hy ?_
      repeat wtm_at "w"
      refine W_mod (by decide) ?_
      intro _
      rw [e1]
      refine W_lSet .here (by omega) (by omega) ?_
      repeat wtm_at "w"
      (repeat wtm_at "lf")
      refine ⟨_, k, cs.set (i % 4) (cs.getD (i % 4) 0 + script.getD i 0), _, ?_, by simpa using l4, List.Sublist.refl _, rfl⟩
      exact ints_set hcs _ _ _
    · intro m1 n1 hj91
      try wtm_at "q"
      obtain ⟨vs, k, cs, o, hcs, l4, hsub, rfl⟩ := hj91
      (repeat wtm_at "lf")
      exact ⟨rfl, vs, k, cs, o, hcs, l4, hsub, rfl⟩
  · intro m1 n1 hj91
    try wtm_at "q"
    obtain ⟨vs, k, cs, o, hcs, l4, hsub, rfl⟩ := hj91
    repeat wtm_at "w"
    (repeat wtm_at "lf")
    exact ⟨_, hsub, h _ _ _ _ hcs l4⟩

noncomputable abbrev hoLN : List Str := ["cells", "rows", "cell", "pair", "ahead", "behind", "text", "row", "below", "common", "firsts"]
/- tuples of whole numbers, made one by one -/
inductive TA : List (List Nat) → List Value → Led → Prop
  | nil : TA [] [] []
  | snoc {gs : List (List Nat)} {vs out : List Value} {X : Led} {g : List Nat} {l : Addr} : TA gs vs X → IntsAre out (ofN g) → TA (gs ++ [g]) (vs ++ [.ref l]) ((l, tupO out 0) :: X)
theorem TA.len {gs : List (List Nat)} {vs : List Value} {X : Led} (h : TA gs vs X) : vs.length = gs.length := by
  induction h with
  | nil => rfl
  | snoc _ _ ih => simp [ih]
theorem TA.get {gs : List (List Nat)} {vs : List Value} {X : Led} (h : TA gs vs X) : ∀ (i : Nat) (l : List Nat), gs[i]? = some l → ∃ (b : Addr) (tv : List Value), vs[i]? = some (.ref b) ∧ (b, tupO tv 0) ∈ X ∧ IntsAre tv (ofN l) := by
  induction h with
  | nil => intro i l e; simp at e
  | @snoc gs vs out X g l h h1 ih =>
    intro i l' e
    have hl := h.len
    rcases Nat.lt_or_ge i gs.length with q | q
    · rw [List.getElem?_append_left q] at e
      obtain ⟨b, tv, a1, a2, a3⟩ := ih i l' e
      exact ⟨b, tv, by rw [List.getElem?_append_left (by omega)]; exact a1, .tail _ a2, a3⟩
    · have hi : i = gs.length := by
        have := (List.getElem?_eq_some_iff.mp e).1
        simp at this; omega
      subst hi
      simp at e
      subst e
      refine ⟨l, out, ?_, .head _, h1⟩
      rw [← hl]; simp
theorem TA.pow {gs : List (List Nat)} {vs : List Value} {X n : Led} {pl : Addr} {k : Nat} (h : TA gs vs X) (hp : (pl, listO vs k) ∈ n) (hs : ∀ q ∈ X, q ∈ n) : PowAt n pl gs :=
  ⟨vs, k, hp, h.len, fun i l e => by obtain ⟨b, tv, a1, a2, a3⟩ := h.get i l e; exact ⟨b, tv, a1, hs _ a2, a3⟩⟩
theorem TA.rows {gs : List (List Nat)} {vs : List Value} {X n : Led} (h : TA gs vs X) (hs : ∀ q ∈ X, q ∈ n) : RowsAre n vs (gs.map ofN) := by
  induction h with
  | nil => exact .nil
  | snoc _ h1 ih =>
    rw [List.map_append]
    exact (ih fun q hq => hs q (.tail _ hq)).append (.cons (hs _ (.head _)) h1 .nil)
/- a cell's row -/
noncomputable def aOf (c : Int) : Nat := ((c.fdiv 16).fmod 3).toNat
noncomputable def bOf (c : Int) : Nat := ((c.fdiv 48).fmod 3).toNat
noncomputable def rwOf (c : Int) : List Nat := rowOfP (aOf c) (pwOf c) (bOf c)
theorem aOf_ok (c : Int) : (c.fdiv 16).fmod 3 = (aOf c : Int) ∧ aOf c < 3 := by
  obtain ⟨x, e1, h1⟩ := fmod_lt (c.fdiv 16) (k := 3) (by decide)
  have e1' : (c.fdiv 16).fmod 3 = (x : Int) := e1
  unfold aOf; rw [e1']; exact ⟨rfl, h1⟩
theorem bOf_ok (c : Int) : (c.fdiv 48).fmod 3 = (bOf c : Int) ∧ bOf c < 3 := by
  obtain ⟨x, e1, h1⟩ := fmod_lt (c.fdiv 48) (k := 3) (by decide)
  have e1' : (c.fdiv 48).fmod 3 = (x : Int) := e1
  unfold bOf; rw [e1']; exact ⟨rfl, h1⟩
theorem rwOf_ok (c : Int) : leadN (rwOf c) = aOf c ∧ leadN (rwOf c).reverse = bOf c ∧ aOf c < (rwOf c).length ∧ bareF (rwOf c) = textOf (pwOf c) ∧ (rwOf c).length ≤ 100 := by
  have h3 : ∀ n, n < 3 → n ∈ [0, 1, 2] := fun n hn => by
    rcases (by omega : n = 0 ∨ n = 1 ∨ n = 2) with rfl | rfl | rfl <;> decide
  exact cl_row _ (pwOf_cl c) _ (h3 _ (aOf_ok c).2) _ (h3 _ (bOf_ok c).2)
theorem strs_nth : ∀ {vs : List Value} {ns : List Str}, StrsAre vs ns → ∀ {j : Nat} {y : Str}, ns[j]? = some y → ∃ t, vs[j]? = some (.str y t)
  | _, _, .nil, j, v, h => by simp at h
  | _, _, .cons i t r, j, v, h => by
    cases j with
    | zero => obtain rfl := Option.some.inj h; exact ⟨t, rfl⟩
    | succ j => exact strs_nth r (by simpa using h)
/- the four lists of below -/
noncomputable def bLed (ba : Nat → Addr) (vs : Nat → List Value) (ks : Nat → Nat) : Led := [(ba 0, listO (vs 0) (ks 0)), (ba 1, listO (vs 1) (ks 1)), (ba 2, listO (vs 2) (ks 2)), (ba 3, listO (vs 3) (ks 3))]
theorem bLed_mem {ba : Nat → Addr} {vs : Nat → List Value} {ks : Nat → Nat} {x : Nat} (h : x < 4) : (ba x, listO (vs x) (ks x)) ∈ bLed ba vs ks := by
  rcases (by omega : x = 0 ∨ x = 1 ∨ x = 2 ∨ x = 3) with rfl | rfl | rfl | rfl <;> simp [bLed]
theorem bLed_sel (ba : Nat → Addr) (vs : Nat → List Value) (ks : Nat → Nat) {x : Nat} (h : x < 4) (B : Led) : ∃ g, Sel (ba x) (listO (vs x) (ks x)) (bLed ba vs ks ++ B) g ∧ ∀ ws k', g (listO ws k') = bLed ba (fun q => if q = x then ws else vs q) (fun q => if q = x then k' else ks q) ++ B := by
  rcases (by omega : x = 0 ∨ x = 1 ∨ x = 2 ∨ x = 3) with rfl | rfl | rfl | rfl
  · exact ⟨_, .here, fun _ _ => rfl⟩
  · exact ⟨_, .there .here, fun _ _ => rfl⟩
  · exact ⟨_, .there (.there .here), fun _ _ => rfl⟩
  · exact ⟨_, .there (.there (.there .here)), fun _ _ => rfl⟩
noncomputable def BLs (st : List (List Nat)) (vs : Nat → List Value) : Prop := st.length = 4 ∧ ∀ q, q < 4 → IntsAre (vs q) (ofN (st.getD q []))
theorem BLs.add {st : List (List Nat)} {vs : Nat → List Value} (h : BLs st vs) {x y : Nat} (t : Tok) (hx : x < 4) : BLs (st.set x (st.getD x [] ++ [y])) (fun q => if q = x then vs x ++ [.int y t] else vs q) := by
  refine ⟨by simpa using h.1, fun q hq => ?_⟩
  have h1 := h.1
  dsimp only
  by_cases e : q = x
  · subst e
    rw [if_pos rfl]
    have e2 : (st.set q (st.getD q [] ++ [y])).getD q [] = st.getD q [] ++ [y] := by simp [List.getD_eq_getElem?_getD, show q < st.length by omega]
    rw [e2]
    have := (h.2 q hq).append (.cons (y : Int) t .nil)
    simpa [ofN] using this
  · rw [if_neg e]
    have e2 : (st.set x (st.getD x [] ++ [y])).getD q [] = st.getD q [] := by simp [List.getD_eq_getElem?_getD, List.getElem?_set_ne (Ne.symm e)]
    rw [e2]
    exact h.2 q hq
theorem bIn_succ (M : Mx) (x j : Nat) (st : List (List Nat)) : bIn M x (j + 1) st = bStep M x (bIn M x j st) j := by unfold bIn; rw [List.range_succ, List.foldl_append]; rfl
theorem bOut_succ (M : Mx) (i : Nat) : bOut M (i + 1) = bIn M i i (bOut M i) := by unfold bOut; rw [List.range_succ, List.foldl_append]; rfl

noncomputable abbrev firstM (M : Mx) (i : Nat) : Bool := ([0, 1, 2, 3].filter fun j => decide (j < i) && (M i j && M j i)).length == 0
theorem ofN_inj : ∀ {a b : List Nat}, ofN a = ofN b → a = b
  | [], [], _ => rfl
  | [], _ :: _, h => nomatch h
  | _ :: _, [], h => nomatch h
  | x :: a, y :: b, h => by
    have h1 : Int.ofNat x :: ofN a = Int.ofNat y :: ofN b := h
    obtain ⟨e1, e2⟩ := List.cons.inj h1
    rw [Int.ofNat.inj e1, ofN_inj e2]
theorem first_ex {α : Type} (l : List α) : ∀ i : Nat, ∃ j : Nat, j ≤ i ∧ l[j]? = l[i]? ∧ ∀ i' : Nat, i' < j → l[i']? ≠ l[i]?
  | i => by
    by_cases h : ∃ i', i' < i ∧ l[i']? = l[i]?
    · obtain ⟨i', h1, h2⟩ := h
      obtain ⟨j, a, b, c⟩ := first_ex l i'
      exact ⟨j, by omega, b.trans h2, fun q hq e => c q hq (e.trans h2.symm)⟩
    · exact ⟨i, Nat.le_refl _, rfl, fun q hq e => h ⟨q, hq, e⟩⟩
termination_by i => i
theorem first_at {M : Mx} {pw : List (List Nat)} (hM : MxOk M pw) (h4 : pw.length = 4) (hw : ∀ l ∈ pw, l.length = 3) {i : Nat} (hi : i < 4) : ∃ j, And4 (j ≤ i) (pw[j]? = some (pw.getD i [])) (∀ i', i' < j → pw[i']? ≠ some (pw.getD i [])) ((j == i) = firstM M i) := by
  have hg : ∀ n, n < 4 → pw[n]? = some (pw.getD n []) := fun n hn => by simp [show n < pw.length by omega]
  have hl : ∀ n, n < 4 → (pw.getD n []).length = 3 := fun n hn => by
    have e : pw.getD n [] = pw[n] := by simp [show n < pw.length by omega]
    rw [e]; exact hw _ (List.getElem_mem _)
  obtain ⟨j, a, b, c⟩ := first_ex pw i
  rw [hg i hi] at b c
  refine ⟨j, a, b, c, ?_⟩
  rw [Bool.eq_iff_iff, beq_iff_eq]
  unfold firstM
  rw [beq_iff_eq, List.length_eq_zero_iff, List.filter_eq_nil_iff]
  constructor
  · rintro rfl q hq
    have hq4 : q < 4 := by simp only [List.mem_cons, List.not_mem_nil, or_false] at hq; omega
    rw [Bool.and_eq_true, Bool.and_eq_true, decide_eq_true_eq]
    rintro ⟨h1, h2, h3⟩
    rw [hM _ _ hi hq4] at h2
    rw [hM _ _ hq4 hi] at h3
    have := (leP_eq (hl _ hi) (hl _ hq4)).mp ⟨h2, h3⟩
    exact c q h1 (by rw [hg q hq4, this])
  · intro h
    rcases Nat.lt_or_ge j i with q | q
    · exfalso
      have hj4 : j < 4 := by omega
      have e : pw.getD j [] = pw.getD i [] := by
        have := hg j hj4
        rw [this] at b
        exact Option.some.inj b
      refine h j (by simp only [List.mem_cons, List.not_mem_nil, or_false]; omega) ?_
      rw [Bool.and_eq_true, Bool.and_eq_true, decide_eq_true_eq, hM _ _ hi hj4, hM _ _ hj4 hi]
      refine ⟨q, ?_, ?_⟩ <;> (unfold mxP; rw [e]; exact leP_refl _)
    · omega
theorem ints3 {zs : List Value} {x y z : Nat} (h : IntsAre zs (ofN [x, y, z])) : Ex3 fun t0 t1 t2 => zs = [.int (x : Nat) t0, .int (y : Nat) t1, .int (z : Nat) t2] := by
  cases h with
  | cons _ t0 h => cases h with
    | cons _ t1 h => cases h with
      | cons _ t2 h => cases h with
        | nil => exact ⟨t0, t1, t2, rfl⟩
theorem min_nat (x y : Nat) : (if (y : Int) < (x : Int) then (y : Int) else (x : Int)) = ((min x y : Nat) : Int) := by
  split <;> omega
/- the first loop's ledger -/
noncomputable def HL (c1 c2 c3 rl pl : Addr) (o1 o2 o3 : Obj) (rvs pvs : List Value) (kr kp : Nat) (X1 B : Led) : Led := (c1, o1) :: (c2, o2) :: (c3, o3) :: (rl, listO rvs kr) :: (pl, listO pvs kp) :: (X1 ++ B)
/- _law_holds(cells), where it is -/
theorem holds_c {d : Dy} {m : Loc} {rest X : Led} {ps : Array Value} {E : Value → Shared → Prop} {cl : Addr} {cv : List Value} {kc : Nat} {cs : List Int} {Q : Value → Loc → Led → Prop} (hr : 10 ≤ d.room) (hh : d.A.handled = none)
    (hT : TabS riQ lamP ps X) (hcl : (cl, listO cv kc) ∈ rest) (hcv : IntsAre cv cs) (h4 : cs.length = 4) (h : ∀ ps' n, (226, tabObj ps') ∈ n → Q (.bool true) m n) :
    W d (call (.ref 234) [.ref cl]) m ((226, tabObj ps) :: (X ++ rest)) Q E := by
  have sL : (3000 : Nat) ≤ sizeLine := Nat.le_of_ble_eq_true rfl
  have lcv : cv.length = 4 := by have := hcv.length; omega
  obtain ⟨M, hM, ⟨R1, rs1, res1, st1, O1⟩, R2, rs2, res2, st2, O2⟩ := right_all (pw := cs.map pwOf) (by simpa using h4) (by
    intro l hl
    obtain ⟨c, _, rfl⟩ := List.mem_map.mp hl
    exact (cl_text _ (pwOf_cl c)).2.2.1)
  refine W_defCw (LN := hoLN) (GN := ["_law_text", "_law_blanks_go", "_strip_padding", "range", "_law_common", "_law_bare", "_law_run_is_right"]) (CN := ["two", "one", "powers"]) (by k_is) (by k_is) (Nm.of (by decide +kernel)) (by decide +kernel) (by omega) rfl
    (.loc (by decide +kernel) .here .nil) ?_
  intro d' hr' hh' hw'
  have hh2 := hh'.trans hh
  intro c1 o1 ho1 c2 o2 ho2 c3 o3 ho3
  intro hj91 hN
  try wtm_at "q"
  obtain ⟨outer, hO⟩ := hj91
  show W d' _ (Lv hoLN [some _, none, none, none, none, none, none, none, none, none, none]) ((c1, o1) :: (c2, o2) :: (c3, o3) :: ((226, tabObj ps) :: (X ++ rest))) _ _
  try wtm_at "q"
  try wtm_at "q"
  repeat wtm_at "w"
  refine W_newList (Nat.zero_le _) ?_
  intro pl
  repeat wtm_at "w"
  rename_i o3' ho3' _ _
  refine W_newList (Nat.zero_le _) ?_
  intro rl
  repeat wtm_at "w"
  have hclB : (cl, listO cv kc) ∈ (226, tabObj ps) :: (X ++ rest) := .tail _ (List.mem_append_right _ hcl)
  generalize hB : (226, tabObj ps) :: (X ++ rest) = B at *
  obtain ⟨P1, p1⟩ := PIs.ex (fun m1 n1 => Ex11 fun pvs kp X1 rvs kr a1 a2 a3 a4 a5 a6 => And4 (TA (cs.map pwOf) pvs X1) (StrsAre rvs (cs.map fun c => mkS (rwOf c))) (n1 = (c1, o1) :: (c2, o2) :: (c3, o3') :: (rl, listO rvs kr) :: (pl, listO pvs kp) :: (X1 ++ B)) (m1 = Lv hoLN [some (.ref cl), some (.ref rl), a1, a2, a3, a4, a5, a6, none, none, none]))
  (repeat wtm_at "lf")
  try wtm_at "q"
  refine W_cut P1 ?_ ?_
  · (repeat wtm_at "lf")
    try wtm_at "uq"
    refine W.re ?_
    try wtm_at "q"
    try wtm_at "q"
    obtain ⟨J1, j1⟩ := JIs.ex (fun i m1 n1 => Ex12 fun pvs kp X1 rvs kr a1 a2 a3 a4 a5 a6 n0 => And5 (TA ((cs.take i).map pwOf) pvs X1) (StrsAre rvs ((cs.take i).map fun c => mkS (rwOf c))) (n0.Perm n1) (n0 = (c1, o1) :: (c2, o2) :: (c3, o3') :: (rl, listO rvs kr) :: (pl, listO pvs kp) :: (X1 ++ B)) (m1 = Lv hoLN [some (.ref cl), some (.ref rl), a1, a2, a3, a4, a5, a6, none, none, none]))
    refine W_ForList (l := cl) (vs := cv) (k := kc) J1 hh2 ?_ ?_ ?_ ?_ PassesOwn.never
    · repeat wtm_at "w"
      (repeat wtm_at "lf")
      exact ⟨rfl, j1.i ⟨[], 0, [], [], 0, _, _, _, _, _, _, _, .nil, .nil, by wtm_at "perm", rfl, rfl⟩⟩
    · intro i m1 n1 hj
      try wtm_at "g"
      obtain ⟨pvs, kp, X1, rvs, kr, a1, a2, a3, a4, a5, a6, n0, _, _, hp, rfl, _⟩ := j1.e hj
      try wtm_at "ug"
      exact hp.mem_iff.mp (.tail _ (.tail _ (.tail _ (.tail _ (.tail _ (List.mem_append_right _ hclB))))))
    · intro it i v m1 n1 hi hv hj
      try wtm_at "g"
      obtain ⟨pvs, kp, X1, rvs, kr, a1, a2, a3, a4, a5, a6, n0, hTA, hSA, hp, rfl, rfl⟩ := j1.e hj
      clear hj
      have hi2 : i < cs.length := by omega
      obtain ⟨tv, htv⟩ : ∃ tv, v = .int cs[i] tv := by
        obtain ⟨z, t, e1, e2⟩ := ints_nth hcv hv
        rw [List.getElem?_eq_getElem hi2] at e1
        (repeat wtm_at "lf")
        exact ⟨t, by rw [e2, Option.some.inj e1]⟩
      have lpv : pvs.length ≤ 10 := by have := hTA.len; simp at this; omega
      have lrv : rvs.length ≤ 10 := by have := hSA.length; simp at this; omega
      obtain ⟨c, hc⟩ : ∃ c, c = cs[i] := ⟨_, rfl⟩
      rw [← hc] at htv
      subst htv
      try wtm_at "ug"
      refine W.perm ?_ hp
      wtm_at "w"
      (repeat wtm_at "lf")
      try wtm_at "uq"
      refine W.re ?_
      try wtm_at "q"
      try wtm_at "q"
      repeat wtm_at "w"
      refine W_mod (by decide) ?_
      intro tx
      repeat wtm_at "w"
      refine W_div (by decide) (PyProof.noPylong_small (by decide)) ?_
      intro _
      repeat wtm_at "w"
      refine W_mod (by decide) ?_
      intro ty
      repeat wtm_at "w"
      refine W_newList (Nat.le_trans (by simp) sL) ?_
      intro pr
      repeat wtm_at "w"
      refine W_getL PySem.F.slot_list_count PySem.F.type_list_count (.head _) ?_
      repeat wtm_at "w"
      refine W_countI (.head _) (.cons _ _ (.cons _ _ .nil)) ?_
      intro tc0
      repeat wtm_at "w"
      refine W_getL PySem.F.slot_list_count PySem.F.type_list_count (.head _) ?_
      repeat wtm_at "w"
      refine W_countI (.head _) (.cons _ _ (.cons _ _ .nil)) ?_
      intro tc1
      repeat wtm_at "w"
      refine W_getL PySem.F.slot_list_count PySem.F.type_list_count (.head _) ?_
      repeat wtm_at "w"
      refine W_countI (.head _) (.cons _ _ (.cons _ _ .nil)) ?_
      intro tc2
      have hcn : cnt3 (c.fmod 4) ((c.fdiv 4).fmod 4) = pwOf c := rfl
      unfold cnt3 at hcn
      generalize List.count 1 [c.fmod 4, (c.fdiv 4).fmod 4] = p0 at *
      generalize List.count 2 [c.fmod 4, (c.fdiv 4).fmod 4] = p1 at *
      generalize List.count 3 [c.fmod 4, (c.fdiv 4).fmod 4] = p2 at *
      try wtm_at "g"
      obtain ⟨q1, q2, q3, q4, q5, q6⟩ := cl_text _ (pwOf_cl c)
      obtain ⟨r1, r2, r3, r4, r5⟩ := rwOf_ok c
      try wtm_at "ug"
      rw [← hcn] at q1 q2 q4 q5 q6
      repeat wtm_at "w"
      refine W_newTuple (Nat.le_trans (by simp) sL) ?_
      intro tp
      repeat wtm_at "w"
      refine W_append (by wtm_at "sel") (by omega) ?_
      (repeat wtm_at "lf")
      refine ⟨rfl, ?_⟩
      repeat wtm_at "w"
      refine W_AsgSwap ["ahead", "behind"] hh2 ?_ rfl
      repeat wtm_at "w"
      refine W_div (by decide) (PyProof.noPylong_small (by decide)) ?_
      intro _
      repeat wtm_at "w"
      refine W_mod (by decide) ?_
      intro ta
      repeat wtm_at "w"
      refine W_div (by decide) (PyProof.noPylong_small (by decide)) ?_
      intro _
      repeat wtm_at "w"
      refine W_mod (by decide) ?_
      intro tb
      rw [(aOf_ok c).1, (bOf_ok c).1]
      repeat wtm_at "w"
      refine W_newTuple (Nat.le_trans (by simp) sL) ?_
      intro tq
      (repeat wtm_at "lf")
      refine ⟨_, _, _, rfl, .head _, rfl, ?_⟩
      show W (d'.hide it _) (assignInOrder [bindName _ _, bindName _ _] [_, _]) _ _ _ _
      repeat wtm_at "w"
      refine W_itemLast (vs := pvs) (v := .ref tp) (by wtm_at "lmem") ?_
      repeat wtm_at "w"
      refine text_c (p0 := p0) (p1 := p1) (p2 := p2) (by show 2 ≤ d'.room; omega) hh2 (.inr ⟨0, rfl⟩) (by wtm_at "lmem") ⟨q4, q5, q6⟩ q1 q2 ?_
      intro _
      repeat wtm_at "w"
      refine W_mulS (mulOk_of 1 10 (by decide +kernel) (by have := (aOf_ok c).2; omega) (by omega) (by omega) (by omega)) ?_
      intro _
      rw [mul_blank (aOf_ok c).2]
      repeat wtm_at "w"
      have lt := r5
      unfold rwOf rowOfP at lt
      simp only [List.length_append] at lt
      have et : bitsL 20 (wOf [p0, p1, p2]) = textOf (pwOf c) := by rw [← hcn]; rfl
      rw [et]
      refine W_addS ?_ (by rw [mkS_len, mkS_len]; exact Nat.le_trans (by omega) sL)
      intro _
      rw [mkS_append]
      repeat wtm_at "w"
      refine W_mulS (mulOk_of 1 10 (by decide +kernel) (by have := (bOf_ok c).2; omega) (by omega) (by omega) (by omega)) ?_
      intro _
      rw [mul_blank (bOf_ok c).2]
      refine W_addS ?_ (by rw [mkS_len, mkS_len, List.length_append]; exact Nat.le_trans (by omega) sL)
      intro tr
      rw [mkS_append, show List.replicate (aOf c) 32 ++ textOf (pwOf c) ++ List.replicate (bOf c) 32 = rwOf c from rfl]
      repeat wtm_at "w"
      refine blanks_l (a := aOf c) (b := bOf c) (by show 2 ≤ d'.room; omega) hh2 (by omega) r1 r2 r3 ?_
      repeat wtm_at "w"
      (repeat wtm_at "lf")
      try rw [if_neg (by simp)]
      repeat wtm_at "w"
      refine strip_l (by show 1 ≤ d'.room; omega) (by omega) (by omega) ?_
      intro _
      rw [r4]
      repeat wtm_at "w"
      rw [bne_self_eq_false]
      repeat wtm_at "w"
      refine W_append (by wtm_at "sel") (by omega) ?_
      (repeat wtm_at "lf")
      refine ⟨rfl, ?_⟩
      repeat wtm_at "w"
      have hout : IntsAre [.int (p0 : Nat) tc0, .int (p1 : Nat) tc1, .int (p2 : Nat) tc2] (ofN (pwOf c)) := by rw [← hcn]; exact .cons _ _ (.cons _ _ (.cons _ _ .nil))
      (repeat wtm_at "lf")
      (repeat wtm_at "lf")
      refine ⟨(c1, o1) :: (c2, o2) :: (c3, o3') :: (rl, listO (rvs ++ [.str (mkS (rwOf c)) tr]) (kr + 1)) :: (pl, listO (pvs ++ [.ref tp]) (kp + 1)) :: (((tp, tupO [.int (p0 : Nat) tc0, .int (p1 : Nat) tc1, .int (p2 : Nat) tc2] 0) :: X1) ++ B), [(tq, tupO [.int (aOf c) ta, .int (bOf c) tb] 0), (pr, listO [.int (c.fmod 4) tx, .int ((c.fdiv 4).fmod 4) ty] 0)], ?_, j1.i ⟨_, _, _, _, _, _, _, _, _, _, _, _, by rw [List.take_succ_eq_append_getElem hi2, List.map_append]; rw [← hc]; exact .snoc hTA hout, by rw [List.take_succ_eq_append_getElem hi2, List.map_append]; rw [← hc]; exact hSA.append' (.cons _ tr .nil), List.Perm.refl _, rfl, rfl⟩⟩
      wtm_at "perm"
    · intro m1 n1 hj
      try wtm_at "g"
      obtain ⟨pvs, kp, X1, rvs, kr, a1, a2, a3, a4, a5, a6, n0, hTA, hSA, hp, rfl, rfl⟩ := j1.e hj
      try wtm_at "ug"
      rw [lcv, ← h4, List.take_length] at hTA hSA
      (repeat wtm_at "lf")
      (repeat wtm_at "lf")
      exact ⟨_, [], hp.symm.trans (List.Perm.of_eq (List.append_nil _).symm), rfl, p1.i ⟨pvs, kp, X1, rvs, kr, a1, a2, a3, a4, a5, a6, hTA, hSA, rfl, rfl⟩⟩
  · intro m1 n1 hp
    try wtm_at "g"
    obtain ⟨pvs, kp, X1, rvs, kr, a1, a2, a3, a4, a5, a6, hTA, hSA, rfl, rfl⟩ := p1.e hp
    try wtm_at "ug"
    clear hp
    have hrow : ∀ i (hi : i < 4), ∃ t, rvs[i]? = some (.str (mkS (rwOf (cs[i]'(by omega)))) t) := fun i hi => strs_nth hSA (j := i) (by simp [show i < cs.length by omega])
    have hw3 : ∀ l ∈ cs.map pwOf, l.length = 3 := by
      intro l hl
      obtain ⟨c, _, rfl⟩ := List.mem_map.mp hl
      exact (cl_text _ (pwOf_cl c)).2.2.1
    have hpwi : ∀ i (hi : i < 4), (cs.map pwOf).getD i [] = pwOf (cs[i]'(by omega)) := fun i hi => by simp [show i < cs.length by omega]
    repeat wtm_at "w"
    refine W_newList (Nat.zero_le _) ?_
    intro b0
    repeat wtm_at "w"
    refine W_newList (Nat.zero_le _) ?_
    intro b1
    repeat wtm_at "w"
    refine W_newList (Nat.zero_le _) ?_
    intro b2
    repeat wtm_at "w"
    refine W_newList (Nat.zero_le _) ?_
    intro b3
    repeat wtm_at "w"
    refine W_newList (Nat.le_trans (by simp) sL) ?_
    intro bl
    repeat wtm_at "w"
    try wtm_at "g"
    obtain ⟨ba, hba⟩ : ∃ ba : Nat → Addr, And4 (b0 = ba 0) (b1 = ba 1) (b2 = ba 2) (b3 = ba 3) := ⟨fun q => if q = 0 then b0 else if q = 1 then b1 else if q = 2 then b2 else b3, rfl, rfl, rfl, rfl⟩
    obtain ⟨rfl, rfl, rfl, rfl⟩ := hba
    try wtm_at "ug"
    have hbi : ∀ i, i < 4 → ([.ref (ba 0), .ref (ba 1), .ref (ba 2), .ref (ba 3)] : List Value)[i]? = some (.ref (ba i)) := fun i hi => by
      rcases (by omega : i = 0 ∨ i = 1 ∨ i = 2 ∨ i = 3) with rfl | rfl | rfl | rfl <;> rfl
    generalize hbr : ([.ref (ba 0), .ref (ba 1), .ref (ba 2), .ref (ba 3)] : List Value) = brefs at *
    obtain ⟨S, hS⟩ : ∃ S, S = X1 ++ B := ⟨_, rfl⟩
    refine W.perm (n' := (c1, o1) :: (c2, o2) :: (c3, o3') :: (rl, listO rvs kr) :: (pl, listO pvs kp) :: (bl, listO brefs 0) :: (bLed ba (fun _ => []) (fun _ => 0) ++ S)) ?_ (by subst hS; unfold bLed; wtm_at "perm")
    have hX1 : ∀ q ∈ X1, q ∈ S := fun q hq => hS ▸ List.mem_append_left _ hq
    have hBB : ∀ q ∈ B, q ∈ S := fun q hq => hS ▸ List.mem_append_right _ hq
    obtain ⟨P2, p2⟩ := PIs.ex (fun m2 n2 => Ex7 fun oa ob va vb vs ks y => And6 (oa.data = .cell va) (ob.data = .cell vb) (BLs (bOut M 4) vs) (∀ q, q < 4 → (vs q).length ≤ 100) (((c1, oa) :: (c2, ob) :: (c3, o3') :: (rl, listO rvs kr) :: (pl, listO pvs kp) :: (bl, listO brefs 0) :: (bLed ba vs ks ++ S)).Sublist n2) (m2 = Lv hoLN [some (.ref cl), some (.ref rl), a1, a2, a3, a4, a5, a6, some (.ref bl), y, none]))
    (repeat wtm_at "lf")
    try wtm_at "q"
    refine W_cut P2 ?_ ?_
    · try wtm_at "q"
      obtain ⟨J2, j2⟩ := JIs.ex (fun i m2 n2 => Ex7 fun oa ob va vb vs ks y => And6 (oa.data = .cell va) (ob.data = .cell vb) (BLs (bOut M i) vs) (∀ q, q < 4 → (vs q).length ≤ 8 * i) (((c1, oa) :: (c2, ob) :: (c3, o3') :: (rl, listO rvs kr) :: (pl, listO pvs kp) :: (bl, listO brefs 0) :: (bLed ba vs ks ++ S)).Sublist n2) (m2 = Lv hoLN [some (.ref cl), some (.ref rl), a1, a2, a3, a4, a5, a6, some (.ref bl), y, none]))
      refine W_ForRange (n := 4) J2 (by omega) hh2 ?_ ?_ ?_ PassesOwn.never
      · repeat wtm_at "w"
        (repeat wtm_at "lf")
        refine ⟨_, _, _, _, rfl, .head _, j2.i ⟨o1, o2, _, _, fun _ => [], fun _ => 0, _, ho1, ho2, ⟨rfl, fun q hq => ?_⟩, fun q hq => Nat.zero_le _, List.sublist_cons_self .., rfl⟩⟩
        rcases (by omega : q = 0 ∨ q = 1 ∨ q = 2 ∨ q = 3) with rfl | rfl | rfl | rfl <;> exact .nil
      · intro it i t m2 n2 hi hj
        try wtm_at "g"
        obtain ⟨oa, ob, va, vb, vs, ks, y, hoa, hob, hBL, hlen, hsub, rfl⟩ := j2.e hj
        try wtm_at "ug"
        clear hj
        refine W.sub ?_ hsub
        obtain ⟨ti, hri⟩ := hrow i hi
        wtm_at "w"
        rename_i ob' hob'
        (repeat wtm_at "lf")
        try wtm_at "q"
        refine W_cons ?_
        try wtm_at "q"
        obtain ⟨J3, j3⟩ := JIs.ex (fun j m3 n3 => Ex5 fun oa va vs ks y => And5 (oa.data = .cell va) (BLs (bIn M i j (bOut M i)) vs) (∀ q, q < 4 → (vs q).length ≤ 8 * i + 2 * j) (((c1, oa) :: (c2, ob') :: (c3, o3') :: (rl, listO rvs kr) :: (pl, listO pvs kp) :: (bl, listO brefs 0) :: (bLed ba vs ks ++ S)).Sublist n3) (m3 = Lv hoLN [some (.ref cl), some (.ref rl), a1, a2, a3, a4, a5, a6, some (.ref bl), y, none]))
        refine W_ForRange (d := d'.hide it _) (n := i) J3 (by omega) hh2 ?_ ?_ ?_ PassesOwn.never
        · repeat wtm_at "w"
          (repeat wtm_at "lf")
          exact ⟨_, _, _, _, rfl, .head _, j3.i ⟨oa, va, vs, ks, y, hoa, hBL, hlen, List.sublist_cons_self .., rfl⟩⟩
        · intro it2 j t2 m3 n3 hj hjj
          try wtm_at "g"
          obtain ⟨oa1, va1, vs1, ks1, y1, hoa1, hBL1, hlen1, hsub1, rfl⟩ := j3.e hjj
          try wtm_at "ug"
          clear hjj
          refine W.sub ?_ hsub1
          have hj4 : j < 4 := by omega
          obtain ⟨tj, hrj⟩ := hrow j hj4
          have hpi := hpwi i hi
          have hpj := hpwi j hj4
          generalize cs[i]'(by omega) = ci at *
          generalize cs[j]'(by omega) = cj at *
          try wtm_at "g"
          obtain ⟨ri1, ri2, ri3, ri4, ri5⟩ := rwOf_ok ci
          obtain ⟨rj1, rj2, rj3, rj4, rj5⟩ := rwOf_ok cj
          obtain ⟨w1, w2, w3, w4⟩ := cl_com' (pwOf_cl ci) (pwOf_cl cj) (back := (i + j) % 2) (by omega)
          try wtm_at "ug"
          have hMji : leP (pwOf cj) (pwOf ci) = M j i := by rw [hM j i hj4 hi]; unfold mxP; rw [hpi, hpj]
          have hMij : leP (pwOf ci) (pwOf cj) = M i j := by rw [hM i j hi hj4]; unfold mxP; rw [hpi, hpj]
          rw [hMji] at w2
          rw [hMij] at w3
          have em : ((i : Int) + (j : Int)).fmod 2 = (((i + j) % 2 : Nat) : Int) := by rw [Int.fmod_eq_emod_of_nonneg _ (by decide)]; omega
          wtm_at "w"
          rename_i oa' hoa'
          try wtm_at "q"
          obtain ⟨P3, p3⟩ := PIs.ex (fun m4 n4 => ∃ tcm, n4 = (c1, oa') :: (c2, ob') :: (c3, o3') :: (rl, listO rvs kr) :: (pl, listO pvs kp) :: (bl, listO brefs 0) :: (bLed ba vs1 ks1 ++ S) ∧ m4 = Lv hoLN [some (.ref cl), some (.ref rl), a1, a2, a3, a4, a5, a6, some (.ref bl), some (.str (mkS (textOf (minP (pwOf ci) (pwOf cj)))) tcm), none])
          (repeat wtm_at "lf")
          try wtm_at "q"
          refine W_cut P3 ?_ ?_
          · try wtm_at "q"
            repeat wtm_at "w"
            refine W_itemL (by wtm_at "lmem") (by omega) hri ?_
            repeat wtm_at "w"
            refine W_itemL (by wtm_at "lmem") (by omega) hrj ?_
            repeat wtm_at "w"
            refine W_mod (by decide) ?_
            intro _
            rw [em]
            repeat wtm_at "w"
            refine common_c (by show 4 ≤ d'.room; omega) hh2 (by omega) (by omega) (by omega) ?_
            intro tcm
            rw [ri4, rj4, w4]
            repeat wtm_at "w"
            (repeat wtm_at "lf")
            (repeat wtm_at "lf")
            exact ⟨rfl, p3.i ⟨_, rfl, rfl⟩⟩
          · intro m4 n4 hp
            try wtm_at "g"
            obtain ⟨tcm, rfl, rfl⟩ := p3.e hp
            clear hp
            have hP : PowAt ((c1, oa') :: (c2, ob') :: (c3, o3') :: (rl, listO rvs kr) :: (pl, listO pvs kp) :: (bl, listO brefs 0) :: (bLed ba vs1 ks1 ++ S)) pl (cs.map pwOf) := hTA.pow (.tail _ (.tail _ (.tail _ (.tail _ (.head _))))) fun q hq => .tail _ (.tail _ (.tail _ (.tail _ (.tail _ (.tail _ (List.mem_append_right _ (hX1 q hq)))))))
            obtain ⟨P4, p4⟩ := PIs.ex (fun m5 n5 => n5 = (c1, oa') :: (c2, ob') :: (c3, o3') :: (rl, listO rvs kr) :: (pl, listO pvs kp) :: (bl, listO brefs 0) :: (bLed ba vs1 ks1 ++ S) ∧ m5 = Lv hoLN [some (.ref cl), some (.ref rl), a1, a2, a3, a4, a5, a6, some (.ref bl), some (.str (mkS (textOf (minP (pwOf ci) (pwOf cj)))) tcm), none])
            try wtm_at "ug"
            (repeat wtm_at "lf")
            try wtm_at "q"
            refine W_cut P4 ?_ ?_
            · (repeat wtm_at "lf")
              try wtm_at "uq"
              refine W.re ?_
              try wtm_at "q"
              try wtm_at "q"
              repeat wtm_at "w"
              refine W_ListCompR (d := (d'.hide it _).hide it2 _) hN hh2 ["min"] [("one", c2), ("powers", c3), ("two", c1)] (CompOk.of (by show compOk _ ["k"] ["min"] ["one", "powers", "two"] = true; decide +kernel)) (by simp) (by decide) 3
                (fun k zs n₁ => IntsAre zs (ofN ((minP (pwOf ci) (pwOf cj)).take k)) ∧ n₁ = (c1, oa') :: (c2, ob') :: (c3, o3') :: (rl, listO rvs kr) :: (pl, listO pvs kp) :: (bl, listO brefs 0) :: (bLed ba vs1 ks1 ++ S)) (by omega) ?_ ?_ ?_
              · repeat wtm_at "w"
                (repeat wtm_at "lf")
                exact ⟨rfl, ⟨_, _, _, _, rfl, .head _⟩, _, List.sublist_cons_self .., .nil, rfl⟩
              · intro Ca it3 D k3 k tk zs n₁ hk hj91 hEv
                try wtm_at "q"
                try wtm_at "g"
                obtain ⟨hzs, rfl⟩ := hj91
                obtain ⟨refs, kr1, b, bv, tb, q1, q2, q3, q4⟩ := hP.get hw3 (i := i) (by simp; omega) hk
                obtain ⟨refs', kr2, b', bv', tb', r1, r2, r3, r4⟩ := hP.get hw3 (i := j) (by simp; omega) hk
                try wtm_at "ug"
                rw [hpi] at q4
                rw [hpj] at r4
                refine W_tests0 ?_
                (repeat wtm_at "lf")
                rw [if_pos rfl]
                try wtm_at "q"
                repeat wtm_at "w"
                refine W_itemL q1 (by omega) q2 ?_
                repeat wtm_at "w"
                refine W_itemT q3 (seqIndex_in (by omega) ?_) q4 ?_
                · have := (List.getElem?_eq_some_iff.mp q4).1; omega
                repeat wtm_at "w"
                refine W_itemL r1 (by omega) r2 ?_
                repeat wtm_at "w"
                refine W_itemT r3 (seqIndex_in (by omega) ?_) r4 ?_
                · have := (List.getElem?_eq_some_iff.mp r4).1; omega
                repeat wtm_at "w"
                refine W_min hh2 ?_
                intro tmn
                rw [min_nat]
                (repeat wtm_at "lf")
                refine ⟨⟨_, rfl⟩, _, List.Sublist.refl _, ?_, rfl⟩
                have et : (minP (pwOf ci) (pwOf cj)).take (k + 1) = (minP (pwOf ci) (pwOf cj)).take k ++ [min ((pwOf ci).getD k 0) ((pwOf cj).getD k 0)] := by
                  rcases (by omega : k = 0 ∨ k = 1 ∨ k = 2) with rfl | rfl | rfl <;> rfl
                rw [et]
                have := hzs.append (.cons ((min ((pwOf ci).getD k 0) ((pwOf cj).getD k 0) : Nat) : Int) tmn .nil)
                simpa [ofN] using this
              · intro D k3 zs n₁ hj91
                try wtm_at "q"
                try wtm_at "g"
                obtain ⟨hzs, rfl⟩ := hj91
                obtain ⟨z0, z1, z2, rfl⟩ := ints3 (show IntsAre zs (ofN [min ((pwOf ci).getD 0 0) ((pwOf cj).getD 0 0), min ((pwOf ci).getD 1 0) ((pwOf cj).getD 1 0), min ((pwOf ci).getD 2 0) ((pwOf cj).getD 2 0)]) from hzs)
                obtain ⟨q1, q2, q3, q4⟩ := cl_text _ w1
                try wtm_at "ug"
                repeat wtm_at "w"
                refine text_c (d := (d'.hide it _).hide it2 _) (by show 2 ≤ d'.room; omega) hh2 (.inl ⟨_, rfl⟩) (.head _) q4 q1 q2 ?_
                intro _
                rw [show bitsL 20 (wOf (minP (pwOf ci) (pwOf cj))) = textOf (minP (pwOf ci) (pwOf cj)) from rfl]
                repeat wtm_at "w"
                rw [bne_self_eq_false]
                repeat wtm_at "w"
                (repeat wtm_at "lf")
                (repeat wtm_at "lf")
                exact ⟨_, [(D, _)], List.perm_append_comm (l₁ := [_]), rfl, p4.i ⟨rfl, rfl⟩⟩
            · intro m5 n5 hp
              obtain ⟨rfl, rfl⟩ := p4.e hp
              clear hp
              obtain ⟨P5, p5⟩ := PIs.ex (fun m5 n5 => Ex2 fun vs2 ks2 => And4 (BLs (if M j i then (bIn M i j (bOut M i)).set i ((bIn M i j (bOut M i)).getD i [] ++ [j]) else bIn M i j (bOut M i)) vs2) (∀ q, q < 4 → (vs2 q).length ≤ 8 * i + 2 * j + 1) (n5 = (c1, oa') :: (c2, ob') :: (c3, o3') :: (rl, listO rvs kr) :: (pl, listO pvs kp) :: (bl, listO brefs 0) :: (bLed ba vs2 ks2 ++ S)) (m5 = Lv hoLN [some (.ref cl), some (.ref rl), a1, a2, a3, a4, a5, a6, some (.ref bl), some (.str (mkS (textOf (minP (pwOf ci) (pwOf cj)))) tcm), none]))
              (repeat wtm_at "lf")
              try wtm_at "q"
              refine W_cut P5 ?_ ?_
              · try wtm_at "q"
                repeat wtm_at "w"
                refine W_itemL (by wtm_at "lmem") (by omega) hrj ?_
                repeat wtm_at "w"
                refine bare_l (d := (d'.hide it _).hide it2 _) (by show 2 ≤ d'.room; omega) hh2 (by omega) ?_
                intro _
                rw [rj4]
                repeat wtm_at "w"
                rw [mkS_beq, w2]
                cases hMM : M j i with
                | false =>
                  repeat wtm_at "w"
                  (repeat wtm_at "lf")
                  (repeat wtm_at "lf")
                  exact ⟨rfl, p5.i ⟨vs1, ks1, by rw [hMM]; exact hBL1, fun q hq => by have := hlen1 q hq; omega, rfl, rfl⟩⟩
                | true =>
                  have hmem : (ba i, listO (vs1 i) (ks1 i)) ∈ (c1, oa') :: (c2, ob') :: (c3, o3') :: (rl, listO rvs kr) :: (pl, listO pvs kp) :: (bl, listO brefs 0) :: (bLed ba vs1 ks1 ++ S) := .tail _ (.tail _ (.tail _ (.tail _ (.tail _ (.tail _ (List.mem_append_left _ (bLed_mem hi)))))))
                  obtain ⟨gs, hsel, hgs⟩ := bLed_sel ba vs1 ks1 hi S
                  have hl1 := hlen1 i hi
                  repeat wtm_at "w"
                  refine W_itemL (by wtm_at "lmem") (by omega) (hbi i hi) ?_
                  refine W_getL PySem.F.slot_list_append PySem.F.type_list_append hmem ?_
                  repeat wtm_at "w"
                  refine W_append (.there (.there (.there (.there (.there (.there hsel)))))) (by omega) ?_
                  (repeat wtm_at "lf")
                  refine ⟨rfl, ?_⟩
                  repeat wtm_at "w"
                  rw [hgs]
                  (repeat wtm_at "lf")
                  (repeat wtm_at "lf")
                  refine ⟨rfl, p5.i ⟨_, _, by rw [hMM]; exact hBL1.add _ hi, fun q hq => ?_, rfl, rfl⟩⟩
                  split
                  · simp; omega
                  · have := hlen1 q hq; omega
              · intro m5 n5 hp
                try wtm_at "g"
                obtain ⟨vs2, ks2, hBL2, hlen2, rfl, rfl⟩ := p5.e hp
                clear hp
                have hst : bIn M i (j + 1) (bOut M i) = if M i j then (if M j i then (bIn M i j (bOut M i)).set i ((bIn M i j (bOut M i)).getD i [] ++ [j]) else bIn M i j (bOut M i)).set j ((if M j i then (bIn M i j (bOut M i)).set i ((bIn M i j (bOut M i)).getD i [] ++ [j]) else bIn M i j (bOut M i)).getD j [] ++ [i]) else (if M j i then (bIn M i j (bOut M i)).set i ((bIn M i j (bOut M i)).getD i [] ++ [j]) else bIn M i j (bOut M i)) := by
                  rw [bIn_succ]; rfl
                obtain ⟨s1, hs1⟩ : ∃ s1, s1 = (if M j i then (bIn M i j (bOut M i)).set i ((bIn M i j (bOut M i)).getD i [] ++ [j]) else bIn M i j (bOut M i)) := ⟨_, rfl⟩
                try wtm_at "ug"
                rw [← hs1] at hst hBL2
                repeat wtm_at "w"
                refine W_itemL (by wtm_at "lmem") (by omega) hri ?_
                repeat wtm_at "w"
                refine bare_l (d := (d'.hide it _).hide it2 _) (by show 2 ≤ d'.room; omega) hh2 (by omega) ?_
                intro _
                rw [ri4]
                repeat wtm_at "w"
                rw [mkS_beq, w3]
                cases hMM : M i j with
                | false =>
                  repeat wtm_at "w"
                  (repeat wtm_at "lf")
                  exact j3.i ⟨oa', _, vs2, ks2, _, hoa', by rw [hst, hMM]; exact hBL2, fun q hq => by have := hlen2 q hq; omega, List.Sublist.refl _, rfl⟩
                | true =>
                  have hmem : (ba j, listO (vs2 j) (ks2 j)) ∈ (c1, oa') :: (c2, ob') :: (c3, o3') :: (rl, listO rvs kr) :: (pl, listO pvs kp) :: (bl, listO brefs 0) :: (bLed ba vs2 ks2 ++ S) := .tail _ (.tail _ (.tail _ (.tail _ (.tail _ (.tail _ (List.mem_append_left _ (bLed_mem hj4)))))))
                  obtain ⟨gs, hsel, hgs⟩ := bLed_sel ba vs2 ks2 hj4 S
                  have hl2 := hlen2 j hj4
                  repeat wtm_at "w"
                  refine W_itemL (by wtm_at "lmem") (by omega) (hbi j hj4) ?_
                  refine W_getL PySem.F.slot_list_append PySem.F.type_list_append hmem ?_
                  repeat wtm_at "w"
                  refine W_append (.there (.there (.there (.there (.there (.there hsel)))))) (by omega) ?_
                  (repeat wtm_at "lf")
                  refine ⟨rfl, ?_⟩
                  repeat wtm_at "w"
                  rw [hgs]
                  (repeat wtm_at "lf")
                  refine j3.i ⟨oa', _, _, _, _, hoa', by rw [hst, hMM]; exact hBL2.add _ hj4, fun q hq => ?_, List.Sublist.refl _, rfl⟩
                  split
                  · simp; omega
                  · have := hlen2 q hq; omega
        · intro m3 n3 hjj
          try wtm_at "g"
          obtain ⟨oa1, va1, vs1, ks1, y1, hoa1, hBL1, hlen1, hsub1, rfl⟩ := j3.e hjj
          try wtm_at "ug"
          (repeat wtm_at "lf")
          repeat wtm_at "w"
          refine j2.i ⟨oa1, ob', va1, _, vs1, ks1, y1, hoa1, hob', by rw [bOut_succ]; exact hBL1, fun q hq => ?_, hsub1, rfl⟩
          have := hlen1 q hq; omega
      · intro m2 n2 hj
        try wtm_at "g"
        obtain ⟨oa, ob, va, vb, vs, ks, y, hoa, hob, hBL, hlen, hsub, rfl⟩ := j2.e hj
        try wtm_at "ug"
        (repeat wtm_at "lf")
        (repeat wtm_at "lf")
        exact ⟨rfl, p2.i ⟨oa, ob, va, vb, vs, ks, y, hoa, hob, hBL, fun q hq => by have := hlen q hq; omega, hsub, rfl⟩⟩
    · intro m2 n2 hp
      try wtm_at "g"
      obtain ⟨oa, ob, va, vb, vs, ks, y, hoa, hob, hBL, hlen, hsub, rfl⟩ := p2.e hp
      try wtm_at "ug"
      clear hp
      refine W.sub ?_ hsub
      have hlen4 : (cs.map pwOf).length = 4 := by simpa using h4
      have hXL : ∀ q ∈ X1, q ∈ (c1, oa) :: (c2, ob) :: (c3, o3') :: (rl, listO rvs kr) :: (pl, listO pvs kp) :: (bl, listO brefs 0) :: (bLed ba vs ks ++ S) := fun q hq => .tail _ (.tail _ (.tail _ (.tail _ (.tail _ (.tail _ (List.mem_append_right _ (hX1 q hq)))))))
      have hP : PowAt ((c1, oa) :: (c2, ob) :: (c3, o3') :: (rl, listO rvs kr) :: (pl, listO pvs kp) :: (bl, listO brefs 0) :: (bLed ba vs ks ++ S)) pl (cs.map pwOf) := hTA.pow (.tail _ (.tail _ (.tail _ (.tail _ (.head _))))) hXL
      (repeat wtm_at "lf")
      try wtm_at "q"
      refine W_cons ?_
      refine W_AsgCompR hN hh2 [] [("powers", c3)] (CompOk.of (by show compOk _ ["node"] [] ["powers"] = true; decide +kernel)) (by simp) (by decide) 4
        (fun i ys n₁ => IntsAre ys (ofN ((List.range i).filter (firstM M))) ∧ n₁ = (c1, oa) :: (c2, ob) :: (c3, o3') :: (rl, listO rvs kr) :: (pl, listO pvs kp) :: (bl, listO brefs 0) :: (bLed ba vs ks ++ S)) (by omega) (by rfl) ?_ ?_ ?_
      · repeat wtm_at "w"
        (repeat wtm_at "lf")
        exact ⟨rfl, ⟨_, _, _, _, rfl, .head _⟩, _, List.sublist_cons_self .., .nil, rfl⟩
      · intro Ca it D k i t ys n₁ hi hj91 hEv
        try wtm_at "q"
        try wtm_at "g"
        obtain ⟨hys, rfl⟩ := hj91
        obtain ⟨refs, kr1, b, tv, q1, q2, q3, q4⟩ := hP.row (i := i) (by omega)
        obtain ⟨j, hj, hji, hjn, hjp⟩ := first_at hM hlen4 hw3 hi
        try wtm_at "ug"
        refine W_tests1 ?_
        repeat wtm_at "w"
        refine W_getL PySem.F.slot_list_index PySem.F.type_list_index (by wtm_at "lmem") ?_
        repeat wtm_at "w"
        refine W_itemL q1 (by omega) q2 ?_
        repeat wtm_at "w"
        refine W_indexT (rs := (cs.map pwOf).map ofN) (ns := ofN ((cs.map pwOf).getD i [])) (j := j) (by wtm_at "lmem") q3 (hTA.rows hXL) q4 ?_ ?_ (by simp; omega) ?_
        · rw [List.getElem?_map, hji]; rfl
        · intro i' hi' e
          rw [List.getElem?_map] at e
          cases hx : (cs.map pwOf)[i']? with
          | none => rw [hx] at e; cases e
          | some l =>
            rw [hx] at e
            exact hjn i' hi' (by rw [hx, ofN_inj (Option.some.inj e)])
        · intro _
          repeat wtm_at "w"
          have eb : ((j : Int) == (i : Int)) = firstM M i := by rw [← hjp, Bool.eq_iff_iff, beq_iff_eq, beq_iff_eq]; omega
          rw [eb, range_filter]
          split
          · rename_i hc
            repeat wtm_at "w"
            (repeat wtm_at "lf")
            refine ⟨⟨_, rfl⟩, _, List.Sublist.refl _, ?_, rfl⟩
            have := hys.append (.cons (i : Int) t .nil)
            simpa [ofN] using this
          · rename_i hc
            (repeat wtm_at "lf")
            refine ⟨⟨_, rfl⟩, _, List.Sublist.refl _, ?_, rfl⟩
            simpa using hys
      · intro Ca D k ys n₁ hj91
        try wtm_at "q"
        obtain ⟨hys, rfl⟩ := hj91
        have hys2 : IntsAre ys (ofN (firstsM M)) := hys
        repeat wtm_at "w"
        rename_i z0 z1 z2 z3
        have hl4v : IntsAre [Value.int 0 z0, Value.int 1 z1, Value.int 2 z2, Value.int 3 z3] (ofN [0, 1, 2, 3]) := .cons _ _ (.cons _ _ (.cons _ _ (.cons _ _ .nil)))
        refine W_newList (Nat.le_trans (by simp) sL) ?_
        intro l4
        generalize [Value.int 0 z0, Value.int 1 z1, Value.int 2 z2, Value.int 3 z3] = l4v at *
        repeat wtm_at "w"
        subst hS hB
        refine W.perm (n' := (226, tabObj ps) :: (X ++ ((D, listO ys k) :: (l4, listO l4v 0) :: (pl, listO pvs kp) :: (bl, listO brefs 0) :: (c1, oa) :: (c2, ob) :: (c3, o3') :: (rl, listO rvs kr) :: (bLed ba vs ks ++ (X1 ++ rest))))) ?_ (by wtm_at "perm")
        have hBA : BelowAt ((D, listO ys k) :: (l4, listO l4v 0) :: (pl, listO pvs kp) :: (bl, listO brefs 0) :: (c1, oa) :: (c2, ob) :: (c3, o3') :: (rl, listO rvs kr) :: (bLed ba vs ks ++ (X1 ++ rest))) bl (belowM M) := by
          (repeat wtm_at "lf")
          refine ⟨brefs, 0, by wtm_at "lmem", fun i l e => ?_⟩
          have hi : i < 4 := by have := (List.getElem?_eq_some_iff.mp e).1; have : (belowM M).length = 4 := hBL.1; omega
          have e2 : (bOut M 4).getD i [] = l := by rw [List.getD_eq_getElem?_getD, e]; rfl
          (repeat wtm_at "lf")
          exact ⟨ba i, vs i, ks i, hbi i hi, .tail _ (.tail _ (.tail _ (.tail _ (.tail _ (.tail _ (.tail _ (.tail _ (List.mem_append_left _ (bLed_mem hi))))))))), e2 ▸ hBL.2 i hi⟩
        have hPA : PowAt ((D, listO ys k) :: (l4, listO l4v 0) :: (pl, listO pvs kp) :: (bl, listO brefs 0) :: (c1, oa) :: (c2, ob) :: (c3, o3') :: (rl, listO rvs kr) :: (bLed ba vs ks ++ (X1 ++ rest))) pl (cs.map pwOf) := hTA.pow (by wtm_at "lmem") fun q hq => .tail _ (.tail _ (.tail _ (.tail _ (.tail _ (.tail _ (.tail _ (.tail _ (List.mem_append_right _ (List.mem_append_left _ hq)))))))))
        have hmD : (D, listO ys k) ∈ (D, listO ys k) :: (l4, listO l4v 0) :: (pl, listO pvs kp) :: (bl, listO brefs 0) :: (c1, oa) :: (c2, ob) :: (c3, o3') :: (rl, listO rvs kr) :: (bLed ba vs ks ++ (X1 ++ rest)) := .head _
        have hm4 : (l4, listO l4v 0) ∈ (D, listO ys k) :: (l4, listO l4v 0) :: (pl, listO pvs kp) :: (bl, listO brefs 0) :: (c1, oa) :: (c2, ob) :: (c3, o3') :: (rl, listO rvs kr) :: (bLed ba vs ks ++ (X1 ++ rest)) := .tail _ (.head _)
        have hm3 : (c3, o3') ∈ (D, listO ys k) :: (l4, listO l4v 0) :: (pl, listO pvs kp) :: (bl, listO brefs 0) :: (c1, oa) :: (c2, ob) :: (c3, o3') :: (rl, listO rvs kr) :: (bLed ba vs ks ++ (X1 ++ rest)) := by wtm_at "lmem"
        generalize (D, listO ys k) :: (l4, listO l4v 0) :: (pl, listO pvs kp) :: (bl, listO brefs 0) :: (c1, oa) :: (c2, ob) :: (c3, o3') :: (rl, listO rvs kr) :: (bLed ba vs ks ++ (X1 ++ rest)) = R9 at *
        refine right_c (by omega) hh2 hT hBA hPA hm4 hl4v O1 ?_
        intro ps' X' hT'
        have hm3' : (c3, o3') ∈ (226, tabObj ps') :: (X' ++ R9) := .tail _ (List.mem_append_right _ hm3)
        repeat wtm_at "w"
        refine right_c (by omega) hh2 hT' hBA hPA hmD hys2 O2 ?_
        intro ps2 X2 hT2
        repeat wtm_at "w"
        (repeat wtm_at "lf")
        (repeat wtm_at "lf")
        exact ⟨_, List.Sublist.refl _, h ps2 _ (.head _)⟩

/- law(script), its body -/
theorem law_start {w : World} {base h₁ : Heap} {A : Around} {L fa sl : Addr} {cd : Value} {sv : List Value} {script : List Int} {loose : List Str} {mean : ExcName → Option Value} {mg mb mm : Str → Option Value} {gens : Array GenState} {drawn : Drawn} {os : OsState} {tk : Nat} {p1 p2 p3 p4 p5 p6 : Pos} {env : Env}
    (he : env = envX "law" { kind := ScopeKind.function, names := [(Str.ofString "script", NameKind.local), (Str.ofString "_law_holds", NameKind.globalImplicit), (Str.ofString "_law_cells", NameKind.globalImplicit)], isGenerator := false, isCoroutine := false } L fa cd [])
    (X : (hd.heap_39 w.params).In base) (T : Top topProg loose mean mg mb base) (F : Fr base L h₁ mm) (N : News base L h₁ [(226, tabObj #[])]) (hL : base.IsList sl sv.toArray) (hI : IntsAre sv script) (hlen : script.length ≤ 1000) (hmm : mm = Lv ["script"] [some (.ref sl)])
    (hA : A.depth + 20 < recursionLimit ∧ A.units + 8 * 20 + 8 < cLine) (hfr : A.frames = some [env]) (hh : A.handled = none) :
    wpAny (model PG w) A (execs [.Return (some (.Call (.Name "_law_holds" p1) [.Call (.Name "_law_cells" p2) [.Name "script" p3] [] p4] [] p5)) p6] env)
      (fun fl s' => fl = .ret (.bool true) ∧ (∃ m', Fr base L s'.heap m') ∧ s'.gens = gens ∧ s'.os = os ∧ ∃ ps, s'.heap.get? 226 = some (tabObj ps)) (fun _ _ => False) ⟨h₁, gens, drawn, tk, os⟩ := by
  subst he hmm
  have hfe : ∀ e ∈ [envX "law" { kind := ScopeKind.function, names := [(Str.ofString "script", NameKind.local), (Str.ofString "_law_holds", NameKind.globalImplicit), (Str.ofString "_law_cells", NameKind.globalImplicit)], isGenerator := false, isCoroutine := false } L fa cd []], e.scope.kind ≠ .module ∧ ∃ a, e.frame = some a ∧ (a = L ∨ a ∈ ([] : List (Addr × Loc)).map (·.1)) := by
    intro e he
    obtain rfl := List.mem_singleton.mp he
    exact ⟨(fun q => nomatch q), _, rfl, .inl rfl⟩
  let d : Dy := { w := w, A := A, base := base, L := L, fr := [], hid := [], gens := gens, drawn := drawn, os := os, room := 20, envs := _, K := X, T := ⟨_, _, _, _, T⟩, hroom := hA, hfr := hfr, hfe := hfe }
  have hN : Nm { kind := ScopeKind.function, names := [(Str.ofString "script", NameKind.local), (Str.ofString "_law_holds", NameKind.globalImplicit), (Str.ofString "_law_cells", NameKind.globalImplicit)], isGenerator := false, isCoroutine := false } ["script"] ["_law_holds", "_law_cells"] := Nm.of (by decide +kernel)
  have hs : St d ⟨h₁, gens, drawn, tk, os⟩ (Lv ["script"] [some (.ref sl)]) [(226, tabObj #[])] := ⟨F, ⟨[], FsOk.mk .nil .nil, by simpa using N, by simp⟩, rfl, rfl, rfl⟩
  have hW : W d (execs [.Return (some (.Call (.Name "_law_holds" p1) [.Call (.Name "_law_cells" p2) [.Name "script" p3] [] p4] [] p5)) p6] (envX "law" { kind := ScopeKind.function, names := [(Str.ofString "script", NameKind.local), (Str.ofString "_law_holds", NameKind.globalImplicit), (Str.ofString "_law_cells", NameKind.globalImplicit)], isGenerator := false, isCoroutine := false } d.L fa cd [])) (Lv ["script"] [some (.ref sl)]) [(226, tabObj #[])] (fun fl _ n => fl = .ret (.bool true) ∧ ∃ ps, (226, tabObj ps) ∈ n) (fun _ _ => False) := by
    repeat wtm_at "w"
    refine cells_c (by show 1 ≤ 20; omega) hh hL hI hlen ?_
    intro D vs k cs hcs h4
    repeat wtm_at "w"
    refine W.perm (n' := (226, tabObj #[]) :: ([] ++ [(D, listO vs k)])) ?_ (by wtm_at "perm")
    refine holds_c (by show 10 ≤ 20; omega) hh (.none) (.head _) hcs h4 ?_
    intro ps n hn
    repeat wtm_at "w"
    exact ⟨rfl, ps, hn⟩
  refine wpAny_mono (hW.go _ hs) (fun fl s' hl => ?_) fun _ _ q => q
  obtain ⟨m', n', hs', rfl, ps, hp⟩ := hl
  exact ⟨rfl, ⟨_, hs'.F⟩, hs'.gens, hs'.os, ps, hs'.mem hp⟩

theorem law_end {c : ClaimW} {cl : Str → Option Addr} {mean : ExcName → Option Value} {args : List WData} {s₁ s' : Shared} {fl : Flow} {tabs : List (Addr × Addr)} {g : Flow → Value} {L : Addr} {gens : Array GenState} {os : OsState} (h : fl = .ret (.bool true) ∧ (∃ m', Fr s₁.heap L s'.heap m') ∧ s'.gens = gens ∧ s'.os = os ∧ ∃ ps, s'.heap.get? 226 = some (tabObj ps))
    (hg : gens = #[]) (hos : os = s₁.os) (ht : tabs = [(228, 226)]) (hv : g (.ret (.bool true)) = .bool true) (hn : ∀ cls, c.raises args cls = false) (hp : c.post args (.bool true) args = true) : GoodW c cl mean args s₁ (.ok (.ret (g fl))) s' ∧ GrownAll tabs s'.heap := by
  obtain ⟨rfl, ⟨m', F⟩, h1, h2, ps, h3⟩ := h
  subst ht
  rw [hv]
  exact ⟨goodW_bool F (h1.trans hg) hn hp (h2.trans hos), ⟨ps, h3⟩, True.intro⟩
theorem cw : PySem.Challenge.rw_oc0189_01.Holds := by
  refine hd (by rfl) (by rfl) (by rfl) ?hw ?hc
  case hw => w_witness2
  case hc => w_strict (
    k_go0
    refine wpAny_mono (law_start (env := envOf _ _ _ _ _) rfl (by assumption) (by assumption) (by assumption) (by assumption) lifted (by assumption) (by omega) ?h1 ?h2 rfl rfl) (fun f s' hq => law_end (g := fun f => match f with | .ret v => v | _ => .none) hq (by assumption) rfl rfl rfl ?h3 ?h4) (fun _ _ q => q.elim)
    case h1 => exact funext fun y => entry_eq ["script"] [_] [] rfl (by decide) y
    case h2 => exact ⟨by simp only [Around.deeper, callerA]; decide +kernel, by simp only [Around.deeper, callerA]; decide +kernel⟩
    case h3 => exact raisesW_false (by wrow_none_raised)
    case h4 => kc_post)

end Mine

theorem PySem.Challenge.cw_oc0189_01_holds : PySem.Challenge.rw_oc0189_01.Holds :=
  Mine.cw
