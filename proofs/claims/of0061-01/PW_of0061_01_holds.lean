import PyProof.Rows.All
import Wide.All
import OpenK.AllK
import Wide.FinOn
import Lean
import PySem.Challenge.RW_of0061_01
open PySem PySem.W PyProof.Rows PySem.Calls
set_option Elab.async false
set_option maxRecDepth 100000
set_option maxHeartbeats 8000000
set_option linter.unusedVariables false
noncomputable section
set_option compiler.extract_closed false
namespace Mine
abbrev Tp : Program := PySem.Challenge.pw_of0061_01
noncomputable def gF (i : Nat) : Option (Arguments × List Stmt × Scope) := match Tp.main.body[i]? with
 | some (.FunctionDef _ a b _ _ _ s _ _ _) => some (a, b, s)
 | _ => none
noncomputable def gM (c i : Nat) : Option (Arguments × List Stmt × Scope) := match Tp.main.body[c]? with
 | some (.ClassDef _ _ _ l _ _ _ _ _ _ _) => (match l[i]? with
  | some (.FunctionDef _ a b _ _ _ s _ _ _) => some (a, b, s)
  | _ => none)
 | _ => none
noncomputable def hd.view_39 : Program := (fun (c0 c1 c2 c3 c4 c5 c6 c7 c8 c9 c10 c11 c12 c13 c14 c15 c16 c17 c18 c19 c20 c21 c22 c23 c24 : Stmt) (_ : Tp.main.body = [c0, c1, c2, c3, c4, c5, c6, c7, c8, c9, c10, c11, c12, c13, c14, c15, c16, c17, c18, c19, c20, c21, c22, c23, c24]) => ({ Tp with main := { Tp.main with body := [c0, c2, c3, c4, c5, c7, c8, c9, c10, c11, c13, c14, c16, c17, c18, c19, c20, c21, c22, c23, c24] } } : Program)) _ _ _ _ _ _ _ _ _ _ _ _ _ _ _ _ _ _ _ _ _ _ _ _ _ rfl
noncomputable def hd.heap_39 : Params → Frag := fun P => (fun (a21 : Arguments) (b21 : List Stmt) (s21 : Scope) (_ : gF 0 = some (a21, b21, s21)) (a28 : Arguments) (b28 : List Stmt) (s28 : Scope) (_ : gF 2 = some (a28, b28, s28)) (a35 : Arguments) (b35 : List Stmt) (s35 : Scope) (_ : gF 3 = some (a35, b35, s35)) (a42 : Arguments) (b42 : List Stmt) (s42 : Scope) (_ : gF 4 = some (a42, b42, s42)) (a49 : Arguments) (b49 : List Stmt) (s49 : Scope) (_ : gF 5 = some (a49, b49, s49)) (a64 : Arguments) (b64 : List Stmt) (s64 : Scope) (_ : gM 9 1 = some (a64, b64, s64)) (a101 : Arguments) (b101 : List Stmt) (s101 : Scope) (_ : gM 11 0 = some (a101, b101, s101)) (a108 : Arguments) (b108 : List Stmt) (s108 : Scope) (_ : gM 11 1 = some (a108, b108, s108)) (a115 : Arguments) (b115 : List Stmt) (s115 : Scope) (_ : gM 11 2 = some (a115, b115, s115)) (a120 : Arguments) (b120 : List Stmt) (s120 : Scope) (_ : gM 11 3 = some (a120, b120, s120)) (a127 : Arguments) (b127 : List Stmt) (s127 : Scope) (_ : gM 11 4 = some (a127, b127, s127)) (a134 : Arguments) (b134 : List Stmt) (s134 : Scope) (_ : gM 11 5 = some (a134, b134, s134)) (a141 : Arguments) (b141 : List Stmt) (s141 : Scope) (_ : gM 11 6 = some (a141, b141, s141)) (a148 : Arguments) (b148 : List Stmt) (s148 : Scope) (_ : gM 11 7 = some (a148, b148, s148)) (a155 : Arguments) (b155 : List Stmt) (s155 : Scope) (_ : gM 11 8 = some (a155, b155, s155)) (a162 : Arguments) (b162 : List Stmt) (s162 : Scope) (_ : gM 11 9 = some (a162, b162, s162)) (a176 : Arguments) (b176 : List Stmt) (s176 : Scope) (_ : gF 13 = some (a176, b176, s176)) (a183 : Arguments) (b183 : List Stmt) (s183 : Scope) (_ : gF 14 = some (a183, b183, s183)) (a190 : Arguments) (b190 : List Stmt) (s190 : Scope) (_ : gF 16 = some (a190, b190, s190)) (a197 : Arguments) (b197 : List Stmt) (s197 : Scope) (_ : gF 17 = some (a197, b197, s197)) (a202 : Arguments) (b202 : List Stmt) (s202 : Scope) (_ : gF 18 = some (a202, b202, s202)) (a209 : Arguments) (b209 : List Stmt) (s209 : Scope) (_ : gF 19 = some (a209, b209, s209)) (a216 : Arguments) (b216 : List Stmt) (s216 : Scope) (_ : gF 20 = some (a216, b216, s216)) (a221 : Arguments) (b221 : List Stmt) (s221 : Scope) (_ : gF 21 = some (a221, b221, s221)) (a226 : Arguments) (b226 : List Stmt) (s226 : Scope) (_ : gF 22 = some (a226, b226, s226)) (a231 : Arguments) (b231 : List Stmt) (s231 : Scope) (_ : gF 23 = some (a231, b231, s231)) (a236 : Arguments) (b236 : List Stmt) (s236 : Scope) (_ : gF 24 = some (a236, b236, s236)) => ((nat_lit 2, { cls := Value.none, data := Data.dict #[] }) ::
(nat_lit 3, { cls := Value.type "dict", data := Data.dict #[{ hash := PyData.keyHash P (Str.ofString "__name__"), key := Value.str (Str.ofString "__name__") 165, val := Value.str (Str.ofString "law_of0061_01") 435 }, { hash := PyData.keyHash P (Str.ofString "__doc__"), key := Value.str (Str.ofString "__doc__") 166, val := Value.none }, { hash := PyData.keyHash P (Str.ofString "__package__"), key := Value.str (Str.ofString "__package__") 167, val := Value.none }, { hash := PyData.keyHash P (Str.ofString "__loader__"), key := Value.str (Str.ofString "__loader__") 168, val := Value.builtin "__main__.__loader__#opaque" }, { hash := PyData.keyHash P (Str.ofString "__spec__"), key := Value.str (Str.ofString "__spec__") 169, val := Value.none }, { hash := PyData.keyHash P (Str.ofString "__annotations__"), key := Value.str (Str.ofString "__annotations__") 170, val := Value.ref 6 }, { hash := PyData.keyHash P (Str.ofString "__builtins__"), key := Value.str (Str.ofString "__builtins__") 171, val := Value.ref 4 }, { hash := PyData.keyHash P (Str.ofString "__file__"), key := Value.str (Str.ofString "__file__") 173, val := Value.str (Str.ofString "/claim/cut.py") 172 }, { hash := PyData.keyHash P (Str.ofString "__cached__"), key := Value.str (Str.ofString "__cached__") 174, val := Value.none }, { hash := PyData.keyHash P (Str.ofString "_wall"), key := Value.str (Str.ofString "_wall") 193, val := Value.ref 21 }, { hash := PyData.keyHash P (Str.ofString "countOf"), key := Value.str (Str.ofString "countOf") 205, val := Value.ref 28 }, { hash := PyData.keyHash P (Str.ofString "getitem"), key := Value.str (Str.ofString "getitem") 213, val := Value.ref 35 }, { hash := PyData.keyHash P (Str.ofString "indexOf"), key := Value.str (Str.ofString "indexOf") 223, val := Value.ref 42 }, { hash := PyData.keyHash P (Str.ofString "setitem"), key := Value.str (Str.ofString "setitem") 232, val := Value.ref 49 }, { hash := PyData.keyHash P (Str.ofString "_NODE_OUT"), key := Value.str (Str.ofString "_NODE_OUT") 237, val := Value.int (-1) 236 }, { hash := PyData.keyHash P (Str.ofString "_NODE_DONE"), key := Value.str (Str.ofString "_NODE_DONE") 240, val := Value.int (-2) 239 }, { hash := PyData.keyHash P (Str.ofString "_NodeInfo"), key := Value.str (Str.ofString "_NodeInfo") 277, val := Value.ref 68 }, { hash := PyData.keyHash P (Str.ofString "CycleError"), key := Value.str (Str.ofString "CycleError") 295, val := Value.ref 83 }, { hash := PyData.keyHash P (Str.ofString "TopologicalSorter"), key := Value.str (Str.ofString "TopologicalSorter") 414, val := Value.ref 165 }, { hash := PyData.keyHash P (Str.ofString "unorderable_list_difference"), key := Value.str (Str.ofString "unorderable_list_difference") 426, val := Value.ref 176 }, { hash := PyData.keyHash P (Str.ofString "three_way_cmp"), key := Value.str (Str.ofString "three_way_cmp") 434, val := Value.ref 183 }, { hash := PyData.keyHash P (Str.ofString "_law_need"), key := Value.str (Str.ofString "_law_need") 444, val := Value.ref 190 }, { hash := PyData.keyHash P (Str.ofString "_law_sorter"), key := Value.str (Str.ofString "_law_sorter") 453, val := Value.ref 197 }, { hash := PyData.keyHash P (Str.ofString "_law_found"), key := Value.str (Str.ofString "_law_found") 459, val := Value.ref 202 }, { hash := PyData.keyHash P (Str.ofString "_law_through"), key := Value.str (Str.ofString "_law_through") 470, val := Value.ref 209 }, { hash := PyData.keyHash P (Str.ofString "_law_changed"), key := Value.str (Str.ofString "_law_changed") 480, val := Value.ref 216 }, { hash := PyData.keyHash P (Str.ofString "_law_way"), key := Value.str (Str.ofString "_law_way") 486, val := Value.ref 221 }, { hash := PyData.keyHash P (Str.ofString "_law_due"), key := Value.str (Str.ofString "_law_due") 492, val := Value.ref 226 }, { hash := PyData.keyHash P (Str.ofString "_law_least"), key := Value.str (Str.ofString "_law_least") 498, val := Value.ref 231 }, { hash := PyData.keyHash P (Str.ofString "law"), key := Value.str (Str.ofString "law") 504, val := Value.ref 236 }] 30 }) ::
(nat_lit 15, { cls := Value.type "tuple", data := Data.seq #[] }) ::
(nat_lit 17, { cls := Value.type "tuple", data := Data.seq #[Value.str (Str.ofString "k") 190] }) ::
(nat_lit 18, { cls := Value.type "tuple", data := Data.seq #[] }) ::
(nat_lit 20, { cls := Value.type "code", data := Data.fields #[Value.str (Str.ofString "_wall") 187, Value.str (Str.ofString "_wall") 188, Value.str (Str.ofString "/claim/cut.py") 189, Value.int 1 0, Value.int 1 0, Value.int 0 0, Value.int 0 0, Value.int 3 0, Value.ref 15, Value.bool Bool.true, Value.int 181 0, Value.ref 16, Value.none, Value.ref 17, Value.ref 18, Value.ref 19, Value.int 191 0, Value.int 1 0, Value.str (Str.ofString "/claim/cut.py") 192] }) ::
(nat_lit 21, { cls := Value.type "function", data := Data.func { name := Str.ofString "_wall", qualname := Str.ofString "_wall", params := a21, body := FuncBody.stmts b21, scope := s21, globals := 3, closure := [], defaults := Value.none, kwdefaults := Value.none, pyModule := Value.str (Str.ofString "__main__") 164, code := Value.ref 20 } }) ::
(nat_lit 22, { cls := Value.type "tuple", data := Data.seq #[] }) ::
(nat_lit 24, { cls := Value.type "tuple", data := Data.seq #[Value.str (Str.ofString "a") 199, Value.str (Str.ofString "b") 200, Value.str (Str.ofString "count") 201, Value.str (Str.ofString "i") 202] }) ::
(nat_lit 25, { cls := Value.type "tuple", data := Data.seq #[] }) ::
(nat_lit 27, { cls := Value.type "code", data := Data.fields #[Value.str (Str.ofString "countOf") 196, Value.str (Str.ofString "countOf") 197, Value.str (Str.ofString "/claim/cut.py") 198, Value.int 5 0, Value.int 2 0, Value.int 0 0, Value.int 0 0, Value.int 3 0, Value.ref 22, Value.bool Bool.true, Value.int 181 0, Value.ref 23, Value.none, Value.ref 24, Value.ref 25, Value.ref 26, Value.int 203 0, Value.int 5 0, Value.str (Str.ofString "/claim/cut.py") 204] }) ::
(nat_lit 28, { cls := Value.type "function", data := Data.func { name := Str.ofString "countOf", qualname := Str.ofString "countOf", params := a28, body := FuncBody.stmts b28, scope := s28, globals := 3, closure := [], defaults := Value.none, kwdefaults := Value.none, pyModule := Value.str (Str.ofString "cpy313.operator") 194, code := Value.ref 27 } }) ::
(nat_lit 29, { cls := Value.type "tuple", data := Data.seq #[] }) ::
(nat_lit 31, { cls := Value.type "tuple", data := Data.seq #[Value.str (Str.ofString "a") 209, Value.str (Str.ofString "b") 210] }) ::
(nat_lit 32, { cls := Value.type "tuple", data := Data.seq #[] }) ::
(nat_lit 34, { cls := Value.type "code", data := Data.fields #[Value.str (Str.ofString "getitem") 206, Value.str (Str.ofString "getitem") 207, Value.str (Str.ofString "/claim/cut.py") 208, Value.int 11 0, Value.int 2 0, Value.int 0 0, Value.int 0 0, Value.int 3 0, Value.ref 29, Value.bool Bool.true, Value.int 181 0, Value.ref 30, Value.none, Value.ref 31, Value.ref 32, Value.ref 33, Value.int 211 0, Value.int 11 0, Value.str (Str.ofString "/claim/cut.py") 212] }) ::
(nat_lit 35, { cls := Value.type "function", data := Data.func { name := Str.ofString "getitem", qualname := Str.ofString "getitem", params := a35, body := FuncBody.stmts b35, scope := s35, globals := 3, closure := [], defaults := Value.none, kwdefaults := Value.none, pyModule := Value.str (Str.ofString "cpy313.operator") 194, code := Value.ref 34 } }) ::
(nat_lit 36, { cls := Value.type "tuple", data := Data.seq #[] }) ::
(nat_lit 38, { cls := Value.type "tuple", data := Data.seq #[Value.str (Str.ofString "a") 217, Value.str (Str.ofString "b") 218, Value.str (Str.ofString "i") 219, Value.str (Str.ofString "j") 220] }) ::
(nat_lit 39, { cls := Value.type "tuple", data := Data.seq #[] }) ::
(nat_lit 41, { cls := Value.type "code", data := Data.fields #[Value.str (Str.ofString "indexOf") 214, Value.str (Str.ofString "indexOf") 215, Value.str (Str.ofString "/claim/cut.py") 216, Value.int 13 0, Value.int 2 0, Value.int 0 0, Value.int 0 0, Value.int 3 0, Value.ref 36, Value.bool Bool.true, Value.int 181 0, Value.ref 37, Value.none, Value.ref 38, Value.ref 39, Value.ref 40, Value.int 221 0, Value.int 13 0, Value.str (Str.ofString "/claim/cut.py") 222] }) ::
(nat_lit 42, { cls := Value.type "function", data := Data.func { name := Str.ofString "indexOf", qualname := Str.ofString "indexOf", params := a42, body := FuncBody.stmts b42, scope := s42, globals := 3, closure := [], defaults := Value.none, kwdefaults := Value.none, pyModule := Value.str (Str.ofString "cpy313.operator") 194, code := Value.ref 41 } }) ::
(nat_lit 43, { cls := Value.type "tuple", data := Data.seq #[] }) ::
(nat_lit 45, { cls := Value.type "tuple", data := Data.seq #[Value.str (Str.ofString "a") 227, Value.str (Str.ofString "b") 228, Value.str (Str.ofString "c") 229] }) ::
(nat_lit 46, { cls := Value.type "tuple", data := Data.seq #[] }) ::
(nat_lit 48, { cls := Value.type "code", data := Data.fields #[Value.str (Str.ofString "setitem") 224, Value.str (Str.ofString "setitem") 225, Value.str (Str.ofString "/claim/cut.py") 226, Value.int 19 0, Value.int 3 0, Value.int 0 0, Value.int 0 0, Value.int 3 0, Value.ref 43, Value.bool Bool.true, Value.int 181 0, Value.ref 44, Value.none, Value.ref 45, Value.ref 46, Value.ref 47, Value.int 230 0, Value.int 19 0, Value.str (Str.ofString "/claim/cut.py") 231] }) ::
(nat_lit 49, { cls := Value.type "function", data := Data.func { name := Str.ofString "setitem", qualname := Str.ofString "setitem", params := a49, body := FuncBody.stmts b49, scope := s49, globals := 3, closure := [], defaults := Value.none, kwdefaults := Value.none, pyModule := Value.str (Str.ofString "cpy313.operator") 194, code := Value.ref 48 } }) ::
(nat_lit 57, { cls := Value.type "tuple", data := Data.seq #[Value.str (Str.ofString "node") 253, Value.str (Str.ofString "npredecessors") 254, Value.str (Str.ofString "successors") 255] }) ::
(nat_lit 58, { cls := Value.type "tuple", data := Data.seq #[] }) ::
(nat_lit 60, { cls := Value.type "tuple", data := Data.seq #[Value.str (Str.ofString "self") 260, Value.str (Str.ofString "node") 261] }) ::
(nat_lit 61, { cls := Value.type "tuple", data := Data.seq #[] }) ::
(nat_lit 63, { cls := Value.type "code", data := Data.fields #[Value.str (Str.ofString "__init__") 257, Value.str (Str.ofString "_NodeInfo.__init__") 258, Value.str (Str.ofString "/claim/cut.py") 259, Value.int 27 0, Value.int 2 0, Value.int 0 0, Value.int 0 0, Value.int 3 0, Value.ref 58, Value.bool Bool.true, Value.int 181 0, Value.ref 59, Value.none, Value.ref 60, Value.ref 61, Value.ref 62, Value.int 262 0, Value.int 27 0, Value.str (Str.ofString "/claim/cut.py") 263] }) ::
(nat_lit 64, { cls := Value.type "function", data := Data.func { name := Str.ofString "__init__", qualname := Str.ofString "_NodeInfo.__init__", params := a64, body := FuncBody.stmts b64, scope := s64, globals := 3, closure := [], defaults := Value.none, kwdefaults := Value.none, pyModule := Value.str (Str.ofString "cpy313.graphlib") 233, code := Value.ref 63 } }) ::
(nat_lit 65, { cls := Value.type "tuple", data := Data.seq #[Value.str (Str.ofString "node") 265, Value.str (Str.ofString "npredecessors") 266, Value.str (Str.ofString "successors") 267] }) ::
(nat_lit 67, { cls := Value.type "dict", data := Data.dict #[{ hash := PyData.keyHash P (Str.ofString "__module__"), key := Value.str (Str.ofString "__module__") 248, val := Value.str (Str.ofString "cpy313.graphlib") 233 }, { hash := PyData.keyHash P (Str.ofString "__firstlineno__"), key := Value.str (Str.ofString "__firstlineno__") 252, val := Value.int 24 251 }, { hash := PyData.keyHash P (Str.ofString "__slots__"), key := Value.str (Str.ofString "__slots__") 256, val := Value.ref 57 }, { hash := PyData.keyHash P (Str.ofString "__init__"), key := Value.str (Str.ofString "__init__") 264, val := Value.ref 64 }, { hash := PyData.keyHash P (Str.ofString "__static_attributes__"), key := Value.str (Str.ofString "__static_attributes__") 268, val := Value.ref 65 }, { hash := PyData.keyHash P (Str.ofString "node"), key := Value.str (Str.ofString "node") 270, val := Value.ref 69 }, { hash := PyData.keyHash P (Str.ofString "npredecessors"), key := Value.str (Str.ofString "npredecessors") 272, val := Value.ref 70 }, { hash := PyData.keyHash P (Str.ofString "successors"), key := Value.str (Str.ofString "successors") 274, val := Value.ref 71 }, { hash := PyData.keyHash P (Str.ofString "__doc__"), key := Value.str (Str.ofString "__doc__") 275, val := Value.none }] 5 }) ::
(nat_lit 68, { cls := Value.type "type", data := Data.cls { name := Str.ofString "_NodeInfo", bases := [Value.type "object"], mro := [Value.ref 68, Value.type "object"], ns := 67, qualname := Str.ofString "_NodeInfo", hasDict := Bool.false, slotNames := [Str.ofString "node", Str.ofString "npredecessors", Str.ofString "successors"] }, slots := #[Option.none, Option.none, Option.some (Value.str (Str.ofString "_NodeInfo") 241), Option.some (Value.str (Str.ofString "_NodeInfo") 249), Option.some (Value.builtin "object.__new__"), Option.some (Value.bool Bool.false)] }) ::
(nat_lit 69, { cls := Value.type "member_descriptor", data := Data.fields #[Value.str (Str.ofString "node") 269, Value.ref 68, Value.builtin "proto.slot", Value.builtin "proto.slot#set", Value.int 2 0] }) ::
(nat_lit 70, { cls := Value.type "member_descriptor", data := Data.fields #[Value.str (Str.ofString "npredecessors") 271, Value.ref 68, Value.builtin "proto.slot", Value.builtin "proto.slot#set", Value.int 1 0] }) ::
(nat_lit 71, { cls := Value.type "member_descriptor", data := Data.fields #[Value.str (Str.ofString "successors") 273, Value.ref 68, Value.builtin "proto.slot", Value.builtin "proto.slot#set", Value.int 0 0] }) ::
(nat_lit 74, { cls := Value.type "tuple", data := Data.seq #[Value.type "ValueError"] }) ::
(nat_lit 81, { cls := Value.type "tuple", data := Data.seq #[] }) ::
(nat_lit 82, { cls := Value.type "dict", data := Data.dict #[{ hash := PyData.keyHash P (Str.ofString "__module__"), key := Value.str (Str.ofString "__module__") 285, val := Value.str (Str.ofString "cpy313.graphlib") 233 }, { hash := PyData.keyHash P (Str.ofString "__firstlineno__"), key := Value.str (Str.ofString "__firstlineno__") 289, val := Value.int 31 288 }, { hash := PyData.keyHash P (Str.ofString "__static_attributes__"), key := Value.str (Str.ofString "__static_attributes__") 290, val := Value.ref 81 }, { hash := PyData.keyHash P (Str.ofString "__weakref__"), key := Value.str (Str.ofString "__weakref__") 292, val := Value.ref 84 }, { hash := PyData.keyHash P (Str.ofString "__doc__"), key := Value.str (Str.ofString "__doc__") 293, val := Value.none }] 3 }) ::
(nat_lit 83, { cls := Value.type "type", data := Data.cls { name := Str.ofString "CycleError", bases := [Value.type "ValueError"], mro := [Value.ref 83, Value.type "ValueError", Value.type "Exception", Value.type "BaseException", Value.type "object"], ns := 82, qualname := Str.ofString "CycleError" }, slots := #[Option.some (Value.ref 74), Option.none, Option.some (Value.str (Str.ofString "CycleError") 278), Option.some (Value.str (Str.ofString "CycleError") 286), Option.some (Value.builtin "ValueError.__new__"), Option.some (Value.bool Bool.true)] }) ::
(nat_lit 84, { cls := Value.type "getset_descriptor", data := Data.fields #[Value.str (Str.ofString "__weakref__") 291, Value.ref 83, Value.builtin "ExceptionGroup.__weakref__", Value.none] }) ::
(nat_lit 94, { cls := Value.type "tuple", data := Data.seq #[Value.none] }) ::
(nat_lit 95, { cls := Value.type "tuple", data := Data.seq #[] }) ::
(nat_lit 97, { cls := Value.type "tuple", data := Data.seq #[Value.str (Str.ofString "self") 311, Value.str (Str.ofString "graph") 312, Value.str (Str.ofString "node") 313, Value.str (Str.ofString "predecessors") 314] }) ::
(nat_lit 98, { cls := Value.type "tuple", data := Data.seq #[] }) ::
(nat_lit 100, { cls := Value.type "code", data := Data.fields #[Value.str (Str.ofString "__init__") 308, Value.str (Str.ofString "TopologicalSorter.__init__") 309, Value.str (Str.ofString "/claim/cut.py") 310, Value.int 35 0, Value.int 2 0, Value.int 0 0, Value.int 0 0, Value.int 3 0, Value.ref 95, Value.bool Bool.true, Value.int 181 0, Value.ref 96, Value.none, Value.ref 97, Value.ref 98, Value.ref 99, Value.int 315 0, Value.int 35 0, Value.str (Str.ofString "/claim/cut.py") 316] }) ::
(nat_lit 101, { cls := Value.type "function", data := Data.func { name := Str.ofString "__init__", qualname := Str.ofString "TopologicalSorter.__init__", params := a101, body := FuncBody.stmts b101, scope := s101, globals := 3, closure := [], defaults := Value.ref 94, kwdefaults := Value.none, pyModule := Value.str (Str.ofString "cpy313.graphlib") 233, code := Value.ref 100 } }) ::
(nat_lit 102, { cls := Value.type "tuple", data := Data.seq #[] }) ::
(nat_lit 104, { cls := Value.type "tuple", data := Data.seq #[Value.str (Str.ofString "self") 321, Value.str (Str.ofString "node") 322, Value.str (Str.ofString "result") 323] }) ::
(nat_lit 105, { cls := Value.type "tuple", data := Data.seq #[] }) ::
(nat_lit 107, { cls := Value.type "code", data := Data.fields #[Value.str (Str.ofString "_get_nodeinfo") 318, Value.str (Str.ofString "TopologicalSorter._get_nodeinfo") 319, Value.str (Str.ofString "/claim/cut.py") 320, Value.int 44 0, Value.int 2 0, Value.int 0 0, Value.int 0 0, Value.int 3 0, Value.ref 102, Value.bool Bool.true, Value.int 181 0, Value.ref 103, Value.none, Value.ref 104, Value.ref 105, Value.ref 106, Value.int 324 0, Value.int 44 0, Value.str (Str.ofString "/claim/cut.py") 325] }) ::
(nat_lit 108, { cls := Value.type "function", data := Data.func { name := Str.ofString "_get_nodeinfo", qualname := Str.ofString "TopologicalSorter._get_nodeinfo", params := a108, body := FuncBody.stmts b108, scope := s108, globals := 3, closure := [], defaults := Value.none, kwdefaults := Value.none, pyModule := Value.str (Str.ofString "cpy313.graphlib") 233, code := Value.ref 107 } }) ::
(nat_lit 109, { cls := Value.type "tuple", data := Data.seq #[] }) ::
(nat_lit 111, { cls := Value.type "tuple", data := Data.seq #[Value.str (Str.ofString "self") 330, Value.str (Str.ofString "node") 331, Value.str (Str.ofString "predecessors") 332, Value.str (Str.ofString "nodeinfo") 333, Value.str (Str.ofString "pred") 334, Value.str (Str.ofString "pred_info") 335] }) ::
(nat_lit 112, { cls := Value.type "tuple", data := Data.seq #[] }) ::
(nat_lit 114, { cls := Value.type "code", data := Data.fields #[Value.str (Str.ofString "add") 327, Value.str (Str.ofString "TopologicalSorter.add") 328, Value.str (Str.ofString "/claim/cut.py") 329, Value.int 49 0, Value.int 2 0, Value.int 0 0, Value.int 0 0, Value.int 7 0, Value.ref 109, Value.bool Bool.true, Value.int 181 0, Value.ref 110, Value.none, Value.ref 111, Value.ref 112, Value.ref 113, Value.int 336 0, Value.int 49 0, Value.str (Str.ofString "/claim/cut.py") 337] }) ::
(nat_lit 115, { cls := Value.type "function", data := Data.func { name := Str.ofString "add", qualname := Str.ofString "TopologicalSorter.add", params := a115, body := FuncBody.stmts b115, scope := s115, globals := 3, closure := [], defaults := Value.none, kwdefaults := Value.none, pyModule := Value.str (Str.ofString "cpy313.graphlib") 233, code := Value.ref 114 } }) ::
(nat_lit 116, { cls := Value.type "tuple", data := Data.seq #[] }) ::
(nat_lit 119, { cls := Value.type "code", data := Data.fields #[Value.str (Str.ofString "prepare") 339, Value.str (Str.ofString "TopologicalSorter.prepare") 340, Value.str (Str.ofString "/claim/cut.py") 341, Value.int 58 0, Value.int 1 0, Value.int 0 0, Value.int 0 0, Value.int 3 0, Value.ref 116, Value.bool Bool.true, Value.int 181 0, Value.ref 117, Value.none, Value.none, Value.none, Value.ref 118, Value.int 342 0, Value.int 58 0, Value.str (Str.ofString "/claim/cut.py") 343] }) ::
(nat_lit 120, { cls := Value.type "function", data := Data.func { name := Str.ofString "prepare", qualname := Str.ofString "TopologicalSorter.prepare", params := a120, body := FuncBody.stmts b120, scope := s120, globals := 3, closure := [], defaults := Value.none, kwdefaults := Value.none, pyModule := Value.str (Str.ofString "cpy313.graphlib") 233, code := Value.ref 119 } }) ::
(nat_lit 121, { cls := Value.type "tuple", data := Data.seq #[] }) ::
(nat_lit 123, { cls := Value.type "tuple", data := Data.seq #[Value.str (Str.ofString "self") 348, Value.str (Str.ofString "result") 349, Value.str (Str.ofString "n2i") 350, Value.str (Str.ofString "node") 351] }) ::
(nat_lit 124, { cls := Value.type "tuple", data := Data.seq #[] }) ::
(nat_lit 126, { cls := Value.type "code", data := Data.fields #[Value.str (Str.ofString "get_ready") 345, Value.str (Str.ofString "TopologicalSorter.get_ready") 346, Value.str (Str.ofString "/claim/cut.py") 347, Value.int 66 0, Value.int 1 0, Value.int 0 0, Value.int 0 0, Value.int 3 0, Value.ref 121, Value.bool Bool.true, Value.int 181 0, Value.ref 122, Value.none, Value.ref 123, Value.ref 124, Value.ref 125, Value.int 352 0, Value.int 66 0, Value.str (Str.ofString "/claim/cut.py") 353] }) ::
(nat_lit 127, { cls := Value.type "function", data := Data.func { name := Str.ofString "get_ready", qualname := Str.ofString "TopologicalSorter.get_ready", params := a127, body := FuncBody.stmts b127, scope := s127, globals := 3, closure := [], defaults := Value.none, kwdefaults := Value.none, pyModule := Value.str (Str.ofString "cpy313.graphlib") 233, code := Value.ref 126 } }) ::
(nat_lit 128, { cls := Value.type "tuple", data := Data.seq #[] }) ::
(nat_lit 130, { cls := Value.type "tuple", data := Data.seq #[Value.str (Str.ofString "self") 358] }) ::
(nat_lit 131, { cls := Value.type "tuple", data := Data.seq #[] }) ::
(nat_lit 133, { cls := Value.type "code", data := Data.fields #[Value.str (Str.ofString "is_active") 355, Value.str (Str.ofString "TopologicalSorter.is_active") 356, Value.str (Str.ofString "/claim/cut.py") 357, Value.int 77 0, Value.int 1 0, Value.int 0 0, Value.int 0 0, Value.int 3 0, Value.ref 128, Value.bool Bool.true, Value.int 181 0, Value.ref 129, Value.none, Value.ref 130, Value.ref 131, Value.ref 132, Value.int 359 0, Value.int 77 0, Value.str (Str.ofString "/claim/cut.py") 360] }) ::
(nat_lit 134, { cls := Value.type "function", data := Data.func { name := Str.ofString "is_active", qualname := Str.ofString "TopologicalSorter.is_active", params := a134, body := FuncBody.stmts b134, scope := s134, globals := 3, closure := [], defaults := Value.none, kwdefaults := Value.none, pyModule := Value.str (Str.ofString "cpy313.graphlib") 233, code := Value.ref 133 } }) ::
(nat_lit 135, { cls := Value.type "tuple", data := Data.seq #[] }) ::
(nat_lit 137, { cls := Value.type "tuple", data := Data.seq #[Value.str (Str.ofString "self") 365] }) ::
(nat_lit 138, { cls := Value.type "tuple", data := Data.seq #[] }) ::
(nat_lit 140, { cls := Value.type "code", data := Data.fields #[Value.str (Str.ofString "__bool__") 362, Value.str (Str.ofString "TopologicalSorter.__bool__") 363, Value.str (Str.ofString "/claim/cut.py") 364, Value.int 82 0, Value.int 1 0, Value.int 0 0, Value.int 0 0, Value.int 3 0, Value.ref 135, Value.bool Bool.true, Value.int 181 0, Value.ref 136, Value.none, Value.ref 137, Value.ref 138, Value.ref 139, Value.int 366 0, Value.int 82 0, Value.str (Str.ofString "/claim/cut.py") 367] }) ::
(nat_lit 141, { cls := Value.type "function", data := Data.func { name := Str.ofString "__bool__", qualname := Str.ofString "TopologicalSorter.__bool__", params := a141, body := FuncBody.stmts b141, scope := s141, globals := 3, closure := [], defaults := Value.none, kwdefaults := Value.none, pyModule := Value.str (Str.ofString "cpy313.graphlib") 233, code := Value.ref 140 } }) ::
(nat_lit 142, { cls := Value.type "tuple", data := Data.seq #[] }) ::
(nat_lit 144, { cls := Value.type "tuple", data := Data.seq #[Value.str (Str.ofString "self") 372, Value.str (Str.ofString "nodes") 373, Value.str (Str.ofString "n2i") 374, Value.str (Str.ofString "node") 375, Value.str (Str.ofString "nodeinfo") 376, Value.str (Str.ofString "stat") 377, Value.str (Str.ofString "successor") 378, Value.str (Str.ofString "successor_info") 379] }) ::
(nat_lit 145, { cls := Value.type "tuple", data := Data.seq #[] }) ::
(nat_lit 147, { cls := Value.type "code", data := Data.fields #[Value.str (Str.ofString "done") 369, Value.str (Str.ofString "TopologicalSorter.done") 370, Value.str (Str.ofString "/claim/cut.py") 371, Value.int 85 0, Value.int 1 0, Value.int 0 0, Value.int 0 0, Value.int 7 0, Value.ref 142, Value.bool Bool.true, Value.int 181 0, Value.ref 143, Value.none, Value.ref 144, Value.ref 145, Value.ref 146, Value.int 380 0, Value.int 85 0, Value.str (Str.ofString "/claim/cut.py") 381] }) ::
(nat_lit 148, { cls := Value.type "function", data := Data.func { name := Str.ofString "done", qualname := Str.ofString "TopologicalSorter.done", params := a148, body := FuncBody.stmts b148, scope := s148, globals := 3, closure := [], defaults := Value.none, kwdefaults := Value.none, pyModule := Value.str (Str.ofString "cpy313.graphlib") 233, code := Value.ref 147 } }) ::
(nat_lit 149, { cls := Value.type "tuple", data := Data.seq #[] }) ::
(nat_lit 151, { cls := Value.type "tuple", data := Data.seq #[Value.str (Str.ofString "self") 386, Value.str (Str.ofString "n2i") 387, Value.str (Str.ofString "stack") 388, Value.str (Str.ofString "itstack") 389, Value.str (Str.ofString "seen") 390, Value.str (Str.ofString "node2stacki") 391, Value.str (Str.ofString "node") 392] }) ::
(nat_lit 152, { cls := Value.type "tuple", data := Data.seq #[] }) ::
(nat_lit 154, { cls := Value.type "code", data := Data.fields #[Value.str (Str.ofString "_find_cycle") 383, Value.str (Str.ofString "TopologicalSorter._find_cycle") 384, Value.str (Str.ofString "/claim/cut.py") 385, Value.int 108 0, Value.int 1 0, Value.int 0 0, Value.int 0 0, Value.int 3 0, Value.ref 149, Value.bool Bool.true, Value.int 181 0, Value.ref 150, Value.none, Value.ref 151, Value.ref 152, Value.ref 153, Value.int 393 0, Value.int 108 0, Value.str (Str.ofString "/claim/cut.py") 394] }) ::
(nat_lit 155, { cls := Value.type "function", data := Data.func { name := Str.ofString "_find_cycle", qualname := Str.ofString "TopologicalSorter._find_cycle", params := a155, body := FuncBody.stmts b155, scope := s155, globals := 3, closure := [], defaults := Value.none, kwdefaults := Value.none, pyModule := Value.str (Str.ofString "cpy313.graphlib") 233, code := Value.ref 154 } }) ::
(nat_lit 156, { cls := Value.type "tuple", data := Data.seq #[] }) ::
(nat_lit 158, { cls := Value.type "tuple", data := Data.seq #[Value.str (Str.ofString "self") 399] }) ::
(nat_lit 159, { cls := Value.type "tuple", data := Data.seq #[] }) ::
(nat_lit 161, { cls := Value.type "code", data := Data.fields #[Value.str (Str.ofString "static_order") 396, Value.str (Str.ofString "TopologicalSorter.static_order") 397, Value.str (Str.ofString "/claim/cut.py") 398, Value.int 137 0, Value.int 1 0, Value.int 0 0, Value.int 0 0, Value.int 3 0, Value.ref 156, Value.bool Bool.true, Value.int 181 0, Value.ref 157, Value.none, Value.ref 158, Value.ref 159, Value.ref 160, Value.int 400 0, Value.int 137 0, Value.str (Str.ofString "/claim/cut.py") 401] }) ::
(nat_lit 162, { cls := Value.type "function", data := Data.func { name := Str.ofString "static_order", qualname := Str.ofString "TopologicalSorter.static_order", params := a162, body := FuncBody.stmts b162, scope := s162, globals := 3, closure := [], defaults := Value.none, kwdefaults := Value.none, pyModule := Value.str (Str.ofString "cpy313.graphlib") 233, code := Value.ref 161 } }) ::
(nat_lit 163, { cls := Value.type "tuple", data := Data.seq #[Value.str (Str.ofString "_nfinished") 403, Value.str (Str.ofString "_node2info") 404, Value.str (Str.ofString "_npassedout") 405, Value.str (Str.ofString "_ready_nodes") 406] }) ::
(nat_lit 164, { cls := Value.type "dict", data := Data.dict #[{ hash := PyData.keyHash P (Str.ofString "__module__"), key := Value.str (Str.ofString "__module__") 303, val := Value.str (Str.ofString "cpy313.graphlib") 233 }, { hash := PyData.keyHash P (Str.ofString "__firstlineno__"), key := Value.str (Str.ofString "__firstlineno__") 307, val := Value.int 33 306 }, { hash := PyData.keyHash P (Str.ofString "__init__"), key := Value.str (Str.ofString "__init__") 317, val := Value.ref 101 }, { hash := PyData.keyHash P (Str.ofString "_get_nodeinfo"), key := Value.str (Str.ofString "_get_nodeinfo") 326, val := Value.ref 108 }, { hash := PyData.keyHash P (Str.ofString "add"), key := Value.str (Str.ofString "add") 338, val := Value.ref 115 }, { hash := PyData.keyHash P (Str.ofString "prepare"), key := Value.str (Str.ofString "prepare") 344, val := Value.ref 120 }, { hash := PyData.keyHash P (Str.ofString "get_ready"), key := Value.str (Str.ofString "get_ready") 354, val := Value.ref 127 }, { hash := PyData.keyHash P (Str.ofString "is_active"), key := Value.str (Str.ofString "is_active") 361, val := Value.ref 134 }, { hash := PyData.keyHash P (Str.ofString "__bool__"), key := Value.str (Str.ofString "__bool__") 368, val := Value.ref 141 }, { hash := PyData.keyHash P (Str.ofString "done"), key := Value.str (Str.ofString "done") 382, val := Value.ref 148 }, { hash := PyData.keyHash P (Str.ofString "_find_cycle"), key := Value.str (Str.ofString "_find_cycle") 395, val := Value.ref 155 }, { hash := PyData.keyHash P (Str.ofString "static_order"), key := Value.str (Str.ofString "static_order") 402, val := Value.ref 162 }, { hash := PyData.keyHash P (Str.ofString "__static_attributes__"), key := Value.str (Str.ofString "__static_attributes__") 407, val := Value.ref 163 }, { hash := PyData.keyHash P (Str.ofString "__dict__"), key := Value.str (Str.ofString "__dict__") 409, val := Value.ref 166 }, { hash := PyData.keyHash P (Str.ofString "__weakref__"), key := Value.str (Str.ofString "__weakref__") 411, val := Value.ref 167 }, { hash := PyData.keyHash P (Str.ofString "__doc__"), key := Value.str (Str.ofString "__doc__") 412, val := Value.none }] 4 }) ::
(nat_lit 165, { cls := Value.type "type", data := Data.cls { name := Str.ofString "TopologicalSorter", bases := [Value.type "object"], mro := [Value.ref 165, Value.type "object"], ns := 164, qualname := Str.ofString "TopologicalSorter" }, slots := #[Option.none, Option.none, Option.some (Value.str (Str.ofString "TopologicalSorter") 296), Option.some (Value.str (Str.ofString "TopologicalSorter") 304), Option.some (Value.builtin "object.__new__"), Option.some (Value.bool Bool.true)] }) ::
(nat_lit 166, { cls := Value.type "getset_descriptor", data := Data.fields #[Value.str (Str.ofString "__dict__") 408, Value.ref 165, Value.builtin "function.__dict__", Value.builtin "function.__dict__#set"] }) ::
(nat_lit 167, { cls := Value.type "getset_descriptor", data := Data.fields #[Value.str (Str.ofString "__weakref__") 410, Value.ref 165, Value.builtin "ExceptionGroup.__weakref__", Value.none] }) ::
(nat_lit 170, { cls := Value.type "tuple", data := Data.seq #[] }) ::
(nat_lit 172, { cls := Value.type "tuple", data := Data.seq #[Value.str (Str.ofString "expected") 420, Value.str (Str.ofString "actual") 421, Value.str (Str.ofString "missing") 422, Value.str (Str.ofString "item") 423] }) ::
(nat_lit 173, { cls := Value.type "tuple", data := Data.seq #[] }) ::
(nat_lit 175, { cls := Value.type "code", data := Data.fields #[Value.str (Str.ofString "unorderable_list_difference") 417, Value.str (Str.ofString "unorderable_list_difference") 418, Value.str (Str.ofString "/claim/cut.py") 419, Value.int 140 0, Value.int 2 0, Value.int 0 0, Value.int 0 0, Value.int 3 0, Value.ref 170, Value.bool Bool.true, Value.int 181 0, Value.ref 171, Value.none, Value.ref 172, Value.ref 173, Value.ref 174, Value.int 424 0, Value.int 140 0, Value.str (Str.ofString "/claim/cut.py") 425] }) ::
(nat_lit 176, { cls := Value.type "function", data := Data.func { name := Str.ofString "unorderable_list_difference", qualname := Str.ofString "unorderable_list_difference", params := a176, body := FuncBody.stmts b176, scope := s176, globals := 3, closure := [], defaults := Value.none, kwdefaults := Value.none, pyModule := Value.str (Str.ofString "cpy313.unittest.util") 415, code := Value.ref 175 } }) ::
(nat_lit 177, { cls := Value.type "tuple", data := Data.seq #[] }) ::
(nat_lit 179, { cls := Value.type "tuple", data := Data.seq #[Value.str (Str.ofString "x") 430, Value.str (Str.ofString "y") 431] }) ::
(nat_lit 180, { cls := Value.type "tuple", data := Data.seq #[] }) ::
(nat_lit 182, { cls := Value.type "code", data := Data.fields #[Value.str (Str.ofString "three_way_cmp") 427, Value.str (Str.ofString "three_way_cmp") 428, Value.str (Str.ofString "/claim/cut.py") 429, Value.int 149 0, Value.int 2 0, Value.int 0 0, Value.int 0 0, Value.int 3 0, Value.ref 177, Value.bool Bool.true, Value.int 181 0, Value.ref 178, Value.none, Value.ref 179, Value.ref 180, Value.ref 181, Value.int 432 0, Value.int 149 0, Value.str (Str.ofString "/claim/cut.py") 433] }) ::
(nat_lit 183, { cls := Value.type "function", data := Data.func { name := Str.ofString "three_way_cmp", qualname := Str.ofString "three_way_cmp", params := a183, body := FuncBody.stmts b183, scope := s183, globals := 3, closure := [], defaults := Value.none, kwdefaults := Value.none, pyModule := Value.str (Str.ofString "cpy313.unittest.util") 415, code := Value.ref 182 } }) ::
(nat_lit 184, { cls := Value.type "tuple", data := Data.seq #[] }) ::
(nat_lit 186, { cls := Value.type "tuple", data := Data.seq #[Value.str (Str.ofString "x") 440, Value.str (Str.ofString "later") 441] }) ::
(nat_lit 187, { cls := Value.type "tuple", data := Data.seq #[] }) ::
(nat_lit 189, { cls := Value.type "code", data := Data.fields #[Value.str (Str.ofString "_law_need") 437, Value.str (Str.ofString "_law_need") 438, Value.str (Str.ofString "/claim/cut.py") 439, Value.int 152 0, Value.int 1 0, Value.int 0 0, Value.int 0 0, Value.int 3 0, Value.ref 184, Value.bool Bool.true, Value.int 181 0, Value.ref 185, Value.none, Value.ref 186, Value.ref 187, Value.ref 188, Value.int 442 0, Value.int 152 0, Value.str (Str.ofString "/claim/cut.py") 443] }) ::
(nat_lit 190, { cls := Value.type "function", data := Data.func { name := Str.ofString "_law_need", qualname := Str.ofString "_law_need", params := a190, body := FuncBody.stmts b190, scope := s190, globals := 3, closure := [], defaults := Value.none, kwdefaults := Value.none, pyModule := Value.str (Str.ofString "law_of0061_01") 435, code := Value.ref 189 } }) ::
(nat_lit 191, { cls := Value.type "tuple", data := Data.seq #[] }) ::
(nat_lit 193, { cls := Value.type "tuple", data := Data.seq #[Value.str (Str.ofString "needs") 448, Value.str (Str.ofString "sorter") 449, Value.str (Str.ofString "need") 450] }) ::
(nat_lit 194, { cls := Value.type "tuple", data := Data.seq #[] }) ::
(nat_lit 196, { cls := Value.type "code", data := Data.fields #[Value.str (Str.ofString "_law_sorter") 445, Value.str (Str.ofString "_law_sorter") 446, Value.str (Str.ofString "/claim/cut.py") 447, Value.int 155 0, Value.int 1 0, Value.int 0 0, Value.int 0 0, Value.int 3 0, Value.ref 191, Value.bool Bool.true, Value.int 181 0, Value.ref 192, Value.none, Value.ref 193, Value.ref 194, Value.ref 195, Value.int 451 0, Value.int 155 0, Value.str (Str.ofString "/claim/cut.py") 452] }) ::
(nat_lit 197, { cls := Value.type "function", data := Data.func { name := Str.ofString "_law_sorter", qualname := Str.ofString "_law_sorter", params := a197, body := FuncBody.stmts b197, scope := s197, globals := 3, closure := [], defaults := Value.none, kwdefaults := Value.none, pyModule := Value.str (Str.ofString "law_of0061_01") 435, code := Value.ref 196 } }) ::
(nat_lit 198, { cls := Value.type "tuple", data := Data.seq #[] }) ::
(nat_lit 201, { cls := Value.type "code", data := Data.fields #[Value.str (Str.ofString "_law_found") 454, Value.str (Str.ofString "_law_found") 455, Value.str (Str.ofString "/claim/cut.py") 456, Value.int 161 0, Value.int 2 0, Value.int 0 0, Value.int 0 0, Value.int 3 0, Value.ref 198, Value.bool Bool.true, Value.int 181 0, Value.ref 199, Value.none, Value.none, Value.none, Value.ref 200, Value.int 457 0, Value.int 161 0, Value.str (Str.ofString "/claim/cut.py") 458] }) ::
(nat_lit 202, { cls := Value.type "function", data := Data.func { name := Str.ofString "_law_found", qualname := Str.ofString "_law_found", params := a202, body := FuncBody.stmts b202, scope := s202, globals := 3, closure := [], defaults := Value.none, kwdefaults := Value.none, pyModule := Value.str (Str.ofString "law_of0061_01") 435, code := Value.ref 201 } }) ::
(nat_lit 203, { cls := Value.type "tuple", data := Data.seq #[] }) ::
(nat_lit 205, { cls := Value.type "tuple", data := Data.seq #[Value.str (Str.ofString "order") 463, Value.str (Str.ofString "needs") 464, Value.str (Str.ofString "sorter") 465, Value.str (Str.ofString "many") 466, Value.str (Str.ofString "work") 467] }) ::
(nat_lit 206, { cls := Value.type "tuple", data := Data.seq #[] }) ::
(nat_lit 208, { cls := Value.type "code", data := Data.fields #[Value.str (Str.ofString "_law_through") 460, Value.str (Str.ofString "_law_through") 461, Value.str (Str.ofString "/claim/cut.py") 462, Value.int 169 0, Value.int 2 0, Value.int 0 0, Value.int 0 0, Value.int 3 0, Value.ref 203, Value.bool Bool.true, Value.int 181 0, Value.ref 204, Value.none, Value.ref 205, Value.ref 206, Value.ref 207, Value.int 468 0, Value.int 169 0, Value.str (Str.ofString "/claim/cut.py") 469] }) ::
(nat_lit 209, { cls := Value.type "function", data := Data.func { name := Str.ofString "_law_through", qualname := Str.ofString "_law_through", params := a209, body := FuncBody.stmts b209, scope := s209, globals := 3, closure := [], defaults := Value.none, kwdefaults := Value.none, pyModule := Value.str (Str.ofString "law_of0061_01") 435, code := Value.ref 208 } }) ::
(nat_lit 210, { cls := Value.type "tuple", data := Data.seq #[] }) ::
(nat_lit 212, { cls := Value.type "tuple", data := Data.seq #[Value.str (Str.ofString "order") 474, Value.str (Str.ofString "k") 475, Value.str (Str.ofString "row") 476, Value.str (Str.ofString "one") 477] }) ::
(nat_lit 213, { cls := Value.type "tuple", data := Data.seq #[] }) ::
(nat_lit 215, { cls := Value.type "code", data := Data.fields #[Value.str (Str.ofString "_law_changed") 471, Value.str (Str.ofString "_law_changed") 472, Value.str (Str.ofString "/claim/cut.py") 473, Value.int 179 0, Value.int 2 0, Value.int 0 0, Value.int 0 0, Value.int 3 0, Value.ref 210, Value.bool Bool.true, Value.int 181 0, Value.ref 211, Value.none, Value.ref 212, Value.ref 213, Value.ref 214, Value.int 478 0, Value.int 179 0, Value.str (Str.ofString "/claim/cut.py") 479] }) ::
(nat_lit 216, { cls := Value.type "function", data := Data.func { name := Str.ofString "_law_changed", qualname := Str.ofString "_law_changed", params := a216, body := FuncBody.stmts b216, scope := s216, globals := 3, closure := [], defaults := Value.none, kwdefaults := Value.none, pyModule := Value.str (Str.ofString "law_of0061_01") 435, code := Value.ref 215 } }) ::
(nat_lit 217, { cls := Value.type "tuple", data := Data.seq #[] }) ::
(nat_lit 220, { cls := Value.type "code", data := Data.fields #[Value.str (Str.ofString "_law_way") 481, Value.str (Str.ofString "_law_way") 482, Value.str (Str.ofString "/claim/cut.py") 483, Value.int 185 0, Value.int 2 0, Value.int 0 0, Value.int 0 0, Value.int 3 0, Value.ref 217, Value.bool Bool.true, Value.int 181 0, Value.ref 218, Value.none, Value.none, Value.none, Value.ref 219, Value.int 484 0, Value.int 185 0, Value.str (Str.ofString "/claim/cut.py") 485] }) ::
(nat_lit 221, { cls := Value.type "function", data := Data.func { name := Str.ofString "_law_way", qualname := Str.ofString "_law_way", params := a221, body := FuncBody.stmts b221, scope := s221, globals := 3, closure := [], defaults := Value.none, kwdefaults := Value.none, pyModule := Value.str (Str.ofString "law_of0061_01") 435, code := Value.ref 220 } }) ::
(nat_lit 222, { cls := Value.type "tuple", data := Data.seq #[] }) ::
(nat_lit 225, { cls := Value.type "code", data := Data.fields #[Value.str (Str.ofString "_law_due") 487, Value.str (Str.ofString "_law_due") 488, Value.str (Str.ofString "/claim/cut.py") 489, Value.int 192 0, Value.int 2 0, Value.int 0 0, Value.int 0 0, Value.int 3 0, Value.ref 222, Value.bool Bool.true, Value.int 181 0, Value.ref 223, Value.none, Value.none, Value.none, Value.ref 224, Value.int 490 0, Value.int 192 0, Value.str (Str.ofString "/claim/cut.py") 491] }) ::
(nat_lit 226, { cls := Value.type "function", data := Data.func { name := Str.ofString "_law_due", qualname := Str.ofString "_law_due", params := a226, body := FuncBody.stmts b226, scope := s226, globals := 3, closure := [], defaults := Value.none, kwdefaults := Value.none, pyModule := Value.str (Str.ofString "law_of0061_01") 435, code := Value.ref 225 } }) ::
(nat_lit 227, { cls := Value.type "tuple", data := Data.seq #[] }) ::
(nat_lit 230, { cls := Value.type "code", data := Data.fields #[Value.str (Str.ofString "_law_least") 493, Value.str (Str.ofString "_law_least") 494, Value.str (Str.ofString "/claim/cut.py") 495, Value.int 200 0, Value.int 2 0, Value.int 0 0, Value.int 0 0, Value.int 3 0, Value.ref 227, Value.bool Bool.true, Value.int 181 0, Value.ref 228, Value.none, Value.none, Value.none, Value.ref 229, Value.int 496 0, Value.int 200 0, Value.str (Str.ofString "/claim/cut.py") 497] }) ::
(nat_lit 231, { cls := Value.type "function", data := Data.func { name := Str.ofString "_law_least", qualname := Str.ofString "_law_least", params := a231, body := FuncBody.stmts b231, scope := s231, globals := 3, closure := [], defaults := Value.none, kwdefaults := Value.none, pyModule := Value.str (Str.ofString "law_of0061_01") 435, code := Value.ref 230 } }) ::
(nat_lit 232, { cls := Value.type "tuple", data := Data.seq #[] }) ::
(nat_lit 235, { cls := Value.type "code", data := Data.fields #[Value.str (Str.ofString "law") 499, Value.str (Str.ofString "law") 500, Value.str (Str.ofString "/claim/cut.py") 501, Value.int 206 0, Value.int 1 0, Value.int 0 0, Value.int 0 0, Value.int 3 0, Value.ref 232, Value.bool Bool.true, Value.int 181 0, Value.ref 233, Value.none, Value.none, Value.none, Value.ref 234, Value.int 502 0, Value.int 206 0, Value.str (Str.ofString "/claim/cut.py") 503] }) ::
(nat_lit 236, { cls := Value.type "function", data := Data.func { name := Str.ofString "law", qualname := Str.ofString "law", params := a236, body := FuncBody.stmts b236, scope := s236, globals := 3, closure := [], defaults := Value.none, kwdefaults := Value.none, pyModule := Value.str (Str.ofString "law_of0061_01") 435, code := Value.ref 235 } }) :: ([] : Frag))) _ _ _ rfl _ _ _ rfl _ _ _ rfl _ _ _ rfl _ _ _ rfl _ _ _ rfl _ _ _ rfl _ _ _ rfl _ _ _ rfl _ _ _ rfl _ _ _ rfl _ _ _ rfl _ _ _ rfl _ _ _ rfl _ _ _ rfl _ _ _ rfl _ _ _ rfl _ _ _ rfl _ _ _ rfl _ _ _ rfl _ _ _ rfl _ _ _ rfl _ _ _ rfl _ _ _ rfl _ _ _ rfl _ _ _ rfl _ _ _ rfl
theorem hd.said : PySem.Challenge.rw_of0061_01.wellSaid = true := by kernel_rfl
noncomputable def hd.addrs : List Addr := [nat_lit 2, nat_lit 3, nat_lit 15, nat_lit 17, nat_lit 18, nat_lit 20, nat_lit 21, nat_lit 22, nat_lit 24, nat_lit 25, nat_lit 27, nat_lit 28, nat_lit 29, nat_lit 31, nat_lit 32, nat_lit 34, nat_lit 35, nat_lit 36, nat_lit 38, nat_lit 39, nat_lit 41, nat_lit 42, nat_lit 43, nat_lit 45, nat_lit 46, nat_lit 48, nat_lit 49, nat_lit 57, nat_lit 58, nat_lit 60, nat_lit 61, nat_lit 63, nat_lit 64, nat_lit 65, nat_lit 67, nat_lit 68, nat_lit 69, nat_lit 70, nat_lit 71, nat_lit 74, nat_lit 81, nat_lit 82, nat_lit 83, nat_lit 84, nat_lit 94, nat_lit 95, nat_lit 97, nat_lit 98, nat_lit 100, nat_lit 101, nat_lit 102, nat_lit 104, nat_lit 105, nat_lit 107, nat_lit 108, nat_lit 109, nat_lit 111, nat_lit 112, nat_lit 114, nat_lit 115, nat_lit 116, nat_lit 119, nat_lit 120, nat_lit 121, nat_lit 123, nat_lit 124, nat_lit 126, nat_lit 127, nat_lit 128, nat_lit 130, nat_lit 131, nat_lit 133, nat_lit 134, nat_lit 135, nat_lit 137, nat_lit 138, nat_lit 140, nat_lit 141, nat_lit 142, nat_lit 144, nat_lit 145, nat_lit 147, nat_lit 148, nat_lit 149, nat_lit 151, nat_lit 152, nat_lit 154, nat_lit 155, nat_lit 156, nat_lit 158, nat_lit 159, nat_lit 161, nat_lit 162, nat_lit 163, nat_lit 164, nat_lit 165, nat_lit 166, nat_lit 167, nat_lit 170, nat_lit 172, nat_lit 173, nat_lit 175, nat_lit 176, nat_lit 177, nat_lit 179, nat_lit 180, nat_lit 182, nat_lit 183, nat_lit 184, nat_lit 186, nat_lit 187, nat_lit 189, nat_lit 190, nat_lit 191, nat_lit 193, nat_lit 194, nat_lit 196, nat_lit 197, nat_lit 198, nat_lit 201, nat_lit 202, nat_lit 203, nat_lit 205, nat_lit 206, nat_lit 208, nat_lit 209, nat_lit 210, nat_lit 212, nat_lit 213, nat_lit 215, nat_lit 216, nat_lit 217, nat_lit 220, nat_lit 221, nat_lit 222, nat_lit 225, nat_lit 226, nat_lit 227, nat_lit 230, nat_lit 231, nat_lit 232, nat_lit 235, nat_lit 236]
noncomputable def hd.hook : Hook := kHook hd.heap_39 hd.addrs (fun _ => by kernel_rfl)
noncomputable def hd.xt : Shared → Bool := fun s => xlAt hd.view_39 [] s && recOk PySem.Challenge.rw_of0061_01.row.records s
theorem hd.left : LeftO PySem.Challenge.rw_of0061_01.row.toRowW.prog hd.view_39 [Str.ofString "_NodeInfo"] hd.xt hd.hook.obs hd.hook.val 3150 := fun w => by kernel_rfl
example (w : World) : (Mine.hd.heap_39 w.params, PySem.Challenge.rw_of0061_01) = (Mine.hd.heap_39 w.params, PySem.Challenge.rw_of0061_01) := by k_fill; rfl
inductive A3 (a0 a1 a2 : Prop) : Prop
 | mk (h0 : a0) (h1 : a1) (h2 : a2) : A3 a0 a1 a2
inductive A4 (a0 a1 a2 a3 : Prop) : Prop
 | mk (h0 : a0) (h1 : a1) (h2 : a2) (h3 : a3) : A4 a0 a1 a2 a3
inductive A5 (a0 a1 a2 a3 a4 : Prop) : Prop
 | mk (h0 : a0) (h1 : a1) (h2 : a2) (h3 : a3) (h4 : a4) : A5 a0 a1 a2 a3 a4
inductive A6 (a0 a1 a2 a3 a4 a5 : Prop) : Prop
 | mk (h0 : a0) (h1 : a1) (h2 : a2) (h3 : a3) (h4 : a4) (h5 : a5) : A6 a0 a1 a2 a3 a4 a5
inductive A7 (a0 a1 a2 a3 a4 a5 a6 : Prop) : Prop
 | mk (h0 : a0) (h1 : a1) (h2 : a2) (h3 : a3) (h4 : a4) (h5 : a5) (h6 : a6) : A7 a0 a1 a2 a3 a4 a5 a6
inductive A8 (a0 a1 a2 a3 a4 a5 a6 a7 : Prop) : Prop
 | mk (h0 : a0) (h1 : a1) (h2 : a2) (h3 : a3) (h4 : a4) (h5 : a5) (h6 : a6) (h7 : a7) : A8 a0 a1 a2 a3 a4 a5 a6 a7
inductive A9 (a0 a1 a2 a3 a4 a5 a6 a7 a8 : Prop) : Prop
 | mk (h0 : a0) (h1 : a1) (h2 : a2) (h3 : a3) (h4 : a4) (h5 : a5) (h6 : a6) (h7 : a7) (h8 : a8) : A9 a0 a1 a2 a3 a4 a5 a6 a7 a8
inductive A11 (a0 a1 a2 a3 a4 a5 a6 a7 a8 a9 a10 : Prop) : Prop
 | mk (h0 : a0) (h1 : a1) (h2 : a2) (h3 : a3) (h4 : a4) (h5 : a5) (h6 : a6) (h7 : a7) (h8 : a8) (h9 : a9) (h10 : a10) : A11 a0 a1 a2 a3 a4 a5 a6 a7 a8 a9 a10
inductive A12 (a0 a1 a2 a3 a4 a5 a6 a7 a8 a9 a10 a11 : Prop) : Prop
 | mk (h0 : a0) (h1 : a1) (h2 : a2) (h3 : a3) (h4 : a4) (h5 : a5) (h6 : a6) (h7 : a7) (h8 : a8) (h9 : a9) (h10 : a10) (h11 : a11) : A12 a0 a1 a2 a3 a4 a5 a6 a7 a8 a9 a10 a11
inductive A13 (a0 a1 a2 a3 a4 a5 a6 a7 a8 a9 a10 a11 a12 : Prop) : Prop
 | mk (h0 : a0) (h1 : a1) (h2 : a2) (h3 : a3) (h4 : a4) (h5 : a5) (h6 : a6) (h7 : a7) (h8 : a8) (h9 : a9) (h10 : a10) (h11 : a11) (h12 : a12) : A13 a0 a1 a2 a3 a4 a5 a6 a7 a8 a9 a10 a11 a12
inductive A14 (a0 a1 a2 a3 a4 a5 a6 a7 a8 a9 a10 a11 a12 a13 : Prop) : Prop
 | mk (h0 : a0) (h1 : a1) (h2 : a2) (h3 : a3) (h4 : a4) (h5 : a5) (h6 : a6) (h7 : a7) (h8 : a8) (h9 : a9) (h10 : a10) (h11 : a11) (h12 : a12) (h13 : a13) : A14 a0 a1 a2 a3 a4 a5 a6 a7 a8 a9 a10 a11 a12 a13
inductive A15 (a0 a1 a2 a3 a4 a5 a6 a7 a8 a9 a10 a11 a12 a13 a14 : Prop) : Prop
 | mk (h0 : a0) (h1 : a1) (h2 : a2) (h3 : a3) (h4 : a4) (h5 : a5) (h6 : a6) (h7 : a7) (h8 : a8) (h9 : a9) (h10 : a10) (h11 : a11) (h12 : a12) (h13 : a13) (h14 : a14) : A15 a0 a1 a2 a3 a4 a5 a6 a7 a8 a9 a10 a11 a12 a13 a14
inductive A16 (a0 a1 a2 a3 a4 a5 a6 a7 a8 a9 a10 a11 a12 a13 a14 a15 : Prop) : Prop
 | mk (h0 : a0) (h1 : a1) (h2 : a2) (h3 : a3) (h4 : a4) (h5 : a5) (h6 : a6) (h7 : a7) (h8 : a8) (h9 : a9) (h10 : a10) (h11 : a11) (h12 : a12) (h13 : a13) (h14 : a14) (h15 : a15) : A16 a0 a1 a2 a3 a4 a5 a6 a7 a8 a9 a10 a11 a12 a13 a14 a15
inductive E2 {α0 α1 : Type} (p : α0 → α1 → Prop) : Prop
 | mk (x0 : α0) (x1 : α1) (h : p x0 x1) : E2 p
inductive E3 {α0 α1 α2 : Type} (p : α0 → α1 → α2 → Prop) : Prop
 | mk (x0 : α0) (x1 : α1) (x2 : α2) (h : p x0 x1 x2) : E3 p
inductive E4 {α0 α1 α2 α3 : Type} (p : α0 → α1 → α2 → α3 → Prop) : Prop
 | mk (x0 : α0) (x1 : α1) (x2 : α2) (x3 : α3) (h : p x0 x1 x2 x3) : E4 p
inductive E5 {α0 α1 α2 α3 α4 : Type} (p : α0 → α1 → α2 → α3 → α4 → Prop) : Prop
 | mk (x0 : α0) (x1 : α1) (x2 : α2) (x3 : α3) (x4 : α4) (h : p x0 x1 x2 x3 x4) : E5 p
inductive E6 {α0 α1 α2 α3 α4 α5 : Type} (p : α0 → α1 → α2 → α3 → α4 → α5 → Prop) : Prop
 | mk (x0 : α0) (x1 : α1) (x2 : α2) (x3 : α3) (x4 : α4) (x5 : α5) (h : p x0 x1 x2 x3 x4 x5) : E6 p
inductive E7 {α0 α1 α2 α3 α4 α5 α6 : Type} (p : α0 → α1 → α2 → α3 → α4 → α5 → α6 → Prop) : Prop
 | mk (x0 : α0) (x1 : α1) (x2 : α2) (x3 : α3) (x4 : α4) (x5 : α5) (x6 : α6) (h : p x0 x1 x2 x3 x4 x5 x6) : E7 p
inductive E8 {α0 α1 α2 α3 α4 α5 α6 α7 : Type} (p : α0 → α1 → α2 → α3 → α4 → α5 → α6 → α7 → Prop) : Prop
 | mk (x0 : α0) (x1 : α1) (x2 : α2) (x3 : α3) (x4 : α4) (x5 : α5) (x6 : α6) (x7 : α7) (h : p x0 x1 x2 x3 x4 x5 x6 x7) : E8 p
inductive E9 {α0 α1 α2 α3 α4 α5 α6 α7 α8 : Type} (p : α0 → α1 → α2 → α3 → α4 → α5 → α6 → α7 → α8 → Prop) : Prop
 | mk (x0 : α0) (x1 : α1) (x2 : α2) (x3 : α3) (x4 : α4) (x5 : α5) (x6 : α6) (x7 : α7) (x8 : α8) (h : p x0 x1 x2 x3 x4 x5 x6 x7 x8) : E9 p
inductive E11 {α0 α1 α2 α3 α4 α5 α6 α7 α8 α9 α10 : Type} (p : α0 → α1 → α2 → α3 → α4 → α5 → α6 → α7 → α8 → α9 → α10 → Prop) : Prop
 | mk (x0 : α0) (x1 : α1) (x2 : α2) (x3 : α3) (x4 : α4) (x5 : α5) (x6 : α6) (x7 : α7) (x8 : α8) (x9 : α9) (x10 : α10) (h : p x0 x1 x2 x3 x4 x5 x6 x7 x8 x9 x10) : E11 p
inductive E12 {α0 α1 α2 α3 α4 α5 α6 α7 α8 α9 α10 α11 : Type} (p : α0 → α1 → α2 → α3 → α4 → α5 → α6 → α7 → α8 → α9 → α10 → α11 → Prop) : Prop
 | mk (x0 : α0) (x1 : α1) (x2 : α2) (x3 : α3) (x4 : α4) (x5 : α5) (x6 : α6) (x7 : α7) (x8 : α8) (x9 : α9) (x10 : α10) (x11 : α11) (h : p x0 x1 x2 x3 x4 x5 x6 x7 x8 x9 x10 x11) : E12 p
inductive E13 {α0 α1 α2 α3 α4 α5 α6 α7 α8 α9 α10 α11 α12 : Type} (p : α0 → α1 → α2 → α3 → α4 → α5 → α6 → α7 → α8 → α9 → α10 → α11 → α12 → Prop) : Prop
 | mk (x0 : α0) (x1 : α1) (x2 : α2) (x3 : α3) (x4 : α4) (x5 : α5) (x6 : α6) (x7 : α7) (x8 : α8) (x9 : α9) (x10 : α10) (x11 : α11) (x12 : α12) (h : p x0 x1 x2 x3 x4 x5 x6 x7 x8 x9 x10 x11 x12) : E13 p
inductive E15 {α0 α1 α2 α3 α4 α5 α6 α7 α8 α9 α10 α11 α12 α13 α14 : Type} (p : α0 → α1 → α2 → α3 → α4 → α5 → α6 → α7 → α8 → α9 → α10 → α11 → α12 → α13 → α14 → Prop) : Prop
 | mk (x0 : α0) (x1 : α1) (x2 : α2) (x3 : α3) (x4 : α4) (x5 : α5) (x6 : α6) (x7 : α7) (x8 : α8) (x9 : α9) (x10 : α10) (x11 : α11) (x12 : α12) (x13 : α13) (x14 : α14) (h : p x0 x1 x2 x3 x4 x5 x6 x7 x8 x9 x10 x11 x12 x13 x14) : E15 p
theorem hide {C : Prop} (h : ∀ D : Prop, (C → D) → D) : C := h C id
abbrev Pg : Program := PySem.Challenge.rw_of0061_01.row.prog
abbrev Ar (dp un : Nat) (fr : List Env) : Around := { handled := none, depth := dp, frames := some fr, guards := some [], units := un }
abbrev δ {α : Type} [Inhabited α] : α := default
noncomputable def pick {T : Type} (p : T → Prop) (d : T) : T := @Classical.epsilon T ⟨d⟩ (fun t => ¬ p t)
theorem pick_all {T : Type} {p : T → Prop} {d : T} (h : p (pick p d)) (t : T) : p t := Classical.byContradiction fun n => (@Classical.epsilon_spec T (fun t => ¬ p t) ⟨t, n⟩) h
section
variable {a0 a1 a2 a3 a4 a5 a6 a7 a8 a9 a10 a11 a12 a13 a14 a15 a16 a17 a18 a19 a20 a21 a22 a23 a24 a25 a26 a27 a28 a29 a30 a31 a32 a33 a34 a35 a36 a37 a38 a39 a40 a41 : Type}
noncomputable def u9 (P : a0→a1→a2→a3→a4→a5→a6→a7→a8→Prop) (t : (((a0 × a1) × (a2 × a3)) × ((a4 × a5) × (a6 × (a7 × a8))))) := P t.1.1.1 t.1.1.2 t.1.2.1 t.1.2.2 t.2.1.1 t.2.1.2 t.2.2.1 t.2.2.2.1 t.2.2.2.2
noncomputable def z9 (d : (((a0 × a1) × (a2 × a3)) × ((a4 × a5) × (a6 × (a7 × a8))))) (P : a0→a1→a2→a3→a4→a5→a6→a7→a8→Prop) := pick (u9 P) d
theorem pk9 {P : a0→a1→a2→a3→a4→a5→a6→a7→a8→Prop} d (h : (fun z => P z.1.1.1 z.1.1.2 z.1.2.1 z.1.2.2 z.2.1.1 z.2.1.2 z.2.2.1 z.2.2.2.1 z.2.2.2.2) (z9 d P)) : ∀ x0 x1 x2 x3 x4 x5 x6 x7 x8, P x0 x1 x2 x3 x4 x5 x6 x7 x8 := fun x0 x1 x2 x3 x4 x5 x6 x7 x8 => pick_all (p := u9 P) (d := d) h (((x0, x1), (x2, x3)), ((x4, x5), (x6, (x7, x8))))
noncomputable def u10 (P : a0→a1→a2→a3→a4→a5→a6→a7→a8→a9→Prop) (t : (((a0 × a1) × (a2 × (a3 × a4))) × ((a5 × a6) × (a7 × (a8 × a9))))) := P t.1.1.1 t.1.1.2 t.1.2.1 t.1.2.2.1 t.1.2.2.2 t.2.1.1 t.2.1.2 t.2.2.1 t.2.2.2.1 t.2.2.2.2
noncomputable def z10 (d : (((a0 × a1) × (a2 × (a3 × a4))) × ((a5 × a6) × (a7 × (a8 × a9))))) (P : a0→a1→a2→a3→a4→a5→a6→a7→a8→a9→Prop) := pick (u10 P) d
theorem pk10 {P : a0→a1→a2→a3→a4→a5→a6→a7→a8→a9→Prop} d (h : (fun z => P z.1.1.1 z.1.1.2 z.1.2.1 z.1.2.2.1 z.1.2.2.2 z.2.1.1 z.2.1.2 z.2.2.1 z.2.2.2.1 z.2.2.2.2) (z10 d P)) : ∀ x0 x1 x2 x3 x4 x5 x6 x7 x8 x9, P x0 x1 x2 x3 x4 x5 x6 x7 x8 x9 := fun x0 x1 x2 x3 x4 x5 x6 x7 x8 x9 => pick_all (p := u10 P) (d := d) h (((x0, x1), (x2, (x3, x4))), ((x5, x6), (x7, (x8, x9))))
noncomputable def u11 (P : a0→a1→a2→a3→a4→a5→a6→a7→a8→a9→a10→Prop) (t : (((a0 × a1) × (a2 × (a3 × a4))) × ((a5 × (a6 × a7)) × (a8 × (a9 × a10))))) := P t.1.1.1 t.1.1.2 t.1.2.1 t.1.2.2.1 t.1.2.2.2 t.2.1.1 t.2.1.2.1 t.2.1.2.2 t.2.2.1 t.2.2.2.1 t.2.2.2.2
noncomputable def z11 (d : (((a0 × a1) × (a2 × (a3 × a4))) × ((a5 × (a6 × a7)) × (a8 × (a9 × a10))))) (P : a0→a1→a2→a3→a4→a5→a6→a7→a8→a9→a10→Prop) := pick (u11 P) d
theorem pk11 {P : a0→a1→a2→a3→a4→a5→a6→a7→a8→a9→a10→Prop} d (h : (fun z => P z.1.1.1 z.1.1.2 z.1.2.1 z.1.2.2.1 z.1.2.2.2 z.2.1.1 z.2.1.2.1 z.2.1.2.2 z.2.2.1 z.2.2.2.1 z.2.2.2.2) (z11 d P)) : ∀ x0 x1 x2 x3 x4 x5 x6 x7 x8 x9 x10, P x0 x1 x2 x3 x4 x5 x6 x7 x8 x9 x10 := fun x0 x1 x2 x3 x4 x5 x6 x7 x8 x9 x10 => pick_all (p := u11 P) (d := d) h (((x0, x1), (x2, (x3, x4))), ((x5, (x6, x7)), (x8, (x9, x10))))
noncomputable def u12 (P : a0→a1→a2→a3→a4→a5→a6→a7→a8→a9→a10→a11→Prop) (t : (((a0 × (a1 × a2)) × (a3 × (a4 × a5))) × ((a6 × (a7 × a8)) × (a9 × (a10 × a11))))) := P t.1.1.1 t.1.1.2.1 t.1.1.2.2 t.1.2.1 t.1.2.2.1 t.1.2.2.2 t.2.1.1 t.2.1.2.1 t.2.1.2.2 t.2.2.1 t.2.2.2.1 t.2.2.2.2
noncomputable def z12 (d : (((a0 × (a1 × a2)) × (a3 × (a4 × a5))) × ((a6 × (a7 × a8)) × (a9 × (a10 × a11))))) (P : a0→a1→a2→a3→a4→a5→a6→a7→a8→a9→a10→a11→Prop) := pick (u12 P) d
theorem pk12 {P : a0→a1→a2→a3→a4→a5→a6→a7→a8→a9→a10→a11→Prop} d (h : (fun z => P z.1.1.1 z.1.1.2.1 z.1.1.2.2 z.1.2.1 z.1.2.2.1 z.1.2.2.2 z.2.1.1 z.2.1.2.1 z.2.1.2.2 z.2.2.1 z.2.2.2.1 z.2.2.2.2) (z12 d P)) : ∀ x0 x1 x2 x3 x4 x5 x6 x7 x8 x9 x10 x11, P x0 x1 x2 x3 x4 x5 x6 x7 x8 x9 x10 x11 := fun x0 x1 x2 x3 x4 x5 x6 x7 x8 x9 x10 x11 => pick_all (p := u12 P) (d := d) h (((x0, (x1, x2)), (x3, (x4, x5))), ((x6, (x7, x8)), (x9, (x10, x11))))
noncomputable def u13 (P : a0→a1→a2→a3→a4→a5→a6→a7→a8→a9→a10→a11→a12→Prop) (t : (((a0 × (a1 × a2)) × (a3 × (a4 × a5))) × ((a6 × (a7 × a8)) × ((a9 × a10) × (a11 × a12))))) := P t.1.1.1 t.1.1.2.1 t.1.1.2.2 t.1.2.1 t.1.2.2.1 t.1.2.2.2 t.2.1.1 t.2.1.2.1 t.2.1.2.2 t.2.2.1.1 t.2.2.1.2 t.2.2.2.1 t.2.2.2.2
noncomputable def z13 (d : (((a0 × (a1 × a2)) × (a3 × (a4 × a5))) × ((a6 × (a7 × a8)) × ((a9 × a10) × (a11 × a12))))) (P : a0→a1→a2→a3→a4→a5→a6→a7→a8→a9→a10→a11→a12→Prop) := pick (u13 P) d
theorem pk13 {P : a0→a1→a2→a3→a4→a5→a6→a7→a8→a9→a10→a11→a12→Prop} d (h : (fun z => P z.1.1.1 z.1.1.2.1 z.1.1.2.2 z.1.2.1 z.1.2.2.1 z.1.2.2.2 z.2.1.1 z.2.1.2.1 z.2.1.2.2 z.2.2.1.1 z.2.2.1.2 z.2.2.2.1 z.2.2.2.2) (z13 d P)) : ∀ x0 x1 x2 x3 x4 x5 x6 x7 x8 x9 x10 x11 x12, P x0 x1 x2 x3 x4 x5 x6 x7 x8 x9 x10 x11 x12 := fun x0 x1 x2 x3 x4 x5 x6 x7 x8 x9 x10 x11 x12 => pick_all (p := u13 P) (d := d) h (((x0, (x1, x2)), (x3, (x4, x5))), ((x6, (x7, x8)), ((x9, x10), (x11, x12))))
noncomputable def u15 (P : a0→a1→a2→a3→a4→a5→a6→a7→a8→a9→a10→a11→a12→a13→a14→Prop) (t : (((a0 × (a1 × a2)) × ((a3 × a4) × (a5 × a6))) × (((a7 × a8) × (a9 × a10)) × ((a11 × a12) × (a13 × a14))))) := P t.1.1.1 t.1.1.2.1 t.1.1.2.2 t.1.2.1.1 t.1.2.1.2 t.1.2.2.1 t.1.2.2.2 t.2.1.1.1 t.2.1.1.2 t.2.1.2.1 t.2.1.2.2 t.2.2.1.1 t.2.2.1.2 t.2.2.2.1 t.2.2.2.2
noncomputable def z15 (d : (((a0 × (a1 × a2)) × ((a3 × a4) × (a5 × a6))) × (((a7 × a8) × (a9 × a10)) × ((a11 × a12) × (a13 × a14))))) (P : a0→a1→a2→a3→a4→a5→a6→a7→a8→a9→a10→a11→a12→a13→a14→Prop) := pick (u15 P) d
theorem pk15 {P : a0→a1→a2→a3→a4→a5→a6→a7→a8→a9→a10→a11→a12→a13→a14→Prop} d (h : (fun z => P z.1.1.1 z.1.1.2.1 z.1.1.2.2 z.1.2.1.1 z.1.2.1.2 z.1.2.2.1 z.1.2.2.2 z.2.1.1.1 z.2.1.1.2 z.2.1.2.1 z.2.1.2.2 z.2.2.1.1 z.2.2.1.2 z.2.2.2.1 z.2.2.2.2) (z15 d P)) : ∀ x0 x1 x2 x3 x4 x5 x6 x7 x8 x9 x10 x11 x12 x13 x14, P x0 x1 x2 x3 x4 x5 x6 x7 x8 x9 x10 x11 x12 x13 x14 := fun x0 x1 x2 x3 x4 x5 x6 x7 x8 x9 x10 x11 x12 x13 x14 => pick_all (p := u15 P) (d := d) h (((x0, (x1, x2)), ((x3, x4), (x5, x6))), (((x7, x8), (x9, x10)), ((x11, x12), (x13, x14))))
noncomputable def u18 (P : a0→a1→a2→a3→a4→a5→a6→a7→a8→a9→a10→a11→a12→a13→a14→a15→a16→a17→Prop) (t : ((((a0 × a1) × (a2 × a3)) × ((a4 × a5) × (a6 × (a7 × a8)))) × (((a9 × a10) × (a11 × a12)) × ((a13 × a14) × (a15 × (a16 × a17)))))) := P t.1.1.1.1 t.1.1.1.2 t.1.1.2.1 t.1.1.2.2 t.1.2.1.1 t.1.2.1.2 t.1.2.2.1 t.1.2.2.2.1 t.1.2.2.2.2 t.2.1.1.1 t.2.1.1.2 t.2.1.2.1 t.2.1.2.2 t.2.2.1.1 t.2.2.1.2 t.2.2.2.1 t.2.2.2.2.1 t.2.2.2.2.2
noncomputable def z18 (d : ((((a0 × a1) × (a2 × a3)) × ((a4 × a5) × (a6 × (a7 × a8)))) × (((a9 × a10) × (a11 × a12)) × ((a13 × a14) × (a15 × (a16 × a17)))))) (P : a0→a1→a2→a3→a4→a5→a6→a7→a8→a9→a10→a11→a12→a13→a14→a15→a16→a17→Prop) := pick (u18 P) d
theorem pk18 {P : a0→a1→a2→a3→a4→a5→a6→a7→a8→a9→a10→a11→a12→a13→a14→a15→a16→a17→Prop} d (h : (fun z => P z.1.1.1.1 z.1.1.1.2 z.1.1.2.1 z.1.1.2.2 z.1.2.1.1 z.1.2.1.2 z.1.2.2.1 z.1.2.2.2.1 z.1.2.2.2.2 z.2.1.1.1 z.2.1.1.2 z.2.1.2.1 z.2.1.2.2 z.2.2.1.1 z.2.2.1.2 z.2.2.2.1 z.2.2.2.2.1 z.2.2.2.2.2) (z18 d P)) : ∀ x0 x1 x2 x3 x4 x5 x6 x7 x8 x9 x10 x11 x12 x13 x14 x15 x16 x17, P x0 x1 x2 x3 x4 x5 x6 x7 x8 x9 x10 x11 x12 x13 x14 x15 x16 x17 := fun x0 x1 x2 x3 x4 x5 x6 x7 x8 x9 x10 x11 x12 x13 x14 x15 x16 x17 => pick_all (p := u18 P) (d := d) h ((((x0, x1), (x2, x3)), ((x4, x5), (x6, (x7, x8)))), (((x9, x10), (x11, x12)), ((x13, x14), (x15, (x16, x17)))))
noncomputable def u19 (P : a0→a1→a2→a3→a4→a5→a6→a7→a8→a9→a10→a11→a12→a13→a14→a15→a16→a17→a18→Prop) (t : ((((a0 × a1) × (a2 × a3)) × ((a4 × a5) × (a6 × (a7 × a8)))) × (((a9 × a10) × (a11 × (a12 × a13))) × ((a14 × a15) × (a16 × (a17 × a18)))))) := P t.1.1.1.1 t.1.1.1.2 t.1.1.2.1 t.1.1.2.2 t.1.2.1.1 t.1.2.1.2 t.1.2.2.1 t.1.2.2.2.1 t.1.2.2.2.2 t.2.1.1.1 t.2.1.1.2 t.2.1.2.1 t.2.1.2.2.1 t.2.1.2.2.2 t.2.2.1.1 t.2.2.1.2 t.2.2.2.1 t.2.2.2.2.1 t.2.2.2.2.2
noncomputable def z19 (d : ((((a0 × a1) × (a2 × a3)) × ((a4 × a5) × (a6 × (a7 × a8)))) × (((a9 × a10) × (a11 × (a12 × a13))) × ((a14 × a15) × (a16 × (a17 × a18)))))) (P : a0→a1→a2→a3→a4→a5→a6→a7→a8→a9→a10→a11→a12→a13→a14→a15→a16→a17→a18→Prop) := pick (u19 P) d
theorem pk19 {P : a0→a1→a2→a3→a4→a5→a6→a7→a8→a9→a10→a11→a12→a13→a14→a15→a16→a17→a18→Prop} d (h : (fun z => P z.1.1.1.1 z.1.1.1.2 z.1.1.2.1 z.1.1.2.2 z.1.2.1.1 z.1.2.1.2 z.1.2.2.1 z.1.2.2.2.1 z.1.2.2.2.2 z.2.1.1.1 z.2.1.1.2 z.2.1.2.1 z.2.1.2.2.1 z.2.1.2.2.2 z.2.2.1.1 z.2.2.1.2 z.2.2.2.1 z.2.2.2.2.1 z.2.2.2.2.2) (z19 d P)) : ∀ x0 x1 x2 x3 x4 x5 x6 x7 x8 x9 x10 x11 x12 x13 x14 x15 x16 x17 x18, P x0 x1 x2 x3 x4 x5 x6 x7 x8 x9 x10 x11 x12 x13 x14 x15 x16 x17 x18 := fun x0 x1 x2 x3 x4 x5 x6 x7 x8 x9 x10 x11 x12 x13 x14 x15 x16 x17 x18 => pick_all (p := u19 P) (d := d) h ((((x0, x1), (x2, x3)), ((x4, x5), (x6, (x7, x8)))), (((x9, x10), (x11, (x12, x13))), ((x14, x15), (x16, (x17, x18)))))
noncomputable def u24 (P : a0→a1→a2→a3→a4→a5→a6→a7→a8→a9→a10→a11→a12→a13→a14→a15→a16→a17→a18→a19→a20→a21→a22→a23→Prop) (t : ((((a0 × (a1 × a2)) × (a3 × (a4 × a5))) × ((a6 × (a7 × a8)) × (a9 × (a10 × a11)))) × (((a12 × (a13 × a14)) × (a15 × (a16 × a17))) × ((a18 × (a19 × a20)) × (a21 × (a22 × a23)))))) := P t.1.1.1.1 t.1.1.1.2.1 t.1.1.1.2.2 t.1.1.2.1 t.1.1.2.2.1 t.1.1.2.2.2 t.1.2.1.1 t.1.2.1.2.1 t.1.2.1.2.2 t.1.2.2.1 t.1.2.2.2.1 t.1.2.2.2.2 t.2.1.1.1 t.2.1.1.2.1 t.2.1.1.2.2 t.2.1.2.1 t.2.1.2.2.1 t.2.1.2.2.2 t.2.2.1.1 t.2.2.1.2.1 t.2.2.1.2.2 t.2.2.2.1 t.2.2.2.2.1 t.2.2.2.2.2
noncomputable def z24 (d : ((((a0 × (a1 × a2)) × (a3 × (a4 × a5))) × ((a6 × (a7 × a8)) × (a9 × (a10 × a11)))) × (((a12 × (a13 × a14)) × (a15 × (a16 × a17))) × ((a18 × (a19 × a20)) × (a21 × (a22 × a23)))))) (P : a0→a1→a2→a3→a4→a5→a6→a7→a8→a9→a10→a11→a12→a13→a14→a15→a16→a17→a18→a19→a20→a21→a22→a23→Prop) := pick (u24 P) d
theorem pk24 {P : a0→a1→a2→a3→a4→a5→a6→a7→a8→a9→a10→a11→a12→a13→a14→a15→a16→a17→a18→a19→a20→a21→a22→a23→Prop} d (h : (fun z => P z.1.1.1.1 z.1.1.1.2.1 z.1.1.1.2.2 z.1.1.2.1 z.1.1.2.2.1 z.1.1.2.2.2 z.1.2.1.1 z.1.2.1.2.1 z.1.2.1.2.2 z.1.2.2.1 z.1.2.2.2.1 z.1.2.2.2.2 z.2.1.1.1 z.2.1.1.2.1 z.2.1.1.2.2 z.2.1.2.1 z.2.1.2.2.1 z.2.1.2.2.2 z.2.2.1.1 z.2.2.1.2.1 z.2.2.1.2.2 z.2.2.2.1 z.2.2.2.2.1 z.2.2.2.2.2) (z24 d P)) : ∀ x0 x1 x2 x3 x4 x5 x6 x7 x8 x9 x10 x11 x12 x13 x14 x15 x16 x17 x18 x19 x20 x21 x22 x23, P x0 x1 x2 x3 x4 x5 x6 x7 x8 x9 x10 x11 x12 x13 x14 x15 x16 x17 x18 x19 x20 x21 x22 x23 := fun x0 x1 x2 x3 x4 x5 x6 x7 x8 x9 x10 x11 x12 x13 x14 x15 x16 x17 x18 x19 x20 x21 x22 x23 => pick_all (p := u24 P) (d := d) h ((((x0, (x1, x2)), (x3, (x4, x5))), ((x6, (x7, x8)), (x9, (x10, x11)))), (((x12, (x13, x14)), (x15, (x16, x17))), ((x18, (x19, x20)), (x21, (x22, x23)))))
noncomputable def u25 (P : a0→a1→a2→a3→a4→a5→a6→a7→a8→a9→a10→a11→a12→a13→a14→a15→a16→a17→a18→a19→a20→a21→a22→a23→a24→Prop) (t : ((((a0 × (a1 × a2)) × (a3 × (a4 × a5))) × ((a6 × (a7 × a8)) × (a9 × (a10 × a11)))) × (((a12 × (a13 × a14)) × (a15 × (a16 × a17))) × ((a18 × (a19 × a20)) × ((a21 × a22) × (a23 × a24)))))) := P t.1.1.1.1 t.1.1.1.2.1 t.1.1.1.2.2 t.1.1.2.1 t.1.1.2.2.1 t.1.1.2.2.2 t.1.2.1.1 t.1.2.1.2.1 t.1.2.1.2.2 t.1.2.2.1 t.1.2.2.2.1 t.1.2.2.2.2 t.2.1.1.1 t.2.1.1.2.1 t.2.1.1.2.2 t.2.1.2.1 t.2.1.2.2.1 t.2.1.2.2.2 t.2.2.1.1 t.2.2.1.2.1 t.2.2.1.2.2 t.2.2.2.1.1 t.2.2.2.1.2 t.2.2.2.2.1 t.2.2.2.2.2
noncomputable def z25 (d : ((((a0 × (a1 × a2)) × (a3 × (a4 × a5))) × ((a6 × (a7 × a8)) × (a9 × (a10 × a11)))) × (((a12 × (a13 × a14)) × (a15 × (a16 × a17))) × ((a18 × (a19 × a20)) × ((a21 × a22) × (a23 × a24)))))) (P : a0→a1→a2→a3→a4→a5→a6→a7→a8→a9→a10→a11→a12→a13→a14→a15→a16→a17→a18→a19→a20→a21→a22→a23→a24→Prop) := pick (u25 P) d
theorem pk25 {P : a0→a1→a2→a3→a4→a5→a6→a7→a8→a9→a10→a11→a12→a13→a14→a15→a16→a17→a18→a19→a20→a21→a22→a23→a24→Prop} d (h : (fun z => P z.1.1.1.1 z.1.1.1.2.1 z.1.1.1.2.2 z.1.1.2.1 z.1.1.2.2.1 z.1.1.2.2.2 z.1.2.1.1 z.1.2.1.2.1 z.1.2.1.2.2 z.1.2.2.1 z.1.2.2.2.1 z.1.2.2.2.2 z.2.1.1.1 z.2.1.1.2.1 z.2.1.1.2.2 z.2.1.2.1 z.2.1.2.2.1 z.2.1.2.2.2 z.2.2.1.1 z.2.2.1.2.1 z.2.2.1.2.2 z.2.2.2.1.1 z.2.2.2.1.2 z.2.2.2.2.1 z.2.2.2.2.2) (z25 d P)) : ∀ x0 x1 x2 x3 x4 x5 x6 x7 x8 x9 x10 x11 x12 x13 x14 x15 x16 x17 x18 x19 x20 x21 x22 x23 x24, P x0 x1 x2 x3 x4 x5 x6 x7 x8 x9 x10 x11 x12 x13 x14 x15 x16 x17 x18 x19 x20 x21 x22 x23 x24 := fun x0 x1 x2 x3 x4 x5 x6 x7 x8 x9 x10 x11 x12 x13 x14 x15 x16 x17 x18 x19 x20 x21 x22 x23 x24 => pick_all (p := u25 P) (d := d) h ((((x0, (x1, x2)), (x3, (x4, x5))), ((x6, (x7, x8)), (x9, (x10, x11)))), (((x12, (x13, x14)), (x15, (x16, x17))), ((x18, (x19, x20)), ((x21, x22), (x23, x24)))))
noncomputable def u26 (P : a0→a1→a2→a3→a4→a5→a6→a7→a8→a9→a10→a11→a12→a13→a14→a15→a16→a17→a18→a19→a20→a21→a22→a23→a24→a25→Prop) (t : ((((a0 × (a1 × a2)) × (a3 × (a4 × a5))) × ((a6 × (a7 × a8)) × ((a9 × a10) × (a11 × a12)))) × (((a13 × (a14 × a15)) × (a16 × (a17 × a18))) × ((a19 × (a20 × a21)) × ((a22 × a23) × (a24 × a25)))))) := P t.1.1.1.1 t.1.1.1.2.1 t.1.1.1.2.2 t.1.1.2.1 t.1.1.2.2.1 t.1.1.2.2.2 t.1.2.1.1 t.1.2.1.2.1 t.1.2.1.2.2 t.1.2.2.1.1 t.1.2.2.1.2 t.1.2.2.2.1 t.1.2.2.2.2 t.2.1.1.1 t.2.1.1.2.1 t.2.1.1.2.2 t.2.1.2.1 t.2.1.2.2.1 t.2.1.2.2.2 t.2.2.1.1 t.2.2.1.2.1 t.2.2.1.2.2 t.2.2.2.1.1 t.2.2.2.1.2 t.2.2.2.2.1 t.2.2.2.2.2
noncomputable def z26 (d : ((((a0 × (a1 × a2)) × (a3 × (a4 × a5))) × ((a6 × (a7 × a8)) × ((a9 × a10) × (a11 × a12)))) × (((a13 × (a14 × a15)) × (a16 × (a17 × a18))) × ((a19 × (a20 × a21)) × ((a22 × a23) × (a24 × a25)))))) (P : a0→a1→a2→a3→a4→a5→a6→a7→a8→a9→a10→a11→a12→a13→a14→a15→a16→a17→a18→a19→a20→a21→a22→a23→a24→a25→Prop) := pick (u26 P) d
theorem pk26 {P : a0→a1→a2→a3→a4→a5→a6→a7→a8→a9→a10→a11→a12→a13→a14→a15→a16→a17→a18→a19→a20→a21→a22→a23→a24→a25→Prop} d (h : (fun z => P z.1.1.1.1 z.1.1.1.2.1 z.1.1.1.2.2 z.1.1.2.1 z.1.1.2.2.1 z.1.1.2.2.2 z.1.2.1.1 z.1.2.1.2.1 z.1.2.1.2.2 z.1.2.2.1.1 z.1.2.2.1.2 z.1.2.2.2.1 z.1.2.2.2.2 z.2.1.1.1 z.2.1.1.2.1 z.2.1.1.2.2 z.2.1.2.1 z.2.1.2.2.1 z.2.1.2.2.2 z.2.2.1.1 z.2.2.1.2.1 z.2.2.1.2.2 z.2.2.2.1.1 z.2.2.2.1.2 z.2.2.2.2.1 z.2.2.2.2.2) (z26 d P)) : ∀ x0 x1 x2 x3 x4 x5 x6 x7 x8 x9 x10 x11 x12 x13 x14 x15 x16 x17 x18 x19 x20 x21 x22 x23 x24 x25, P x0 x1 x2 x3 x4 x5 x6 x7 x8 x9 x10 x11 x12 x13 x14 x15 x16 x17 x18 x19 x20 x21 x22 x23 x24 x25 := fun x0 x1 x2 x3 x4 x5 x6 x7 x8 x9 x10 x11 x12 x13 x14 x15 x16 x17 x18 x19 x20 x21 x22 x23 x24 x25 => pick_all (p := u26 P) (d := d) h ((((x0, (x1, x2)), (x3, (x4, x5))), ((x6, (x7, x8)), ((x9, x10), (x11, x12)))), (((x13, (x14, x15)), (x16, (x17, x18))), ((x19, (x20, x21)), ((x22, x23), (x24, x25)))))
noncomputable def u28 (P : a0→a1→a2→a3→a4→a5→a6→a7→a8→a9→a10→a11→a12→a13→a14→a15→a16→a17→a18→a19→a20→a21→a22→a23→a24→a25→a26→a27→Prop) (t : ((((a0 × (a1 × a2)) × ((a3 × a4) × (a5 × a6))) × ((a7 × (a8 × a9)) × ((a10 × a11) × (a12 × a13)))) × (((a14 × (a15 × a16)) × ((a17 × a18) × (a19 × a20))) × ((a21 × (a22 × a23)) × ((a24 × a25) × (a26 × a27)))))) := P t.1.1.1.1 t.1.1.1.2.1 t.1.1.1.2.2 t.1.1.2.1.1 t.1.1.2.1.2 t.1.1.2.2.1 t.1.1.2.2.2 t.1.2.1.1 t.1.2.1.2.1 t.1.2.1.2.2 t.1.2.2.1.1 t.1.2.2.1.2 t.1.2.2.2.1 t.1.2.2.2.2 t.2.1.1.1 t.2.1.1.2.1 t.2.1.1.2.2 t.2.1.2.1.1 t.2.1.2.1.2 t.2.1.2.2.1 t.2.1.2.2.2 t.2.2.1.1 t.2.2.1.2.1 t.2.2.1.2.2 t.2.2.2.1.1 t.2.2.2.1.2 t.2.2.2.2.1 t.2.2.2.2.2
noncomputable def z28 (d : ((((a0 × (a1 × a2)) × ((a3 × a4) × (a5 × a6))) × ((a7 × (a8 × a9)) × ((a10 × a11) × (a12 × a13)))) × (((a14 × (a15 × a16)) × ((a17 × a18) × (a19 × a20))) × ((a21 × (a22 × a23)) × ((a24 × a25) × (a26 × a27)))))) (P : a0→a1→a2→a3→a4→a5→a6→a7→a8→a9→a10→a11→a12→a13→a14→a15→a16→a17→a18→a19→a20→a21→a22→a23→a24→a25→a26→a27→Prop) := pick (u28 P) d
theorem pk28 {P : a0→a1→a2→a3→a4→a5→a6→a7→a8→a9→a10→a11→a12→a13→a14→a15→a16→a17→a18→a19→a20→a21→a22→a23→a24→a25→a26→a27→Prop} d (h : (fun z => P z.1.1.1.1 z.1.1.1.2.1 z.1.1.1.2.2 z.1.1.2.1.1 z.1.1.2.1.2 z.1.1.2.2.1 z.1.1.2.2.2 z.1.2.1.1 z.1.2.1.2.1 z.1.2.1.2.2 z.1.2.2.1.1 z.1.2.2.1.2 z.1.2.2.2.1 z.1.2.2.2.2 z.2.1.1.1 z.2.1.1.2.1 z.2.1.1.2.2 z.2.1.2.1.1 z.2.1.2.1.2 z.2.1.2.2.1 z.2.1.2.2.2 z.2.2.1.1 z.2.2.1.2.1 z.2.2.1.2.2 z.2.2.2.1.1 z.2.2.2.1.2 z.2.2.2.2.1 z.2.2.2.2.2) (z28 d P)) : ∀ x0 x1 x2 x3 x4 x5 x6 x7 x8 x9 x10 x11 x12 x13 x14 x15 x16 x17 x18 x19 x20 x21 x22 x23 x24 x25 x26 x27, P x0 x1 x2 x3 x4 x5 x6 x7 x8 x9 x10 x11 x12 x13 x14 x15 x16 x17 x18 x19 x20 x21 x22 x23 x24 x25 x26 x27 := fun x0 x1 x2 x3 x4 x5 x6 x7 x8 x9 x10 x11 x12 x13 x14 x15 x16 x17 x18 x19 x20 x21 x22 x23 x24 x25 x26 x27 => pick_all (p := u28 P) (d := d) h ((((x0, (x1, x2)), ((x3, x4), (x5, x6))), ((x7, (x8, x9)), ((x10, x11), (x12, x13)))), (((x14, (x15, x16)), ((x17, x18), (x19, x20))), ((x21, (x22, x23)), ((x24, x25), (x26, x27)))))
noncomputable def u29 (P : a0→a1→a2→a3→a4→a5→a6→a7→a8→a9→a10→a11→a12→a13→a14→a15→a16→a17→a18→a19→a20→a21→a22→a23→a24→a25→a26→a27→a28→Prop) (t : ((((a0 × (a1 × a2)) × ((a3 × a4) × (a5 × a6))) × ((a7 × (a8 × a9)) × ((a10 × a11) × (a12 × a13)))) × (((a14 × (a15 × a16)) × ((a17 × a18) × (a19 × a20))) × (((a21 × a22) × (a23 × a24)) × ((a25 × a26) × (a27 × a28)))))) := P t.1.1.1.1 t.1.1.1.2.1 t.1.1.1.2.2 t.1.1.2.1.1 t.1.1.2.1.2 t.1.1.2.2.1 t.1.1.2.2.2 t.1.2.1.1 t.1.2.1.2.1 t.1.2.1.2.2 t.1.2.2.1.1 t.1.2.2.1.2 t.1.2.2.2.1 t.1.2.2.2.2 t.2.1.1.1 t.2.1.1.2.1 t.2.1.1.2.2 t.2.1.2.1.1 t.2.1.2.1.2 t.2.1.2.2.1 t.2.1.2.2.2 t.2.2.1.1.1 t.2.2.1.1.2 t.2.2.1.2.1 t.2.2.1.2.2 t.2.2.2.1.1 t.2.2.2.1.2 t.2.2.2.2.1 t.2.2.2.2.2
noncomputable def z29 (d : ((((a0 × (a1 × a2)) × ((a3 × a4) × (a5 × a6))) × ((a7 × (a8 × a9)) × ((a10 × a11) × (a12 × a13)))) × (((a14 × (a15 × a16)) × ((a17 × a18) × (a19 × a20))) × (((a21 × a22) × (a23 × a24)) × ((a25 × a26) × (a27 × a28)))))) (P : a0→a1→a2→a3→a4→a5→a6→a7→a8→a9→a10→a11→a12→a13→a14→a15→a16→a17→a18→a19→a20→a21→a22→a23→a24→a25→a26→a27→a28→Prop) := pick (u29 P) d
theorem pk29 {P : a0→a1→a2→a3→a4→a5→a6→a7→a8→a9→a10→a11→a12→a13→a14→a15→a16→a17→a18→a19→a20→a21→a22→a23→a24→a25→a26→a27→a28→Prop} d (h : (fun z => P z.1.1.1.1 z.1.1.1.2.1 z.1.1.1.2.2 z.1.1.2.1.1 z.1.1.2.1.2 z.1.1.2.2.1 z.1.1.2.2.2 z.1.2.1.1 z.1.2.1.2.1 z.1.2.1.2.2 z.1.2.2.1.1 z.1.2.2.1.2 z.1.2.2.2.1 z.1.2.2.2.2 z.2.1.1.1 z.2.1.1.2.1 z.2.1.1.2.2 z.2.1.2.1.1 z.2.1.2.1.2 z.2.1.2.2.1 z.2.1.2.2.2 z.2.2.1.1.1 z.2.2.1.1.2 z.2.2.1.2.1 z.2.2.1.2.2 z.2.2.2.1.1 z.2.2.2.1.2 z.2.2.2.2.1 z.2.2.2.2.2) (z29 d P)) : ∀ x0 x1 x2 x3 x4 x5 x6 x7 x8 x9 x10 x11 x12 x13 x14 x15 x16 x17 x18 x19 x20 x21 x22 x23 x24 x25 x26 x27 x28, P x0 x1 x2 x3 x4 x5 x6 x7 x8 x9 x10 x11 x12 x13 x14 x15 x16 x17 x18 x19 x20 x21 x22 x23 x24 x25 x26 x27 x28 := fun x0 x1 x2 x3 x4 x5 x6 x7 x8 x9 x10 x11 x12 x13 x14 x15 x16 x17 x18 x19 x20 x21 x22 x23 x24 x25 x26 x27 x28 => pick_all (p := u29 P) (d := d) h ((((x0, (x1, x2)), ((x3, x4), (x5, x6))), ((x7, (x8, x9)), ((x10, x11), (x12, x13)))), (((x14, (x15, x16)), ((x17, x18), (x19, x20))), (((x21, x22), (x23, x24)), ((x25, x26), (x27, x28)))))
noncomputable def u30 (P : a0→a1→a2→a3→a4→a5→a6→a7→a8→a9→a10→a11→a12→a13→a14→a15→a16→a17→a18→a19→a20→a21→a22→a23→a24→a25→a26→a27→a28→a29→Prop) (t : ((((a0 × (a1 × a2)) × ((a3 × a4) × (a5 × a6))) × (((a7 × a8) × (a9 × a10)) × ((a11 × a12) × (a13 × a14)))) × (((a15 × (a16 × a17)) × ((a18 × a19) × (a20 × a21))) × (((a22 × a23) × (a24 × a25)) × ((a26 × a27) × (a28 × a29)))))) := P t.1.1.1.1 t.1.1.1.2.1 t.1.1.1.2.2 t.1.1.2.1.1 t.1.1.2.1.2 t.1.1.2.2.1 t.1.1.2.2.2 t.1.2.1.1.1 t.1.2.1.1.2 t.1.2.1.2.1 t.1.2.1.2.2 t.1.2.2.1.1 t.1.2.2.1.2 t.1.2.2.2.1 t.1.2.2.2.2 t.2.1.1.1 t.2.1.1.2.1 t.2.1.1.2.2 t.2.1.2.1.1 t.2.1.2.1.2 t.2.1.2.2.1 t.2.1.2.2.2 t.2.2.1.1.1 t.2.2.1.1.2 t.2.2.1.2.1 t.2.2.1.2.2 t.2.2.2.1.1 t.2.2.2.1.2 t.2.2.2.2.1 t.2.2.2.2.2
noncomputable def z30 (d : ((((a0 × (a1 × a2)) × ((a3 × a4) × (a5 × a6))) × (((a7 × a8) × (a9 × a10)) × ((a11 × a12) × (a13 × a14)))) × (((a15 × (a16 × a17)) × ((a18 × a19) × (a20 × a21))) × (((a22 × a23) × (a24 × a25)) × ((a26 × a27) × (a28 × a29)))))) (P : a0→a1→a2→a3→a4→a5→a6→a7→a8→a9→a10→a11→a12→a13→a14→a15→a16→a17→a18→a19→a20→a21→a22→a23→a24→a25→a26→a27→a28→a29→Prop) := pick (u30 P) d
theorem pk30 {P : a0→a1→a2→a3→a4→a5→a6→a7→a8→a9→a10→a11→a12→a13→a14→a15→a16→a17→a18→a19→a20→a21→a22→a23→a24→a25→a26→a27→a28→a29→Prop} d (h : (fun z => P z.1.1.1.1 z.1.1.1.2.1 z.1.1.1.2.2 z.1.1.2.1.1 z.1.1.2.1.2 z.1.1.2.2.1 z.1.1.2.2.2 z.1.2.1.1.1 z.1.2.1.1.2 z.1.2.1.2.1 z.1.2.1.2.2 z.1.2.2.1.1 z.1.2.2.1.2 z.1.2.2.2.1 z.1.2.2.2.2 z.2.1.1.1 z.2.1.1.2.1 z.2.1.1.2.2 z.2.1.2.1.1 z.2.1.2.1.2 z.2.1.2.2.1 z.2.1.2.2.2 z.2.2.1.1.1 z.2.2.1.1.2 z.2.2.1.2.1 z.2.2.1.2.2 z.2.2.2.1.1 z.2.2.2.1.2 z.2.2.2.2.1 z.2.2.2.2.2) (z30 d P)) : ∀ x0 x1 x2 x3 x4 x5 x6 x7 x8 x9 x10 x11 x12 x13 x14 x15 x16 x17 x18 x19 x20 x21 x22 x23 x24 x25 x26 x27 x28 x29, P x0 x1 x2 x3 x4 x5 x6 x7 x8 x9 x10 x11 x12 x13 x14 x15 x16 x17 x18 x19 x20 x21 x22 x23 x24 x25 x26 x27 x28 x29 := fun x0 x1 x2 x3 x4 x5 x6 x7 x8 x9 x10 x11 x12 x13 x14 x15 x16 x17 x18 x19 x20 x21 x22 x23 x24 x25 x26 x27 x28 x29 => pick_all (p := u30 P) (d := d) h ((((x0, (x1, x2)), ((x3, x4), (x5, x6))), (((x7, x8), (x9, x10)), ((x11, x12), (x13, x14)))), (((x15, (x16, x17)), ((x18, x19), (x20, x21))), (((x22, x23), (x24, x25)), ((x26, x27), (x28, x29)))))
noncomputable def u32 (P : a0→a1→a2→a3→a4→a5→a6→a7→a8→a9→a10→a11→a12→a13→a14→a15→a16→a17→a18→a19→a20→a21→a22→a23→a24→a25→a26→a27→a28→a29→a30→a31→Prop) (t : (((((a0 × a1) × (a2 × a3)) × ((a4 × a5) × (a6 × a7))) × (((a8 × a9) × (a10 × a11)) × ((a12 × a13) × (a14 × a15)))) × ((((a16 × a17) × (a18 × a19)) × ((a20 × a21) × (a22 × a23))) × (((a24 × a25) × (a26 × a27)) × ((a28 × a29) × (a30 × a31)))))) := P t.1.1.1.1.1 t.1.1.1.1.2 t.1.1.1.2.1 t.1.1.1.2.2 t.1.1.2.1.1 t.1.1.2.1.2 t.1.1.2.2.1 t.1.1.2.2.2 t.1.2.1.1.1 t.1.2.1.1.2 t.1.2.1.2.1 t.1.2.1.2.2 t.1.2.2.1.1 t.1.2.2.1.2 t.1.2.2.2.1 t.1.2.2.2.2 t.2.1.1.1.1 t.2.1.1.1.2 t.2.1.1.2.1 t.2.1.1.2.2 t.2.1.2.1.1 t.2.1.2.1.2 t.2.1.2.2.1 t.2.1.2.2.2 t.2.2.1.1.1 t.2.2.1.1.2 t.2.2.1.2.1 t.2.2.1.2.2 t.2.2.2.1.1 t.2.2.2.1.2 t.2.2.2.2.1 t.2.2.2.2.2
noncomputable def z32 (d : (((((a0 × a1) × (a2 × a3)) × ((a4 × a5) × (a6 × a7))) × (((a8 × a9) × (a10 × a11)) × ((a12 × a13) × (a14 × a15)))) × ((((a16 × a17) × (a18 × a19)) × ((a20 × a21) × (a22 × a23))) × (((a24 × a25) × (a26 × a27)) × ((a28 × a29) × (a30 × a31)))))) (P : a0→a1→a2→a3→a4→a5→a6→a7→a8→a9→a10→a11→a12→a13→a14→a15→a16→a17→a18→a19→a20→a21→a22→a23→a24→a25→a26→a27→a28→a29→a30→a31→Prop) := pick (u32 P) d
theorem pk32 {P : a0→a1→a2→a3→a4→a5→a6→a7→a8→a9→a10→a11→a12→a13→a14→a15→a16→a17→a18→a19→a20→a21→a22→a23→a24→a25→a26→a27→a28→a29→a30→a31→Prop} d (h : (fun z => P z.1.1.1.1.1 z.1.1.1.1.2 z.1.1.1.2.1 z.1.1.1.2.2 z.1.1.2.1.1 z.1.1.2.1.2 z.1.1.2.2.1 z.1.1.2.2.2 z.1.2.1.1.1 z.1.2.1.1.2 z.1.2.1.2.1 z.1.2.1.2.2 z.1.2.2.1.1 z.1.2.2.1.2 z.1.2.2.2.1 z.1.2.2.2.2 z.2.1.1.1.1 z.2.1.1.1.2 z.2.1.1.2.1 z.2.1.1.2.2 z.2.1.2.1.1 z.2.1.2.1.2 z.2.1.2.2.1 z.2.1.2.2.2 z.2.2.1.1.1 z.2.2.1.1.2 z.2.2.1.2.1 z.2.2.1.2.2 z.2.2.2.1.1 z.2.2.2.1.2 z.2.2.2.2.1 z.2.2.2.2.2) (z32 d P)) : ∀ x0 x1 x2 x3 x4 x5 x6 x7 x8 x9 x10 x11 x12 x13 x14 x15 x16 x17 x18 x19 x20 x21 x22 x23 x24 x25 x26 x27 x28 x29 x30 x31, P x0 x1 x2 x3 x4 x5 x6 x7 x8 x9 x10 x11 x12 x13 x14 x15 x16 x17 x18 x19 x20 x21 x22 x23 x24 x25 x26 x27 x28 x29 x30 x31 := fun x0 x1 x2 x3 x4 x5 x6 x7 x8 x9 x10 x11 x12 x13 x14 x15 x16 x17 x18 x19 x20 x21 x22 x23 x24 x25 x26 x27 x28 x29 x30 x31 => pick_all (p := u32 P) (d := d) h (((((x0, x1), (x2, x3)), ((x4, x5), (x6, x7))), (((x8, x9), (x10, x11)), ((x12, x13), (x14, x15)))), ((((x16, x17), (x18, x19)), ((x20, x21), (x22, x23))), (((x24, x25), (x26, x27)), ((x28, x29), (x30, x31)))))
noncomputable def u34 (P : a0→a1→a2→a3→a4→a5→a6→a7→a8→a9→a10→a11→a12→a13→a14→a15→a16→a17→a18→a19→a20→a21→a22→a23→a24→a25→a26→a27→a28→a29→a30→a31→a32→a33→Prop) (t : (((((a0 × a1) × (a2 × a3)) × ((a4 × a5) × (a6 × a7))) × (((a8 × a9) × (a10 × a11)) × ((a12 × a13) × (a14 × (a15 × a16))))) × ((((a17 × a18) × (a19 × a20)) × ((a21 × a22) × (a23 × a24))) × (((a25 × a26) × (a27 × a28)) × ((a29 × a30) × (a31 × (a32 × a33))))))) := P t.1.1.1.1.1 t.1.1.1.1.2 t.1.1.1.2.1 t.1.1.1.2.2 t.1.1.2.1.1 t.1.1.2.1.2 t.1.1.2.2.1 t.1.1.2.2.2 t.1.2.1.1.1 t.1.2.1.1.2 t.1.2.1.2.1 t.1.2.1.2.2 t.1.2.2.1.1 t.1.2.2.1.2 t.1.2.2.2.1 t.1.2.2.2.2.1 t.1.2.2.2.2.2 t.2.1.1.1.1 t.2.1.1.1.2 t.2.1.1.2.1 t.2.1.1.2.2 t.2.1.2.1.1 t.2.1.2.1.2 t.2.1.2.2.1 t.2.1.2.2.2 t.2.2.1.1.1 t.2.2.1.1.2 t.2.2.1.2.1 t.2.2.1.2.2 t.2.2.2.1.1 t.2.2.2.1.2 t.2.2.2.2.1 t.2.2.2.2.2.1 t.2.2.2.2.2.2
noncomputable def z34 (d : (((((a0 × a1) × (a2 × a3)) × ((a4 × a5) × (a6 × a7))) × (((a8 × a9) × (a10 × a11)) × ((a12 × a13) × (a14 × (a15 × a16))))) × ((((a17 × a18) × (a19 × a20)) × ((a21 × a22) × (a23 × a24))) × (((a25 × a26) × (a27 × a28)) × ((a29 × a30) × (a31 × (a32 × a33))))))) (P : a0→a1→a2→a3→a4→a5→a6→a7→a8→a9→a10→a11→a12→a13→a14→a15→a16→a17→a18→a19→a20→a21→a22→a23→a24→a25→a26→a27→a28→a29→a30→a31→a32→a33→Prop) := pick (u34 P) d
theorem pk34 {P : a0→a1→a2→a3→a4→a5→a6→a7→a8→a9→a10→a11→a12→a13→a14→a15→a16→a17→a18→a19→a20→a21→a22→a23→a24→a25→a26→a27→a28→a29→a30→a31→a32→a33→Prop} d (h : (fun z => P z.1.1.1.1.1 z.1.1.1.1.2 z.1.1.1.2.1 z.1.1.1.2.2 z.1.1.2.1.1 z.1.1.2.1.2 z.1.1.2.2.1 z.1.1.2.2.2 z.1.2.1.1.1 z.1.2.1.1.2 z.1.2.1.2.1 z.1.2.1.2.2 z.1.2.2.1.1 z.1.2.2.1.2 z.1.2.2.2.1 z.1.2.2.2.2.1 z.1.2.2.2.2.2 z.2.1.1.1.1 z.2.1.1.1.2 z.2.1.1.2.1 z.2.1.1.2.2 z.2.1.2.1.1 z.2.1.2.1.2 z.2.1.2.2.1 z.2.1.2.2.2 z.2.2.1.1.1 z.2.2.1.1.2 z.2.2.1.2.1 z.2.2.1.2.2 z.2.2.2.1.1 z.2.2.2.1.2 z.2.2.2.2.1 z.2.2.2.2.2.1 z.2.2.2.2.2.2) (z34 d P)) : ∀ x0 x1 x2 x3 x4 x5 x6 x7 x8 x9 x10 x11 x12 x13 x14 x15 x16 x17 x18 x19 x20 x21 x22 x23 x24 x25 x26 x27 x28 x29 x30 x31 x32 x33, P x0 x1 x2 x3 x4 x5 x6 x7 x8 x9 x10 x11 x12 x13 x14 x15 x16 x17 x18 x19 x20 x21 x22 x23 x24 x25 x26 x27 x28 x29 x30 x31 x32 x33 := fun x0 x1 x2 x3 x4 x5 x6 x7 x8 x9 x10 x11 x12 x13 x14 x15 x16 x17 x18 x19 x20 x21 x22 x23 x24 x25 x26 x27 x28 x29 x30 x31 x32 x33 => pick_all (p := u34 P) (d := d) h (((((x0, x1), (x2, x3)), ((x4, x5), (x6, x7))), (((x8, x9), (x10, x11)), ((x12, x13), (x14, (x15, x16))))), ((((x17, x18), (x19, x20)), ((x21, x22), (x23, x24))), (((x25, x26), (x27, x28)), ((x29, x30), (x31, (x32, x33))))))
noncomputable def u39 (P : a0→a1→a2→a3→a4→a5→a6→a7→a8→a9→a10→a11→a12→a13→a14→a15→a16→a17→a18→a19→a20→a21→a22→a23→a24→a25→a26→a27→a28→a29→a30→a31→a32→a33→a34→a35→a36→a37→a38→Prop) (t : (((((a0 × a1) × (a2 × a3)) × ((a4 × a5) × (a6 × (a7 × a8)))) × (((a9 × a10) × (a11 × (a12 × a13))) × ((a14 × a15) × (a16 × (a17 × a18))))) × ((((a19 × a20) × (a21 × (a22 × a23))) × ((a24 × a25) × (a26 × (a27 × a28)))) × (((a29 × a30) × (a31 × (a32 × a33))) × ((a34 × a35) × (a36 × (a37 × a38))))))) := P t.1.1.1.1.1 t.1.1.1.1.2 t.1.1.1.2.1 t.1.1.1.2.2 t.1.1.2.1.1 t.1.1.2.1.2 t.1.1.2.2.1 t.1.1.2.2.2.1 t.1.1.2.2.2.2 t.1.2.1.1.1 t.1.2.1.1.2 t.1.2.1.2.1 t.1.2.1.2.2.1 t.1.2.1.2.2.2 t.1.2.2.1.1 t.1.2.2.1.2 t.1.2.2.2.1 t.1.2.2.2.2.1 t.1.2.2.2.2.2 t.2.1.1.1.1 t.2.1.1.1.2 t.2.1.1.2.1 t.2.1.1.2.2.1 t.2.1.1.2.2.2 t.2.1.2.1.1 t.2.1.2.1.2 t.2.1.2.2.1 t.2.1.2.2.2.1 t.2.1.2.2.2.2 t.2.2.1.1.1 t.2.2.1.1.2 t.2.2.1.2.1 t.2.2.1.2.2.1 t.2.2.1.2.2.2 t.2.2.2.1.1 t.2.2.2.1.2 t.2.2.2.2.1 t.2.2.2.2.2.1 t.2.2.2.2.2.2
noncomputable def z39 (d : (((((a0 × a1) × (a2 × a3)) × ((a4 × a5) × (a6 × (a7 × a8)))) × (((a9 × a10) × (a11 × (a12 × a13))) × ((a14 × a15) × (a16 × (a17 × a18))))) × ((((a19 × a20) × (a21 × (a22 × a23))) × ((a24 × a25) × (a26 × (a27 × a28)))) × (((a29 × a30) × (a31 × (a32 × a33))) × ((a34 × a35) × (a36 × (a37 × a38))))))) (P : a0→a1→a2→a3→a4→a5→a6→a7→a8→a9→a10→a11→a12→a13→a14→a15→a16→a17→a18→a19→a20→a21→a22→a23→a24→a25→a26→a27→a28→a29→a30→a31→a32→a33→a34→a35→a36→a37→a38→Prop) := pick (u39 P) d
theorem pk39 {P : a0→a1→a2→a3→a4→a5→a6→a7→a8→a9→a10→a11→a12→a13→a14→a15→a16→a17→a18→a19→a20→a21→a22→a23→a24→a25→a26→a27→a28→a29→a30→a31→a32→a33→a34→a35→a36→a37→a38→Prop} d (h : (fun z => P z.1.1.1.1.1 z.1.1.1.1.2 z.1.1.1.2.1 z.1.1.1.2.2 z.1.1.2.1.1 z.1.1.2.1.2 z.1.1.2.2.1 z.1.1.2.2.2.1 z.1.1.2.2.2.2 z.1.2.1.1.1 z.1.2.1.1.2 z.1.2.1.2.1 z.1.2.1.2.2.1 z.1.2.1.2.2.2 z.1.2.2.1.1 z.1.2.2.1.2 z.1.2.2.2.1 z.1.2.2.2.2.1 z.1.2.2.2.2.2 z.2.1.1.1.1 z.2.1.1.1.2 z.2.1.1.2.1 z.2.1.1.2.2.1 z.2.1.1.2.2.2 z.2.1.2.1.1 z.2.1.2.1.2 z.2.1.2.2.1 z.2.1.2.2.2.1 z.2.1.2.2.2.2 z.2.2.1.1.1 z.2.2.1.1.2 z.2.2.1.2.1 z.2.2.1.2.2.1 z.2.2.1.2.2.2 z.2.2.2.1.1 z.2.2.2.1.2 z.2.2.2.2.1 z.2.2.2.2.2.1 z.2.2.2.2.2.2) (z39 d P)) : ∀ x0 x1 x2 x3 x4 x5 x6 x7 x8 x9 x10 x11 x12 x13 x14 x15 x16 x17 x18 x19 x20 x21 x22 x23 x24 x25 x26 x27 x28 x29 x30 x31 x32 x33 x34 x35 x36 x37 x38, P x0 x1 x2 x3 x4 x5 x6 x7 x8 x9 x10 x11 x12 x13 x14 x15 x16 x17 x18 x19 x20 x21 x22 x23 x24 x25 x26 x27 x28 x29 x30 x31 x32 x33 x34 x35 x36 x37 x38 := fun x0 x1 x2 x3 x4 x5 x6 x7 x8 x9 x10 x11 x12 x13 x14 x15 x16 x17 x18 x19 x20 x21 x22 x23 x24 x25 x26 x27 x28 x29 x30 x31 x32 x33 x34 x35 x36 x37 x38 => pick_all (p := u39 P) (d := d) h (((((x0, x1), (x2, x3)), ((x4, x5), (x6, (x7, x8)))), (((x9, x10), (x11, (x12, x13))), ((x14, x15), (x16, (x17, x18))))), ((((x19, x20), (x21, (x22, x23))), ((x24, x25), (x26, (x27, x28)))), (((x29, x30), (x31, (x32, x33))), ((x34, x35), (x36, (x37, x38))))))
noncomputable def u42 (P : a0→a1→a2→a3→a4→a5→a6→a7→a8→a9→a10→a11→a12→a13→a14→a15→a16→a17→a18→a19→a20→a21→a22→a23→a24→a25→a26→a27→a28→a29→a30→a31→a32→a33→a34→a35→a36→a37→a38→a39→a40→a41→Prop) (t : (((((a0 × a1) × (a2 × (a3 × a4))) × ((a5 × a6) × (a7 × (a8 × a9)))) × (((a10 × a11) × (a12 × (a13 × a14))) × ((a15 × (a16 × a17)) × (a18 × (a19 × a20))))) × ((((a21 × a22) × (a23 × (a24 × a25))) × ((a26 × a27) × (a28 × (a29 × a30)))) × (((a31 × a32) × (a33 × (a34 × a35))) × ((a36 × (a37 × a38)) × (a39 × (a40 × a41))))))) := P t.1.1.1.1.1 t.1.1.1.1.2 t.1.1.1.2.1 t.1.1.1.2.2.1 t.1.1.1.2.2.2 t.1.1.2.1.1 t.1.1.2.1.2 t.1.1.2.2.1 t.1.1.2.2.2.1 t.1.1.2.2.2.2 t.1.2.1.1.1 t.1.2.1.1.2 t.1.2.1.2.1 t.1.2.1.2.2.1 t.1.2.1.2.2.2 t.1.2.2.1.1 t.1.2.2.1.2.1 t.1.2.2.1.2.2 t.1.2.2.2.1 t.1.2.2.2.2.1 t.1.2.2.2.2.2 t.2.1.1.1.1 t.2.1.1.1.2 t.2.1.1.2.1 t.2.1.1.2.2.1 t.2.1.1.2.2.2 t.2.1.2.1.1 t.2.1.2.1.2 t.2.1.2.2.1 t.2.1.2.2.2.1 t.2.1.2.2.2.2 t.2.2.1.1.1 t.2.2.1.1.2 t.2.2.1.2.1 t.2.2.1.2.2.1 t.2.2.1.2.2.2 t.2.2.2.1.1 t.2.2.2.1.2.1 t.2.2.2.1.2.2 t.2.2.2.2.1 t.2.2.2.2.2.1 t.2.2.2.2.2.2
noncomputable def z42 (d : (((((a0 × a1) × (a2 × (a3 × a4))) × ((a5 × a6) × (a7 × (a8 × a9)))) × (((a10 × a11) × (a12 × (a13 × a14))) × ((a15 × (a16 × a17)) × (a18 × (a19 × a20))))) × ((((a21 × a22) × (a23 × (a24 × a25))) × ((a26 × a27) × (a28 × (a29 × a30)))) × (((a31 × a32) × (a33 × (a34 × a35))) × ((a36 × (a37 × a38)) × (a39 × (a40 × a41))))))) (P : a0→a1→a2→a3→a4→a5→a6→a7→a8→a9→a10→a11→a12→a13→a14→a15→a16→a17→a18→a19→a20→a21→a22→a23→a24→a25→a26→a27→a28→a29→a30→a31→a32→a33→a34→a35→a36→a37→a38→a39→a40→a41→Prop) := pick (u42 P) d
theorem pk42 {P : a0→a1→a2→a3→a4→a5→a6→a7→a8→a9→a10→a11→a12→a13→a14→a15→a16→a17→a18→a19→a20→a21→a22→a23→a24→a25→a26→a27→a28→a29→a30→a31→a32→a33→a34→a35→a36→a37→a38→a39→a40→a41→Prop} d (h : (fun z => P z.1.1.1.1.1 z.1.1.1.1.2 z.1.1.1.2.1 z.1.1.1.2.2.1 z.1.1.1.2.2.2 z.1.1.2.1.1 z.1.1.2.1.2 z.1.1.2.2.1 z.1.1.2.2.2.1 z.1.1.2.2.2.2 z.1.2.1.1.1 z.1.2.1.1.2 z.1.2.1.2.1 z.1.2.1.2.2.1 z.1.2.1.2.2.2 z.1.2.2.1.1 z.1.2.2.1.2.1 z.1.2.2.1.2.2 z.1.2.2.2.1 z.1.2.2.2.2.1 z.1.2.2.2.2.2 z.2.1.1.1.1 z.2.1.1.1.2 z.2.1.1.2.1 z.2.1.1.2.2.1 z.2.1.1.2.2.2 z.2.1.2.1.1 z.2.1.2.1.2 z.2.1.2.2.1 z.2.1.2.2.2.1 z.2.1.2.2.2.2 z.2.2.1.1.1 z.2.2.1.1.2 z.2.2.1.2.1 z.2.2.1.2.2.1 z.2.2.1.2.2.2 z.2.2.2.1.1 z.2.2.2.1.2.1 z.2.2.2.1.2.2 z.2.2.2.2.1 z.2.2.2.2.2.1 z.2.2.2.2.2.2) (z42 d P)) : ∀ x0 x1 x2 x3 x4 x5 x6 x7 x8 x9 x10 x11 x12 x13 x14 x15 x16 x17 x18 x19 x20 x21 x22 x23 x24 x25 x26 x27 x28 x29 x30 x31 x32 x33 x34 x35 x36 x37 x38 x39 x40 x41, P x0 x1 x2 x3 x4 x5 x6 x7 x8 x9 x10 x11 x12 x13 x14 x15 x16 x17 x18 x19 x20 x21 x22 x23 x24 x25 x26 x27 x28 x29 x30 x31 x32 x33 x34 x35 x36 x37 x38 x39 x40 x41 := fun x0 x1 x2 x3 x4 x5 x6 x7 x8 x9 x10 x11 x12 x13 x14 x15 x16 x17 x18 x19 x20 x21 x22 x23 x24 x25 x26 x27 x28 x29 x30 x31 x32 x33 x34 x35 x36 x37 x38 x39 x40 x41 => pick_all (p := u42 P) (d := d) h (((((x0, x1), (x2, (x3, x4))), ((x5, x6), (x7, (x8, x9)))), (((x10, x11), (x12, (x13, x14))), ((x15, (x16, x17)), (x18, (x19, x20))))), ((((x21, x22), (x23, (x24, x25))), ((x26, x27), (x28, (x29, x30)))), (((x31, x32), (x33, (x34, x35))), ((x36, (x37, x38)), (x39, (x40, x41))))))
end
noncomputable def w00 : World := ⟨fun _ _ => 0, { strHash := fun _ => 0, shareClass := id, mergeTok := id, idOf := fun _ => 0, idOfShared := fun _ _ => 0, followText := fun _ => false, idOfImm := fun _ => 0 }⟩
noncomputable def s00 : Shared := { heap := default, gens := #[], drawn := {}, toks := 0, os := default }
structure BOk (w : World) (base : Heap) : Prop where
 X : (Mine.hd.heap_39 w.params).In base
 T : E5 fun (p : Program) (loose : List Str) (mean : ExcName → Option Value) (mg mb : Str → Option Value) => Top p loose mean mg mb base
def Off (fr : List Env) (b : Addr) : Prop := ∀ e ∈ fr, e.frame ≠ some b
def Cx (w : World) (fr : List Env) (h : Heap) (mu : List Addr) : Prop :=
 E7 fun (A₀ : Around) (base h₀ : Heap) (outer : List Env) (L : Addr) (m : Str → Option Value) (env : Env) => A7 (fr = env :: outer) (Below A₀ base outer h₀) (Fr h₀ L h m) (BOk w base) (env.frame = some L) (env.scope.kind = .function) (∀ b ∈ mu, h₀.get? b = none ∧ b ≠ L)
def Keep (h h' : Heap) (mu : List Addr) : Prop := ∀ b o, h.get? b = some o → b ∉ mu → h'.get? b = some o
theorem Keep.rfl {h : Heap} {mu : List Addr} : Keep h h mu := fun _ _ e _ => e
theorem Keep.trans {h h' h'' : Heap} {mu : List Addr} (a : Keep h h' mu) (b : Keep h' h'' mu) : Keep h h'' mu := fun x o e n => b x o (a x o e n) n
theorem Keep.mono {h h' : Heap} {mu mu' : List Addr} (a : Keep h h' mu) (s : ∀ b ∈ mu, b ∈ mu') : Keep h h' mu' := fun x o e n => a x o e fun q => n (s x q)
theorem Cx.keep {w : World} {fr : List Env} {h h' : Heap} {mu : List Addr} (C : Cx w fr h mu) (k : Keep h h' mu) : Cx w fr h' mu := by
 refine hide fun Dq kq => ?_; obtain ⟨A₀, base, h₀, outer, L, m, env, e, B, F, BO, hf, hk, hm⟩ := C; refine kq ?_; clear kq Dq
 refine ⟨A₀, base, h₀, outer, L, m, env, e, B, ⟨?_, fun b o q => k b o (F.keep b o q) fun z => ?_, F.above⟩, BO, hf, hk, hm⟩
 ·refine hide fun Dq kq => ?_; obtain ⟨oL, es, ep, hL, r⟩ := F.ns; refine kq ?_; clear kq Dq
  exact ⟨oL, es, ep, k _ _ hL fun z => (hm _ z).2 _root_.rfl, r⟩
 ·have := (hm _ z).1; rw [q] at this; cases this
theorem Cx.mono {w : World} {fr : List Env} {h : Heap} {mu mu' : List Addr} (C : Cx w fr h mu) (s : ∀ b ∈ mu', b ∈ mu) : Cx w fr h mu' := by
 refine hide fun Dq kq => ?_; obtain ⟨A₀, base, h₀, outer, L, m, env, e, B, F, BO, hf, hk, hm⟩ := C; refine kq ?_; clear kq Dq
 exact ⟨A₀, base, h₀, outer, L, m, env, e, B, F, BO, hf, hk, fun b q => hm b (s b q)⟩
theorem cx_of {w : World} {A₀ : Around} {base h₀ h : Heap} {outer : List Env} {L : Addr} {m : Str → Option Value} {env : Env} {news : List (Addr × Obj)} {mu : List Addr}
  (B : Below A₀ base outer h₀) (F : Fr h₀ L h m) (BO : BOk w base) (N : News h₀ L h news) (hm : ∀ b ∈ mu, b ∈ news.map (·.1)) (hf : env.frame = some L := by rfl) (hk : env.scope.kind = .function := by rfl) : Cx w (env :: outer) h mu := by
 refine ⟨A₀, base, h₀, outer, L, m, env, rfl, B, F, BO, hf, hk, fun b q => ?_⟩
 refine hide fun Dq kq => ?_; obtain ⟨p, hp, rfl⟩ := List.mem_map.mp (hm b q); refine kq ?_; clear kq Dq
 exact ⟨(N p hp).2.2, (N p hp).2.1⟩
def KeepW (fr : List Env) (h h' : Heap) (mu : List Addr) : Prop := ∀ b o, h.get? b = some o → b ∉ mu → ∃ sl, h'.get? b = some { o with slots := sl } ∧ (Off fr b → sl = o.slots)
theorem Keep.toW {fr : List Env} {h h' : Heap} {mu : List Addr} (k : Keep h h' mu) : KeepW fr h h' mu := fun b o e n => ⟨o.slots, k b o e n, fun _ => _root_.rfl⟩
theorem KeepW.off {fr : List Env} {h h' : Heap} {mu : List Addr} (k : KeepW fr h h' mu) {b : Addr} {o : Obj} (e : h.get? b = some o) (n : b ∉ mu) (f : Off fr b) : h'.get? b = some o := by
 refine hide fun Dq kq => ?_; obtain ⟨sl, q, z⟩ := k b o e n; refine kq ?_; clear kq Dq
 rw [z f] at q; exact q
theorem KeepW.trans {fr : List Env} {h h' h'' : Heap} {mu : List Addr} (a : KeepW fr h h' mu) (b : KeepW fr h' h'' mu) : KeepW fr h h'' mu := fun x o e n => by
 refine hide fun Dq kq => ?_; obtain ⟨sl, q, z⟩ := a x o e n; refine kq ?_; clear kq Dq
 refine hide fun Dq kq => ?_; obtain ⟨sl', q', z'⟩ := b x _ q n; refine kq ?_; clear kq Dq
 exact ⟨sl', q', fun f => (z' f).trans (z f)⟩
theorem KeepW.mono {fr : List Env} {h h' : Heap} {mu mu' : List Addr} (a : KeepW fr h h' mu) (s : ∀ b ∈ mu, b ∈ mu') : KeepW fr h h' mu' := fun x o e n => a x o e fun q => n (s x q)
theorem get_def (h : Heap) (a : Addr) : h.get? a = match h.objs[a]? with | some o => if o.isFreed = true then none else some o | none => none := by
 unfold Heap.get?
 cases q : h.objs[a]? with
 | none => rfl
 | some o => obtain ⟨c, d, dt, sl⟩ := o; cases dt <;> rfl
def fixS (h : Heap) (b : Addr) (o : Obj) : Obj := match h.get? b with | some o' => { o with slots := o'.slots } | none => o
theorem fixS_freed (h : Heap) (b : Addr) (o : Obj) : (fixS h b o).isFreed = o.isFreed := by
 unfold fixS; split
 ·obtain ⟨c, d, dt, sl⟩ := o; cases dt <;> rfl
 ·rfl
theorem funFrames_at {h base : Heap} : ∀ {l : List Env}, h.FunFrames base l → ∀ e ∈ l, E2 fun L o => A3 (e.frame = some L) (base.get? L = none) (h.get? L = some o)
 | [], _, _, he => by cases he
 | env :: _, ⟨_, ⟨L, o, a, b, c, _⟩, hr⟩, e, he => by
  rcases List.mem_cons.mp he with rfl | he
  ·exact ⟨L, o, a, b, c⟩
  ·exact funFrames_at hr e he
def reSlot (g h : Heap) : Heap := ⟨g.objs.mapIdx (fixS h), g.life⟩
theorem reSlot_eq (g h : Heap) (b : Addr) : (reSlot g h).get? b = (g.get? b).map (fixS h b) := by
 rw [get_def, get_def]
 show (match (g.objs.mapIdx (fixS h))[b]? with | some o => if o.isFreed = true then none else some o | none => none) = _
 rw [Array.getElem?_mapIdx]
 cases g.objs[b]? with
 | none => rfl
 | some o =>
  simp only [Option.map_some, fixS_freed]
  cases o.isFreed <;> rfl
theorem reSlot_size (g h : Heap) : (reSlot g h).objs.size = g.objs.size := by simp [reSlot]
theorem fixS_data (h : Heap) (b : Addr) (o : Obj) : (fixS h b o).data = o.data := by unfold fixS; split <;> rfl
theorem rebase {w : World} {A₀ : Around} {base g h h' : Heap} {outer : List Env} {L : Addr} {m : Str → Option Value} {env : Env} {mu : List Addr} (B : Below A₀ base outer g) (F : Fr g L h m) (BO : BOk w base) (hf : env.frame = some L)
  (k : KeepW (env :: outer) h h' mu) (hm : ∀ b ∈ mu, g.get? b = none ∧ b ≠ L) :
  ∃ g', A4 (Below A₀ base outer g') (Fr g' L h' m) ((∀ b o, g.get? b = some o → Off (env :: outer) b → g'.get? b = some o)) ((∀ b, g.get? b = none → g'.get? b = none)) := by
 have key : ∀ b o, g.get? b = some o → ∃ sl, h'.get? b = some { o with slots := sl } ∧ (Off (env :: outer) b → sl = o.slots) := fun b o e => k b o (F.keep b o e) fun z => by have := (hm _ z).1; rw [e] at this; cases this
 have off : ∀ b o, g.get? b = some o → Off (env :: outer) b → (reSlot g h').get? b = some o := fun b o e f => by
  refine hide fun Dq kq => ?_; obtain ⟨sl, q, z⟩ := key b o e; refine kq ?_; clear kq Dq
  rw [reSlot_eq, e]
  simp only [Option.map_some, fixS, q, z f]
 refine ⟨reSlot g h', ⟨B.stack, fun b o e => off b o (B.stays b o e) fun ev he q => ?_, B.frames.of_keeps fun b o e _ => ⟨fixS h' b o, by rw [reSlot_eq, e]; rfl, fixS_data ..⟩⟩, ⟨?_, fun b o e => ?_, by rw [reSlot_size]; exact F.above⟩, off, fun b e => by rw [reSlot_eq, e]; rfl⟩
 ·rcases List.mem_cons.mp he with rfl | he
  ·rw [hf] at q
   have hL : L = b := Option.some.inj q
   subst hL
   exact absurd (Heap.lt_size (B.stays _ _ e)) (Nat.not_lt.mpr F.above)
  ·refine hide fun Dq kq => ?_; obtain ⟨L₁, o₁, hf₁, hb₁, _⟩ := funFrames_at B.frames ev he; refine kq ?_; clear kq Dq
   rw [hf₁] at q
   have hL : L₁ = b := Option.some.inj q
   subst hL
   rw [hb₁] at e; cases e
 ·refine hide fun Dq kq => ?_; obtain ⟨oL, es, ep, hL, hd, r⟩ := F.ns; refine kq ?_; clear kq Dq
  refine hide fun Dq kq => ?_; obtain ⟨sl, q, _⟩ := k L oL hL fun z => (hm _ z).2 rfl; refine kq ?_; clear kq Dq
  exact ⟨_, es, ep, q, hd, r⟩
 ·rw [reSlot_eq] at e
  cases q : g.get? b with
  | none => rw [q] at e; cases e
  | some o₀ =>
   rw [q] at e
   refine hide fun Dq kq => ?_; obtain ⟨sl, q', _⟩ := key b o₀ q; refine kq ?_; clear kq Dq
   simp only [Option.map_some, fixS, q'] at e
   rw [q']; exact e
theorem Cx.keepW {w : World} {fr : List Env} {h h' : Heap} {mu : List Addr} (C : Cx w fr h mu) (k : KeepW fr h h' mu) : Cx w fr h' mu := by
 refine hide fun Dq kq => ?_; obtain ⟨A₀, base, h₀, outer, L, m, env, rfl, B, F, BO, hf, hk, hm⟩ := C; refine kq ?_; clear kq Dq
 refine hide fun Dq kq => ?_; obtain ⟨g', B', F', _, h4⟩ := rebase B F BO hf k hm; refine kq ?_; clear kq Dq
 exact ⟨A₀, base, g', outer, L, m, env, rfl, B', F', BO, hf, hk, fun b q => ⟨h4 b (hm b q).1, (hm b q).2⟩⟩
def EndK (Q : Value → Shared → Prop) (v : Value) (s : Shared) : Prop := Q v s
structure Sub (s g : Heap) (mu : List Addr) : Prop where
 out : ∀ b o, s.get? b = some o → b ∉ mu → g.get? b = some o
 back : ∀ b o, g.get? b = some o → s.get? b = some o
theorem Sub.keep {s g h : Heap} {mu : List Addr} {L : Addr} {m : Str → Option Value} (S : Sub s g mu) (F : Fr g L h m) : Keep s h mu := fun b o e n => F.keep b o (S.out b o e n)
theorem enter {w : World} {dp un : Nat} {fr : List Env} {s : Shared} {news : List (Addr × Obj)} {Q E : Value → Shared → Prop}
  {name qual : Str} {params : Arguments} {body : List Stmt} {scope : Scope} {dV kV doc pm cdv ct oc : Value} {an od : Option Addr} {osl : Array (Option Value)} {f : Addr} {pos : List Value} {binds : List (Str × Value)}
  (C : Cx w fr s.heap (news.map (·.1))) (N : ∀ p ∈ news, s.heap.get? p.1 = some p.2)
  (ho : (Mine.hd.heap_39 w.params).lookup f = some ⟨oc, od, .func (fnOf name qual params body scope dV kV doc pm an cdv ct), osl⟩) (hcd : codeIn (Mine.hd.heap_39 w.params) cdv qual = true) (hroom : dp < recursionLimit)
  (hbind : BindsTo s (fnOf name qual params body scope dV kV doc pm an cdv ct) ⟨pos, []⟩ binds) (hloc : ∀ y ∈ binds, scope.names.lookup y.1 = some .local)
  (h : ∀ g L' h₁ base p loose mean mg mb, BOk w base → Fr g L' h₁ (fun y => binds.reverse.lookup y) → News g L' h₁ news → Below (Ar dp un fr) base fr g → (Mine.hd.heap_39 w.params).In g → Top p loose mean mg mb g → Sub s.heap g (news.map (·.1)) → (∀ p ∈ news, p.1 < L') → L' = s.heap.objs.size →
   wpAny (model Pg w) ((Ar dp un fr).deeper (envOf qual scope L' f cdv)) (execs body (envOf qual scope L' f cdv))
    (fun fl s' => EndK Q (match fl with | .ret v => v | _ => .none) s')
    (fun _ _ => False)
    { s with heap := h₁, toks := s.toks + binds.length })
  (hco : scope.isCoroutine = false := by rfl) (hgen : scope.isGenerator = false := by rfl) (hk : scope.kind = .function := by rfl)
  (hcell : ∀ x ∈ scope.names, x.2 ≠ .cell := by decide) : wpAny (model Pg w) (Ar dp un fr) (call (.ref f) pos) Q E s := by
 refine hide fun Dq kq => ?_; obtain ⟨A₀, base, h₀, outer, L, m, env, rfl, B, F, BO, hf, hke, hm⟩ := C; refine kq ?_; clear kq Dq
 have X := BO.X.keeps B.stays
 refine hide fun Dq kq => ?_; obtain ⟨p, loose, mean, mg, mb, TB⟩ := BO.T; refine kq ?_; clear kq Dq
 have T := TB.keeps B.stays
 have N' : News h₀ L s.heap news := fun p hp => ⟨N p hp, (hm _ (List.mem_map_of_mem hp)).2, (hm _ (List.mem_map_of_mem hp)).1⟩
 refine hide fun Dq kq => ?_; obtain ⟨FG, BG, st, _⟩ := groundX (A := Ar dp un (env :: outer)) (R := fun _ _ => True) B F N' rfl hf hke; refine kq ?_; clear kq Dq
 refine wpAny_call (codeAny_call_def (fd := fnOf name qual params body scope dV kV doc pm an cdv ct) (body := body) (binds := binds) hroom ((X.keeps F.keep) _ _ ho) rfl (T.nolimit.keeps F.keep) (codeRec_of (X.keeps F.keep) hcd) rfl hbind hcell hloc (fun h₁ hns hk₁ => ?_) hco hgen hk)
 refine wpAny_noRaise (h _ s.heap.objs.size h₁ base p loose mean mg mb BO ⟨hns, fun b o e => hk₁ b o (of_hideAll _ e), Nat.le_of_eq (hideAll_size _ _)⟩
  (fun p hp => ⟨hk₁ _ _ (N p hp), Nat.ne_of_lt (Heap.lt_size (N p hp)), hideAll_none _ (List.mem_map_of_mem hp)⟩) BG (X.keeps st) (T.keeps st)
  ⟨fun b o e n => hideAll_get _ e n, fun b o e => of_hideAll _ e⟩ (fun p hp => Heap.lt_size (N p hp)) rfl)
theorem enterC {w : World} {dp un : Nat} {fr : List Env} {s : Shared} {news : List (Addr × Obj)} {Q E : Value → Shared → Prop}
  {name qual : Str} {params : Arguments} {body : List Stmt} {scope : Scope} {dV kV doc pm cdv ct oc : Value} {an od : Option Addr} {osl : Array (Option Value)} {f : Addr} {pos : List Value} {binds : List (Str × Value)}
  (C : Cx w fr s.heap (news.map (·.1))) (N : ∀ p ∈ news, s.heap.get? p.1 = some p.2)
  (ho : (Mine.hd.heap_39 w.params).lookup f = some ⟨oc, od, .func (fnOf name qual params body scope dV kV doc pm an cdv ct), osl⟩) (hcd : codeIn (Mine.hd.heap_39 w.params) cdv qual = true) (hroom : dp < recursionLimit)
  (hbind : BindsTo s (fnOf name qual params body scope dV kV doc pm an cdv ct) ⟨pos, []⟩ binds) (hkind : (binds.all fun y => scope.names.lookup y.1 == some .local || scope.names.lookup y.1 == some .cell) = true)
  (hnd : ((cellsFrom 0 scope.names []).map (·.1)).Nodup)
  (h : ∀ g L' h₁ tk cells base p loose mean mg mb, BOk w base → Fr g L' h₁ (bindL (envOfC qual scope L' f cdv).kindOf binds fun _ => none) → News g L' h₁ (cells ++ news) →
   CellsAre (bindC (envOfC qual scope L' f cdv).kindOf binds fun _ => none) (cellsFrom (L' + 1) scope.names []) cells → Below (Ar dp un fr) base fr g → (Mine.hd.heap_39 w.params).In g → Top p loose mean mg mb g → Sub s.heap g (news.map (·.1)) → (∀ p ∈ news, p.1 < L') → L' = s.heap.objs.size →
   wpAny (model Pg w) ((Ar dp un fr).deeper (envOfC qual scope L' f cdv)) (execs body (envOfC qual scope L' f cdv))
    (fun fl s' => EndK Q (match fl with | .ret v => v | _ => .none) s')
    (fun _ _ => False)
    { s with heap := h₁, toks := tk })
  (hco : scope.isCoroutine = false := by rfl) (hgen : scope.isGenerator = false := by rfl) (hk : scope.kind = .function := by rfl) : wpAny (model Pg w) (Ar dp un fr) (call (.ref f) pos) Q E s := by
 refine hide fun Dq kq => ?_; obtain ⟨A₀, base, h₀, outer, L, m, env, rfl, B, F, BO, hf, hke, hm⟩ := C; refine kq ?_; clear kq Dq
 have X := BO.X.keeps B.stays
 refine hide fun Dq kq => ?_; obtain ⟨p, loose, mean, mg, mb, TB⟩ := BO.T; refine kq ?_; clear kq Dq
 have T := TB.keeps B.stays
 have N' : News h₀ L s.heap news := fun p hp => ⟨N p hp, (hm _ (List.mem_map_of_mem hp)).2, (hm _ (List.mem_map_of_mem hp)).1⟩
 refine hide fun Dq kq => ?_; obtain ⟨FG, BG, st, _⟩ := groundX (A := Ar dp un (env :: outer)) (R := fun _ _ => True) B F N' rfl hf hke; refine kq ?_; clear kq Dq
 refine wpAny_call (codeAny_call_function hroom ((X.keeps F.keep) _ _ ho) rfl hco hgen rfl (codeRec_of (X.keeps F.keep) hcd) (hbind _ _ _ _ ?_))
 refine wpAny_newFunctionEnv_cells hk (kindsX hkind _) fun env' he s' x => ?_
 subst he
 refine ⟨(T.nolimit.keeps F.keep).keeps x.toInCall.keep, codeAny_func ?_⟩
 refine hide fun Dq kq => ?_; obtain ⟨h₁, tk, rfl, _⟩ := x.done; refine kq ?_; clear kq Dq
 have hk₁ := x.toInCall.keep
 refine hide fun Dq kq => ?_; obtain ⟨cells, NC, Y⟩ := Cl.news (h₀ := s.heap) (Nat.le_refl _) fun n c hm => ⟨x.cell n c (lookup_of_mem_nodup (cellsFrom_names scope.names 0 (s.heap.objs.size + 1) [] [] rfl ▸ hnd) hm), x.above n c hm⟩; refine kq ?_; clear kq Dq
 refine wpAny_noRaise (h _ s.heap.objs.size h₁ tk cells base p loose mean mg mb BO ⟨x.toInCall.ns, fun b o e => hk₁ b o (of_hideAll _ e), Nat.le_of_eq (hideAll_size _ _)⟩ (fun p hp => ?_) Y BG (X.keeps st) (T.keeps st)
  ⟨fun b o e n => hideAll_get _ e n, fun b o e => of_hideAll _ e⟩ (fun p hp => Heap.lt_size (N p hp)) rfl)
 rcases List.mem_append.mp hp with hp | hp
 ·refine ⟨(NC p hp).1, (NC p hp).2.1, ?_⟩
  cases q : (hideAll s.heap (news.map (·.1))).get? p.1 with
  | none => rfl
  | some o => have := of_hideAll _ q; rw [(NC p hp).2.2] at this; cases this
 ·exact ⟨hk₁ _ _ (N p hp), Nat.ne_of_lt (Heap.lt_size (N p hp)), hideAll_none _ (List.mem_map_of_mem hp)⟩
theorem no_news {h : Heap} : ∀ p ∈ ([] : List (Addr × Obj)), h.get? p.1 = some p.2 := fun _ hp => nomatch hp
theorem keepL {α : Type} {p : α → Prop} (h : ∀ n, p n) : ∀ n, p n := h
theorem code_defN {prog : Program} {w : World} {A A₀ : Around} {s : Shared} {K : Frag} {L : Addr} {h₀ base : Heap} {m mg mb : Str → Option Value} {news : List (Addr × Obj)} {p : Program} {loose : List Str} {mean : ExcName → Option Value}
  {env : Env} {outer : List Env} {R : Result → Shared → Prop} {name qual : Str} {params : Arguments} {body : List Stmt} {scope : Scope} {dV kV doc pm cdv ct oc : Value} {an od : Option Addr} {osl : Array (Option Value)} {f : Addr} {args : Args} {binds : List (Str × Value)}
  (B : Below A₀ base outer h₀) (F : Fr h₀ L s.heap m) (X₀ : K.In h₀) (N : News h₀ L s.heap news) (T : Top p loose mean mg mb h₀) (hA : A.frames = some (env :: outer)) (hf : env.frame = some L) (hke : env.scope.kind = .function)
  (ho : K.lookup f = some ⟨oc, od, .func (fnOf name qual params body scope dV kV doc pm an cdv ct), osl⟩) (hcd : codeIn K cdv qual = true) (hroom : A.depth < recursionLimit)
  (hbind : BindsTo s (fnOf name qual params body scope dV kV doc pm an cdv ct) args binds) (hloc : ∀ y ∈ binds, scope.names.lookup y.1 = some .local)
  (h : ∀ g L' h₁ tk', Fr h₀ L g m → Fr g L' h₁ (fun y => binds.reverse.lookup y) → News g L' h₁ news → Below A base (env :: outer) g → K.In g → Top p loose mean mg mb g →
   wpAny (model prog w) (A.deeper (envOf qual scope L' f cdv)) (execs body (envOf qual scope L' f cdv))
    (fun fl s' => LeaveK h₀ L m g R (match fl with | .ret v => v | _ => .none) s')
    (fun _ _ => False)
    { s with heap := h₁, toks := tk' })
  (hco : scope.isCoroutine = false) (hgen : scope.isGenerator = false) (hk : scope.kind = .function)
  (hcell : ∀ x ∈ scope.names, x.2 ≠ .cell) : codeAny (model prog w) A (.call (.ref f) args) R s :=
 code_def B F X₀ N T hA hf hke ho hcd hroom hbind hloc (fun g L' h₁ a1 a2 a3 a4 a5 a6 => wpAny_noRaise (h g L' h₁ _ a1 a2 a3 a4 a5 a6)) hco hgen hk hcell
theorem nin1 {α : Type} {a b : α} (h : a ≠ b) : a ∉ [b] := fun z => h (List.mem_singleton.mp z)
theorem nin2 {α : Type} {a b c : α} (h : a ≠ b ∧ a ≠ c) : a ∉ [b, c] := fun z => (List.mem_cons.mp z).elim h.1 (nin1 h.2)
theorem all0 {α : Type} {P : α → Prop} : ∀ p ∈ ([] : List α), P p := fun _ h => nomatch h
inductive N3 (x y d : Addr) (l : List Addr) : Prop
 | mk (x1 : x ≠ y) (x2 : x ≠ d) (x3 : x ∉ l) (y1 : y ≠ d) (y2 : y ∉ l) (y3 : d ∉ l) (h : l.Nodup)
theorem n3 {x y d : Addr} {l : List Addr} (h : ([x, y] ++ (d :: l)).Nodup) : N3 x y d l := by
 simp only [List.cons_append, List.nil_append, List.nodup_cons, List.mem_cons, not_or] at h
 exact ⟨h.1.1, h.1.2.1, h.1.2.2, h.2.1.1, h.2.1.2, h.2.2.1, h.2.2.2⟩
theorem nN {a : Addr} : a ∉ ([] : List Addr) := List.not_mem_nil
def Hold (P : Prop) : Prop := P
theorem Hold.out {P : Prop} (h : Hold P) : P := h
theorem Hold.mk {P : Prop} (h : P) : Hold P := h
theorem hold_call {M : Model} {A : Around} {E : Value → Shared → Prop} {s : Shared} {args : List Value} {Q : Value → Shared → Prop} (f : Addr) (h : Hold (wpAny M A (call (.ref f) args) Q E s)) : wpAny M A (call (.ref f) args) Q E s := h
theorem peek_alloc {α : Type} {K : Frag} {M : Model} {A : Around} {E : Value → Shared → Prop} {Q : α → Shared → Prop} {s : Shared} {o : Obj} {r : Addr → α} (X : K.In s.heap) :
  ∀ (t : Sem α) (g : Addr → Option α), peek1 K ⟨M.prog, M.w.params⟩ t = some (o, g) → (∀ D, g D = some (r D)) → Q (r s.heap.objs.size) { s with heap := s.heap.push o } → wpAny M A t Q E s := by
 intro t
 induction t with
 | rule _ k ih => intro g e hg q Γ p hΓ; exact ih () g e hg q Γ p hΓ
 | point _ k ih => intro g e hg q Γ p hΓ; exact ih () g e hg q Γ p hΓ
 | ask k ih => intro g e hg q Γ p hΓ; exact ih _ g e hg q Γ p hΓ
 | load a _ k ih =>
  intro g e hg q Γ p hΓ
  simp only [peek1] at e
  split at e
  ·rename_i ob ho; exact ⟨ob, X _ _ ho, ih ob g e hg q Γ p hΓ⟩
  ·cases e
 | alloc ob k _ =>
  intro g e hg q
  have e : some (ob, fun D => peek K ⟨M.prog, M.w.params⟩ (k D)) = some (o, g) := e
  obtain ⟨e1, e2⟩ := Prod.mk.inj (Option.some.inj e)
  subst e1
  subst e2
  have X' : K.In (s.heap.push ob) := X.keeps fun b x hb => Heap.get?_push_of_some _ hb
  show wpAny M A (alloc ob >>= k) Q E s
  refine wpAny_bind (wpAny_alloc ?_)
  exact (Looks.of_peek (M := M) (h := s.heap.push ob) X' (hg s.heap.objs.size)).here (s := { s with heap := s.heap.push ob }) q
 | _ => intro g e; cases e
abbrev tupOf (vs : List Value) : Obj := { cls := .type "tuple", data := .seq vs.toArray }
theorem all_cons {α : Type} {P : α → Prop} {a : α} {l : List α} (h : P a) (k : ∀ p ∈ l, P p) : ∀ p ∈ a :: l, P p := fun p hp => by
 rcases List.mem_cons.mp hp with rfl | hp
 ·exact h
 ·exact k p hp
theorem mem_mv {α : Type} {x p : α} {A T : List α} (h : p ∈ A ++ x :: T) : p ∈ x :: (A ++ T) := by
 rcases List.mem_append.mp h with h | h
 ·exact .tail _ (List.mem_append_left _ h)
 ·rcases List.mem_cons.mp h with rfl | h
  ·exact .head _
  ·exact .tail _ (List.mem_append_right _ h)
theorem all_mv {α : Type} {P : α → Prop} {x : α} {A T : List α} (hx : P x) (h : ∀ p ∈ A ++ T, P p) : ∀ p ∈ A ++ x :: T, P p := fun p hp => by
 rcases List.mem_cons.mp (mem_mv hp) with rfl | hp
 ·exact hx
 ·exact h p hp
theorem mem_outK {α : Type} {x : α} {A B C : List α} (k : ∀ p, p ∈ x :: B → p ∈ C) (p : α) (h : p ∈ x :: (A ++ B)) : p ∈ A ++ C := by
 rcases List.mem_cons.mp h with rfl | h
 ·exact List.mem_append_right _ (k _ (.head _))
 ·rcases List.mem_append.mp h with h | h
  ·exact List.mem_append_left _ h
  ·exact List.mem_append_right _ (k _ (.tail _ h))
theorem mem_inK {α : Type} {x : α} {A B C : List α} {p : α} (k : p ∈ C → p = x ∨ p ∈ B) (h : p ∈ A ++ C) : p ∈ x :: (A ++ B) := by
 rcases List.mem_append.mp h with h | h
 ·exact .tail _ (List.mem_append_left _ h)
 ·rcases k h with rfl | h
  ·exact .head _
  ·exact .tail _ (List.mem_append_right _ h)
theorem News.app {g h : Heap} {L : Addr} {A B : List (Addr × Obj)} (a : News g L h A) (b : News g L h B) : News g L h (A ++ B) := fun p hp => (List.mem_append.mp hp).elim (a p) (b p)
theorem enterV {w : World} {dp un : Nat} {fr : List Env} {s : Shared} {news : List (Addr × Obj)} {Q E : Value → Shared → Prop}
  {name qual : Str} {params : Arguments} {body : List Stmt} {scope : Scope} {dV kV doc pm cdv ct oc : Value} {an od : Option Addr} {osl : Array (Option Value)} {f : Addr} {pos : List Value} {vs : List Value} {g₁ : Addr → Option (List (Str × Value))} {binds : Addr → List (Str × Value)}
  (C : Cx w fr s.heap (news.map (·.1))) (N : ∀ p ∈ news, s.heap.get? p.1 = some p.2)
  (ho : (Mine.hd.heap_39 w.params).lookup f = some ⟨oc, od, .func (fnOf name qual params body scope dV kV doc pm an cdv ct), osl⟩) (hcd : codeIn (Mine.hd.heap_39 w.params) cdv qual = true) (hroom : dp < recursionLimit)
  (hp : peek1 (Mine.hd.heap_39 w.params) ⟨Pg, w.params⟩ (bindArgs (fnOf name qual params body scope dV kV doc pm an cdv ct) ⟨pos, []⟩) = some (tupOf vs, g₁))
  (hg : ∀ D, g₁ D = some (binds D)) (hloc : ∀ D, ∀ y ∈ binds D, scope.names.lookup y.1 = some .local)
  (h : ∀ D g L' h₁ base p loose mean mg mb, BOk w base → Fr g L' h₁ (fun y => (binds D).reverse.lookup y) → News g L' h₁ ((D, tupOf vs) :: news) → Below (Ar dp un fr) base fr g → (Mine.hd.heap_39 w.params).In g → Top p loose mean mg mb g → Sub s.heap g (news.map (·.1)) → (∀ p ∈ news, p.1 < D) → D < L' →
   wpAny (model Pg w) ((Ar dp un fr).deeper (envOf qual scope L' f cdv)) (execs body (envOf qual scope L' f cdv))
    (fun fl s' => EndK Q (match fl with | .ret v => v | _ => .none) s')
    (fun e s' => wpAny (model Pg w) ((Ar dp un fr).deeper (envOf qual scope L' f cdv)) (leaving (envOf qual scope L' f cdv) e) (fun _ s'' => E e s'') (fun e' s'' => E e' s'') s')
    { s with heap := h₁, toks := s.toks + (binds D).length })
  (hco : scope.isCoroutine = false := by rfl) (hgen : scope.isGenerator = false := by rfl) (hk : scope.kind = .function := by rfl)
  (hcell : ∀ x ∈ scope.names, x.2 ≠ .cell := by decide) : wpAny (model Pg w) (Ar dp un fr) (call (.ref f) pos) Q E s := by
 refine hide fun Dq kq => ?_; obtain ⟨A₀, base, h₀, outer, L, m, env, rfl, B, F, BO, hf, hke, hm⟩ := C; refine kq ?_; clear kq Dq
 have X := BO.X.keeps B.stays
 refine hide fun Dq kq => ?_; obtain ⟨p, loose, mean, mg, mb, TB⟩ := BO.T; refine kq ?_; clear kq Dq
 have T := TB.keeps B.stays
 have N' : News h₀ L s.heap news := fun p hp => ⟨N p hp, (hm _ (List.mem_map_of_mem hp)).2, (hm _ (List.mem_map_of_mem hp)).1⟩
 refine wpAny_call (codeAny_call_function (fd := fnOf name qual params body scope dV kV doc pm an cdv ct) (body := body) hroom ((X.keeps F.keep) _ _ ho) rfl hco hgen rfl (codeRec_of (X.keeps F.keep) hcd) ?_)
 have key : ∀ D h', D = s.heap.objs.size → h' = s.heap.push (tupOf vs) → Fr h₀ L h' m → News h₀ L h' ((D, tupOf vs) :: news) →
   wpAny (model Pg w) (Ar dp un (env :: outer)).in1 (newFunctionEnv scope mainGlobals [] (binds D) (qual ++ ".<locals>.") (some f) cdv none builtinsNs) (fun env' s₂ => s₂.heap.NoLimit ∧ codeAny (model Pg w) (Ar dp un (env :: outer)) (.func body env') (fun r s' => match r with | .ok (.ret v) => Q v s' | .ok _ => False | .error e => E e s') s₂) E { s with heap := h' } := by
  rintro D h' rfl rfl F' N''
  refine hide fun Dq kq => ?_; obtain ⟨FG, BG, st, _⟩ := groundX (s := { s with heap := s.heap.push (tupOf vs) }) (A := Ar dp un (env :: outer)) (R := fun _ _ => True) B F' N'' rfl hf hke; refine kq ?_; clear kq Dq
  refine wpAny_newFunctionEnv hcell (hloc _) (fun h₁ hns hsb => ⟨(T.nolimit.keeps F'.keep).fresh _ hsb, codeAny_func ?_⟩) hk
  have hk₁ : ∀ b o, (s.heap.push (tupOf vs)).get? b = some o → h₁.get? b = some o := fun b o e => hsb.extBut b o (Nat.ne_of_lt (Heap.lt_size e)) (Heap.get?_push_of_some _ e)
  refine h s.heap.objs.size _ (s.heap.push (tupOf vs)).objs.size h₁ base p loose mean mg mb BO ⟨hns, fun b o e => hk₁ b o (of_hideAll _ e), Nat.le_of_eq (hideAll_size _ _)⟩
   (fun p hp => ⟨hk₁ _ _ (N'' p hp).1, Nat.ne_of_lt (Heap.lt_size (N'' p hp).1), hideAll_none _ (List.mem_map_of_mem hp)⟩) BG (X.keeps st) (T.keeps st)
   ⟨fun b o e n => hideAll_get _ (Heap.get?_push_of_some _ e) (fun q => ?_), fun b o e => ?_⟩ (fun p hp => Heap.lt_size (N p hp)) ?_
  ·rcases List.mem_cons.mp q with q | q
   ·exact absurd (Heap.lt_size e) (by rw [q]; exact Nat.lt_irrefl _)
   ·exact n q
  ·have e1 := of_hideAll _ e
   have hb : b ≠ s.heap.objs.size := by
    intro q; subst q
    have := hideAll_none (h := s.heap.push (tupOf vs)) (((s.heap.objs.size, tupOf vs) :: news).map (·.1)) (List.Mem.head _)
    rw [e] at this; cases this
   have : (s.heap.push (tupOf vs)).get? b = s.heap.get? b := by
    have hlt : b < s.heap.objs.size := by
     have := Heap.lt_size e1
     rw [Heap.size_push] at this
     exact Nat.lt_of_le_of_ne (Nat.le_of_lt_succ this) hb
    unfold Heap.get? Heap.push
    simp [Array.getElem?_push, Nat.ne_of_lt hlt]
   rw [← this]; exact e1
  ·rw [Heap.size_push]; exact Nat.lt_succ_self _
 have l : ∀ p ∈ news, p.1 < s.heap.objs.size := fun p hp => Heap.lt_size (N p hp)
 exact peek_alloc (X.keeps F.keep) _ g₁ hp hg (key _ _ rfl rfl (F.push _) (News.push F N' _ rfl))
theorem enterVN {w : World} {dp un : Nat} {fr : List Env} {s : Shared} {news : List (Addr × Obj)} {Q E : Value → Shared → Prop}
  {name qual : Str} {params : Arguments} {body : List Stmt} {scope : Scope} {dV kV doc pm cdv ct oc : Value} {an od : Option Addr} {osl : Array (Option Value)} {f : Addr} {pos : List Value} {vs : List Value} {g₁ : Addr → Option (List (Str × Value))} {binds : Addr → List (Str × Value)}
  (C : Cx w fr s.heap (news.map (·.1))) (N : ∀ p ∈ news, s.heap.get? p.1 = some p.2)
  (ho : (Mine.hd.heap_39 w.params).lookup f = some ⟨oc, od, .func (fnOf name qual params body scope dV kV doc pm an cdv ct), osl⟩) (hcd : codeIn (Mine.hd.heap_39 w.params) cdv qual = true) (hroom : dp < recursionLimit)
  (hp : peek1 (Mine.hd.heap_39 w.params) ⟨Pg, w.params⟩ (bindArgs (fnOf name qual params body scope dV kV doc pm an cdv ct) ⟨pos, []⟩) = some (tupOf vs, g₁))
  (hg : ∀ D, g₁ D = some (binds D)) (hloc : ∀ D, ∀ y ∈ binds D, scope.names.lookup y.1 = some .local)
  (h : ∀ D g L' h₁ base p loose mean mg mb, BOk w base → Fr g L' h₁ (fun y => (binds D).reverse.lookup y) → News g L' h₁ ((D, tupOf vs) :: news) → Below (Ar dp un fr) base fr g → (Mine.hd.heap_39 w.params).In g → Top p loose mean mg mb g → Sub s.heap g (news.map (·.1)) → (∀ p ∈ news, p.1 < D) → D < L' →
   wpAny (model Pg w) ((Ar dp un fr).deeper (envOf qual scope L' f cdv)) (execs body (envOf qual scope L' f cdv))
    (fun fl s' => EndK Q (match fl with | .ret v => v | _ => .none) s')
    (fun _ _ => False)
    { s with heap := h₁, toks := s.toks + (binds D).length })
  (hco : scope.isCoroutine = false := by rfl) (hgen : scope.isGenerator = false := by rfl) (hk : scope.kind = .function := by rfl)
  (hcell : ∀ x ∈ scope.names, x.2 ≠ .cell := by decide) : wpAny (model Pg w) (Ar dp un fr) (call (.ref f) pos) Q E s :=
 enterV C N ho hcd hroom hp hg hloc (fun D g L' h₁ base p loose mean mg mb a1 a2 a3 a4 a5 a6 a7 a8 a9 => wpAny_noRaise (h D g L' h₁ base p loose mean mg mb a1 a2 a3 a4 a5 a6 a7 a8 a9)) hco hgen hk hcell
theorem bd_lift {prog : Program} {w : World} {g g' : Heap} {L d : Addr} {m : Str → Option Value} {kvs : List (Str × Value)} (F : Fr g L g' m) (hD : g.DictOf (PySem.strKind prog w) d kvs) : g'.DictOf (PySem.strKind prog w) d kvs := by
 refine hide fun Dq kq => ?_; obtain ⟨o, ho, r⟩ := Heap.dictOf_iff.mp hD; refine kq ?_; clear kq Dq
 exact Heap.dictOf_iff.mpr ⟨o, F.keep _ _ ho, r⟩
theorem li_lift {g g' : Heap} {L l : Addr} {m : Str → Option Value} {vs : Array Value} (F : Fr g L g' m) (hD : g.IsList l vs) : g'.IsList l vs := hD.at fun o e => F.keep _ _ e
theorem fr_keep0 {g h h' : Heap} {L : Addr} {m : Str → Option Value} (F : Fr g L h m) (k : Keep h h' []) : Fr g L h' m := ⟨F.ns.at' fun o e => k _ o e (by simp), fun b o e => k b o (F.keep b o e) (by simp), F.above⟩
theorem news_keep0 {g h h' : Heap} {L : Addr} {news : List (Addr × Obj)} (N : News g L h news) (k : Keep h h' []) : News g L h' news := fun p hp => ⟨k _ _ (N p hp).1 (by simp), (N p hp).2⟩
theorem get_lift {g g' : Heap} {L a : Addr} {m : Str → Option Value} {o : Obj} (F : Fr g L g' m) (h : g.get? a = some o) : g'.get? a = some o := F.keep _ _ h
theorem no_mu {l : List Addr} : ∀ b ∈ ([] : List Addr), b ∈ l := fun _ h => nomatch h
theorem setGen_toks (s : Shared) (g : Nat) (x : GenState) : (s.setGen g x).toks = s.toks := rfl
theorem runs_toks {M : Model} {Γ : Ctx} {p : Pos} {t : Sem Fin} {fs : List Frame} {s s' : Shared} {e : End} (h : Runs M Γ p t fs s e s') : s.toks ≤ s'.toks := by
 induction h <;> first | exact Nat.le_refl _ | assumption | omega | (simp only [setGen_toks] at *; first | assumption | omega) | (simp only [] at *; omega)
theorem wakes_toks {M : Model} {Γ : Ctx} {p : Pos} {g : Nat} {r : Resume} {s s' : Shared} {res : GenResult} (h : Wakes M Γ p g r s res s') : s.toks ≤ s'.toks := by
 unfold Wakes at h
 split at h
 ·exact h.elim
 ·split at h
  ·obtain ⟨e₁, s₁, hr, _, _, rfl⟩ := h; have z := runs_toks hr; exact z
  ·rw [h.2]; exact Nat.le_refl _
  ·rw [h.2]; exact Nat.le_refl _
 ·obtain ⟨e₁, s₁, hr, _, _, rfl⟩ := h; have z := runs_toks hr; exact z
 ·rw [h.2]; exact Nat.le_refl _
 ·rw [h.2]; exact Nat.le_refl _
theorem wp_toks {α : Type} (M : Model) (Γ : Ctx) (t : Sem α) : ∀ (Q : α → Pos → Shared → Prop) (E : Value → Pos → Shared → Prop) (p : Pos) (s : Shared) (n : Nat), n ≤ s.toks → Sem.wp M Γ t Q E p s →
  Sem.wp M Γ t (fun a p' s' => n ≤ s'.toks ∧ Q a p' s') (fun e p' s' => n ≤ s'.toks ∧ E e p' s') p s := by
 induction t with
 | pure a => intro Q E p s n hn h; exact ⟨hn, h⟩
 | raise e => intro Q E p s n hn h; exact ⟨hn, h⟩
 | unsupported w => intro Q E p s n hn h; exact h
 | finish e => intro Q E p s n hn h; exact h
 | rule _ k ih => intro Q E p s n hn h; exact ih () Q E p s n hn h
 | «at» p' k ih => intro Q E p s n hn h; exact ih () Q E p' s n hn h
 | load a _ k ih => intro Q E p s n hn h; obtain ⟨o, ho, h⟩ := h; exact ⟨o, ho, ih o Q E p s n hn h⟩
 | update a _ f k ih => intro Q E p s n hn h; exact ⟨h.1, ih () Q E p _ n hn h.2⟩
 | alloc o k ih => intro Q E p s n hn h; exact ih _ Q E p _ n hn h
 | loadIfAlive a k ih => intro Q E p s n hn h; exact ih _ Q E p _ n hn h
 | point _ k ih => intro Q E p s n hn h; exact ih () Q E p s n hn h
 | register _ _ _ => intro Q E p s n hn h; exact h
 | fresh k ih => intro Q E p s n hn h; exact ih _ Q E p _ n (Nat.le_succ_of_le hn) h
 | ask k ih => intro Q E p s n hn h; exact ih _ Q E p s n hn h
 | choose src m k ih => intro Q E p s n hn h; exact ⟨h.1, ih _ Q E p _ n hn h.2⟩
 | os q _ k ih => intro Q E p s n hn h; exact ih _ Q E p _ n hn h
 | call c hd g l k ih =>
  intro Q E p s n hn h
  obtain ⟨r, s', hr, h⟩ := h
  exact ⟨r, s', hr, ih r Q E p s' n (Nat.le_trans hn (runs_toks hr)) h⟩
 | handled own k ih => intro Q E p s n hn h; exact ih _ Q E p s n hn h
 | newGen c k ih => intro Q E p s n hn h; exact ih _ Q E p _ n hn h
 | genState g k ih => intro Q E p s n hn h; obtain ⟨st, hs, h⟩ := h; exact ⟨st, hs, ih _ Q E p s n hn h⟩
 | resume g r l k ih =>
  intro Q E p s n hn h
  obtain ⟨res, s', hr, h⟩ := h
  exact ⟨res, s', hr, ih res Q E p s' n (Nat.le_trans hn (wakes_toks hr)) h⟩
 | yield v g l k ih => intro Q E p s n hn h; exact h
 | stack k ih => intro Q E p s n hn h; exact ih _ Q E p s n hn h
 | fork c k ih => intro Q E p s n hn h; exact h
 | thread k ih => intro Q E p s n hn h; exact ih _ Q E p s n hn h
 | await a f d l k ih => intro Q E p s n hn h; exact h
theorem wpAny_tk {α : Type} {M : Model} {A : Around} {t : Sem α} {Q : α → Shared → Prop} {E : Value → Shared → Prop} {s : Shared} (n : Nat) (hn : n ≤ s.toks) (h : wpAny M A t (fun v s' => n ≤ s'.toks → Q v s') (fun e s' => n ≤ s'.toks → E e s') s) : wpAny M A t Q E s :=
 fun Γ p hΓ => Sem.wp_mono M Γ t (fun _ _ _ h => h.2 h.1) (fun _ _ _ h => h.2 h.1) p s (wp_toks M Γ t _ _ p s n hn (h Γ p hΓ))
section
variable {prog : Program} {w : World} {A : Around} {E : Value → Shared → Prop} {s : Shared} {env : Env} {target : Expr} {body orelse : List Stmt} {Q : Flow → Shared → Prop}
def TurnK (Jn : Shared → Prop) (Q : Flow → Shared → Prop) (f : Flow) (s : Shared) : Prop := match f with
 | .next => Jn s
 | .cont => Jn s
 | .brk => Q .next s
 | .ret v => Q (.ret v) s
theorem for_K {I : Addr} {fp wr : List Addr} {n : Nat} {P Md : Nat → Value → Heap → Prop} {St : Nat → Heap → Prop} (W : KTurns prog w A target I fp wr n P Md St) (J : Nat → Shared → Prop)
  (hst : St 0 s.heap) (h0 : J 0 s)
  (stab : ∀ i (s' : Shared) h' tk, J i s' → (∀ b o, b ∉ wr → s'.heap.get? b = some o → h'.get? b = some o) → J i { s' with heap := h', toks := tk })
  (step : ∀ i v s₁, i < n → P i v s₁.heap → J i s₁ → St (i + 1) s₁.heap →
   wpAny (model prog w) A (assign target env v) (fun _ s₂ => wpAny (model prog w) A (execs body env) (TurnK (fun s₃ => J (i + 1) s₃ ∧ St (i + 1) s₃.heap) Q) E s₂) E s₁)
  (fin : ∀ s₁, J n s₁ → wpAny (model prog w) A (execs orelse env) Q E s₁)
  (hE : PassesOwn (model prog w) A env E) :
  codeAny (model prog w) A (.forLoop target (.ref I) body orelse env) (fun r s' => match r with | .ok f => Q f s' | .error e => cameBackBy (model prog w) A env E e s') s := by
 refine codeAny_forLoop_any (fun k s' => ∃ i, A4 (St i s'.heap) (J i s') (i ≤ n) (k = n + 1 - i)) ?_ (n + 1) ⟨0, hst, h0, Nat.zero_le _, rfl⟩
 rintro k s' ⟨i, hst', hJ, hi, rfl⟩
 by_cases hlt : i < n
 ·refine W.item i _ _ _ hlt hst' fun v h₁ tk₁ hMd hk₁ => ?_
  refine W.go i v _ _ _ hMd fun h₂ hP hst₂ hk₂ => ?_
  have J₂ := stab i s' h₂ tk₁ hJ fun b o hb x => hk₂ b o hb (hk₁ b o hb x)
  refine wpAny_mono (step i v _ hlt hP J₂ hst₂) (fun _ s₂ h₂' => wpAny_mono (wpAny_passesOwn hE h₂') (fun f s₃ h₃ => ?_) fun _ _ e => e) hE
  cases f with
  | ret v => exact h₃
  | brk => exact h₃
  | cont => exact ⟨n + 1 - (i + 1), by omega, i + 1, h₃.2, h₃.1, hlt, rfl⟩
  | next => exact ⟨n + 1 - (i + 1), by omega, i + 1, h₃.2, h₃.1, hlt, rfl⟩
 ·have hin : i = n := by omega
  subst hin
  refine W.done _ _ _ hst' fun h₁ tk₁ hk₁ => ?_
  exact wpAny_passesOwn hE (fin _ (stab i s' h₁ tk₁ hJ hk₁))
theorem For_K {iter : Expr} {pos : Pos}
  (h : wpAny (model prog w) A (eval iter env) (fun xv s₁ => wpAny (model prog w) A (pyIter xv) (fun it s₂ =>
   E8 fun (I : Addr) (fp wr : List Addr) (n : Nat) (P Md : Nat → Value → Heap → Prop) (St : Nat → Heap → Prop) (J : Nat → Shared → Prop) => A7 (it = .ref I) (KTurns prog w A target I fp wr n P Md St) (St 0 s₂.heap) (J 0 s₂) ((∀ i (s' : Shared) h' tk, J i s' → (∀ b o, b ∉ wr → s'.heap.get? b = some o → h'.get? b = some o) → J i { s' with heap := h', toks := tk })) ((∀ i v s₁, i < n → P i v s₁.heap → J i s₁ → St (i + 1) s₁.heap →
     wpAny (model prog w) A (assign target env v) (fun _ s₂ => wpAny (model prog w) A (execs body env) (TurnK (fun s₃ => J (i + 1) s₃ ∧ St (i + 1) s₃.heap) Q) E s₂) E s₁)) (∀ s₁, J n s₁ → wpAny (model prog w) A (execs orelse env) Q E s₁)) E s₁) E s)
  (hs : ∀ x, foldedSetIterable iter env x = pure x := by intro _; rfl)
  (hE : PassesOwn (model prog w) A env E := by passes_own) :
  wpAny (model prog w) A (exec (.For target iter body orelse pos) env) Q E s := by
 refine wpAny_For (wpAny_mono h (fun xv s₁ h₁ => wpAny_mono h₁ (fun it s₂ h₂ => ?_) fun _ _ e => e) fun _ _ e => e) hs
 obtain ⟨I, fp, wr, n, P, Md, St, J, rfl, W, hst, h0, stab, step, fin⟩ := h₂
 exact for_K W J hst h0 stab step fin hE
theorem wpAny_E {α : Type} {M : Model} {t : Sem α} {Q : α → Shared → Prop} (h : wpAny M A t Q (fun _ _ => False) s) : wpAny M A t Q E s := wpAny_mono h (fun _ _ x => x) fun _ _ x => x.elim

def FrJ (g : Heap) (L : Addr) (s₀ : Shared) (wr : List Addr) (J : (Str → Option Value) → List (Addr × Obj) → Prop) (s : Shared) : Prop :=
 E4 fun h tk m news => A5 (s = { s₀ with heap := h, toks := tk }) (Fr g L h m) (News g L h news) ((∀ p ∈ news, p.1 ∉ wr)) (J m news)
theorem FrJ.stab {g : Heap} {L : Addr} {s₀ : Shared} {wr : List Addr} {J : (Str → Option Value) → List (Addr × Obj) → Prop} {s : Shared} {h' : Heap} {tk : Nat} (hL : L ∉ wr) (hw : ∀ b ∈ wr, g.get? b = none) (j : FrJ g L s₀ wr J s)
  (hk : ∀ b o, b ∉ wr → s.heap.get? b = some o → h'.get? b = some o) : FrJ g L s₀ wr J { s with heap := h', toks := tk } := by
 obtain ⟨h, tk', m, news, rfl, F, N, ha, hJ⟩ := j
 refine ⟨h', tk, m, news, rfl, ⟨F.ns.at' fun o e => hk _ o hL e, fun b o e => hk b o (fun q => ?_) (F.keep b o e), F.above⟩, fun p hp => ⟨hk _ _ (ha p hp) (N p hp).1, (N p hp).2⟩, ha, hJ⟩
 have := hw b q; rw [e] at this; cases this
def TurnB (g : Heap) (L : Addr) (s₀ : Shared) (own : List (Addr × Obj)) (J : (Str → Option Value) → List (Addr × Obj) → Prop) (Q : Flow → Shared → Prop) (f : Flow) (s : Shared) : Prop := match f with
 | .next => E4 fun h tk m news => A5 (s = { s₀ with heap := h, toks := tk }) (Fr g L h m) (News g L h (own ++ news)) ((∀ p ∈ news, ∀ q ∈ own, p.1 ≠ q.1)) (J m news)
 | .cont => E4 fun h tk m news => A5 (s = { s₀ with heap := h, toks := tk }) (Fr g L h m) (News g L h (own ++ news)) ((∀ p ∈ news, ∀ q ∈ own, p.1 ≠ q.1)) (J m news)
 | .brk => Q .next s
 | .ret v => Q (.ret v) s
theorem at_size {g h : Heap} {L : Addr} {m : Str → Option Value} (F : Fr g L h m) : g.get? h.objs.size = none := by
 cases q : g.get? h.objs.size with
 | none => rfl
 | some o => exact absurd (Heap.lt_size (F.keep _ _ q)) (Nat.lt_irrefl _)
abbrev LoopX (prog : Program) (w : World) (A : Around) (env : Env) (target : Expr) (body orelse : List Stmt) (Q : Flow → Shared → Prop) (E : Value → Shared → Prop) (it : Value) (s₂ : Shared) : Prop :=
 E8 fun (I : Addr) (fp wr : List Addr) (n : Nat) (P Md : Nat → Value → Heap → Prop) (St : Nat → Heap → Prop) (J : Nat → Shared → Prop) => A7 (it = .ref I) (KTurns prog w A target I fp wr n P Md St) (St 0 s₂.heap) (J 0 s₂) ((∀ i (s' : Shared) h' tk, J i s' → (∀ b o, b ∉ wr → s'.heap.get? b = some o → h'.get? b = some o) → J i { s' with heap := h', toks := tk })) ((∀ i v s₁, i < n → P i v s₁.heap → J i s₁ → St (i + 1) s₁.heap →
     wpAny (model prog w) A (assign target env v) (fun _ s₂ => wpAny (model prog w) A (execs body env) (TurnK (fun s₃ => J (i + 1) s₃ ∧ St (i + 1) s₃.heap) Q) E s₂) E s₁)) (∀ s₁, J n s₁ → wpAny (model prog w) A (execs orelse env) Q E s₁)
theorem for_walk {g : Heap} {I c : Addr} {n : Nat} {P : Nat → Value → Prop} {St : Nat → Heap → Prop} {x : Str} {px : Pos} {m₀ : Str → Option Value} {news₀ : List (Addr × Obj)} (J : Nat → (Str → Option Value) → List (Addr × Obj) → Prop) (s₀ : Shared)
  (W : Walks prog w A I [I, c] [I] n P St) (R : Nat → Obj → Prop) (hS1 : ∀ i h, St i h → ∃ o, h.get? I = some o ∧ R i o) (hS2 : ∀ i (h : Heap) o, (∀ b o, g.get? b = some o → h.get? b = some o) → h.get? I = some o → R i o → St i h)
  (hs : E2 fun h tk => s = { s₀ with heap := h, toks := tk })
  (hst : St 0 s.heap) (F : Fr g env.locals s.heap m₀) (N : News g env.locals s.heap news₀) (hI : ∀ p ∈ news₀, p.1 ≠ I) (hLI : env.locals ≠ I) (hgI : g.get? I = none) (hj : J 0 m₀ news₀) (hx : env.kindOf x = some .local)
  (hp : (env.scope.kind == .class || (env.scope.kind == .module && env.locals != env.globals)) = false)
  (turn : ∀ i v m news h tk oI, i < n → P i v → J i m news → Fr g env.locals h (fun y => if y = x then some v else m y) → News g env.locals h ((I, oI) :: news) → (∀ p ∈ news, p.1 ≠ I) →
   wpAny (model prog w) A (execs body env) (TurnB g env.locals s₀ [(I, oI)] (J (i + 1)) Q) E { s₀ with heap := h, toks := tk })
  (fin : ∀ m news h tk, J n m news → Fr g env.locals h m → News g env.locals h news → wpAny (model prog w) A (execs orelse env) Q E { s₀ with heap := h, toks := tk }) :
  LoopX prog w A env (.Name x px) body orelse Q E (.ref I) s := by
 obtain ⟨h₀, tk₀, rfl⟩ := hs
 refine ⟨I, _, _, n, _, _, _, fun i => FrJ g env.locals s₀ [I] (J i), rfl, KTurns.ofWalks W (by intro i v s Q E _ hq; exact wpAny_pure hq), hst, ⟨_, _, m₀, news₀, rfl, F, N, fun p hp => by simpa using hI p hp, hj⟩, ?_, ?_, ?_⟩
 ·intro i s' h' tk j hk
  exact j.stab (by simp [hLI]) (by intro b hb; rw [List.mem_singleton.mp hb]; exact hgI) hk
 ·rintro i v s₁ hin hP ⟨h, tk, m, news, rfl, F₁, N₁, ha, hJ⟩ hst
  obtain ⟨oI, hoI, hR⟩ := hS1 _ _ hst
  have hNI : News g env.locals h ((I, oI) :: news) := fun p hp => by
   rcases List.mem_cons.mp hp with rfl | hp
   ·exact ⟨hoI, Ne.symm hLI, hgI⟩
   ·exact N₁ p hp
  refine wpAny_assign_Name (wpAny_storeName_local hx F₁.ns (fun h₂ hn₂ hs₂ => ?_) hp)
  refine wpAny_mono (turn i v m news h₂ _ oI hin hP hJ (F₁.set hn₂ hs₂) (hNI.set hs₂) fun p hp => by simpa using ha p hp) (fun f s₃ h₃ => ?_) fun _ _ e => e
  have fin : (E4 fun h tk m news' => A5 (s₃ = { s₀ with heap := h, toks := tk }) (Fr g env.locals h m) (News g env.locals h ([(I, oI)] ++ news')) ((∀ p ∈ news', ∀ q ∈ [(I, oI)], p.1 ≠ q.1)) (J (i + 1) m news')) →
    FrJ g env.locals s₀ [I] (J (i + 1)) s₃ ∧ St (i + 1) s₃.heap := by
   rintro ⟨h₄, tk₃, m₃, news₃, rfl, F₃, N₃, ha₃, hJ₃⟩
   refine ⟨⟨h₄, tk₃, m₃, news₃, rfl, F₃, fun p hp => N₃ p (.tail _ hp), fun p hp => by simpa using ha₃ p hp _ (.head _), hJ₃⟩, hS2 _ _ oI F₃.keep (N₃ _ (.head _)).1 hR⟩
  cases f with
  | next => exact fin h₃
  | cont => exact fin h₃
  | brk => exact h₃
  | ret v => exact h₃
 ·rintro s₁ ⟨h, tk, m, news, rfl, F₁, N₁, ha, hJ⟩
  exact fin m news h tk hJ F₁ N₁
theorem i_facts {g : Heap} {L : Addr} {m : Str → Option Value} {news : List (Addr × Obj)} (F : Fr g L s.heap m) (N : News g L s.heap news) : (∀ p ∈ news, p.1 ≠ s.heap.objs.size) ∧ L ≠ s.heap.objs.size ∧ g.get? s.heap.objs.size = none :=
 ⟨fun p hp => Nat.ne_of_lt (Heap.lt_size (N p hp).1), Nat.ne_of_lt F.ns.lt, at_size F⟩
theorem for_base {g : Heap} {l : Addr} {vs : List Value} {x : Str} {px : Pos} {m₀ : Str → Option Value} {news₀ : List (Addr × Obj)} (J : Nat → (Str → Option Value) → List (Addr × Obj) → Prop)
  (hh : A.handled = none) (hl : g.IsList l vs.toArray) (F : Fr g env.locals s.heap m₀) (N : News g env.locals s.heap news₀) (hj : J 0 m₀ news₀) (hx : env.kindOf x = some .local)
  (hp : (env.scope.kind == .class || (env.scope.kind == .module && env.locals != env.globals)) = false)
  (turn : ∀ i v m news h tk I oI, vs[i]? = some v → J i m news → Fr g env.locals h (fun y => if y = x then some v else m y) → News g env.locals h ((I, oI) :: news) → (∀ p ∈ news, p.1 ≠ I) →
   wpAny (model prog w) A (execs body env) (TurnB g env.locals s [(I, oI)] (J (i + 1)) Q) E { s with heap := h, toks := tk })
  (fin : ∀ m news h tk, J vs.length m news → Fr g env.locals h m → News g env.locals h news → wpAny (model prog w) A (execs orelse env) Q E { s with heap := h, toks := tk }) :
  wpAny (model prog w) A (pyIter (.ref l)) (fun it s₂ => LoopX prog w A env (.Name x px) body orelse Q E it s₂) E s := by
 have hls : s.heap.IsList l vs.toArray := hl.at fun o e => F.keep l o e
 obtain ⟨ol, hol, _⟩ := id hl
 have hlt : l < g.objs.size := Heap.lt_size hol
 have hne : l ≠ s.heap.objs.size := Nat.ne_of_lt (Nat.lt_trans (Nat.lt_of_lt_of_le hlt F.above) F.ns.lt)
 refine wpAny_pyIter_list hls ?_
 have W := Walks.list (prog := prog) (w := w) hh s.heap.objs.size l hne vs.toArray
 have hlen : vs.toArray.size = vs.length := by simp
 rw [hlen] at W
 obtain ⟨f1, f2, f3⟩ := i_facts F N
 refine for_walk J s W (fun i o => o.cls = .type "list_iterator" ∧ o.data = .fields #[.ref l, .int i 0]) (fun i h st => by obtain ⟨⟨o, a, b, c⟩, _⟩ := st; exact ⟨o, a, b, c⟩) (fun i h o k a b => ⟨⟨o, a, b.1, b.2⟩, hl.at fun o e => k l o e⟩) ⟨_, s.toks, rfl⟩
  ⟨⟨_, Heap.get?_push_size _ rfl, rfl, rfl⟩, hls.at fun o e => Heap.get?_push_of_some _ e⟩ (F.push _) (fun p hp => ⟨Heap.get?_push_of_some _ (N p hp).1, (N p hp).2⟩) f1 f2 f3 hj hx hp ?_ fin
 intro i v m news h tk oI hi hP hJ F' N' ha
 exact turn i v m news h tk _ oI (by simpa using hP) hJ F' N' ha
theorem for_dict {g : Heap} {d : Addr} {kvs : List (Str × Value)} {x : Str} {px : Pos} {m₀ : Str → Option Value} {news₀ : List (Addr × Obj)} (J : Nat → (Str → Option Value) → List (Addr × Obj) → Prop)
  (hh : A.handled = none) (lo : (d == sysModules) = false) (hl : g.DictOf (PySem.strKind prog w) d kvs) (F : Fr g env.locals s.heap m₀) (N : News g env.locals s.heap news₀) (hj : J 0 m₀ news₀) (hx : env.kindOf x = some .local)
  (hp : (env.scope.kind == .class || (env.scope.kind == .module && env.locals != env.globals)) = false)
  (turn : ∀ i k t m news h tk I oI, (kvs.map (·.1))[i]? = some k → J i m news → Fr g env.locals h (fun y => if y = x then some (.str k t) else m y) → News g env.locals h ((I, oI) :: news) → (∀ p ∈ news, p.1 ≠ I) →
   wpAny (model prog w) A (execs body env) (TurnB g env.locals s [(I, oI)] (J (i + 1)) Q) E { s with heap := h, toks := tk })
  (fin : ∀ m news h tk, J kvs.length m news → Fr g env.locals h m → News g env.locals h news → wpAny (model prog w) A (execs orelse env) Q E { s with heap := h, toks := tk }) :
  wpAny (model prog w) A (pyIter (.ref d)) (fun it s₂ => LoopX prog w A env (.Name x px) body orelse Q E it s₂) E s := by
 obtain ⟨o, es, ep, hol, r⟩ := id hl
 have hg : g.DictAt (PySem.strKind prog w) d kvs ep := ⟨o, es, hol, r⟩
 have hls : s.heap.DictAt (PySem.strKind prog w) d kvs ep := hg.at' fun o e => F.keep d o e
 have hlt : d < g.objs.size := Heap.lt_size hol
 have hne : d ≠ s.heap.objs.size := Nat.ne_of_lt (Nat.lt_trans (Nat.lt_of_lt_of_le hlt F.above) F.ns.lt)
 refine wpAny_pyIter_dict lo hls ?_
 have W := Walks.dictKeys (prog := prog) (w := w) (knd := PySem.strKind prog w) hh s.heap.objs.size d hne kvs ep
 obtain ⟨f1, f2, f3⟩ := i_facts F N
 refine for_walk J s W (fun i o => ∀ h : Heap, h.get? s.heap.objs.size = some o → h.IsKeyIter s.heap.objs.size d i kvs.length ep) (fun i h st => ?_) (fun i h o k a b => ⟨b h a, hg.at' fun o e => k d o e⟩) ⟨_, s.toks, rfl⟩
  ⟨⟨_, Heap.get?_push_size _ rfl, rfl, rfl⟩, hls.at' fun o e => Heap.get?_push_of_some _ e⟩ (F.push _) (fun p hp => ⟨Heap.get?_push_of_some _ (N p hp).1, (N p hp).2⟩) f1 f2 f3 hj hx hp ?_ fin
 ·obtain ⟨⟨o, a, b⟩, _⟩ := st
  exact ⟨o, a, fun h' e => ⟨o, e, b⟩⟩
 ·intro i v m news h tk oI hi hP hJ F' N' ha
  obtain ⟨k, y, hk, hv⟩ := hP
  obtain ⟨t, rfl⟩ : ∃ t, v = .str k t := by
   cases v with
   | str z t => exact ⟨t, by have : (z == k) = true := hv; rw [eq_of_beq this]⟩
   | _ => cases hv
  exact turn i k t m news h tk _ oI (by simp [hk]) hJ F' N' ha
end
section
variable {prog : Program} {w : World} {A : Around} {E : Value → Shared → Prop} {s : Shared} {env : Env} {test : Expr} {body orelse : List Stmt} {Q : Flow → Shared → Prop}
theorem While_K {pos : Pos} (I : Nat → Shared → Prop) (n : Nat) (h : I n s)
  (turn : ∀ n s, I n s → wpAny (model prog w) A (isTrue test env (eval test env)) (fun b s₁ =>
   if b then wpAny (model prog w) A (execs body env) (TurnK (fun s₃ => ∃ m, m < n ∧ I m s₃) Q) E s₁ else wpAny (model prog w) A (execs orelse env) Q E s₁) E s)
  (hE : PassesOwn (model prog w) A env E) : wpAny (model prog w) A (exec (.While test body orelse pos) env) Q E s := by
 refine wpAny_While (codeAny_whileLoop I (fun n s hI => ?_) n h)
 refine wpAny_mono (turn n s hI) (fun b s₁ h₁ => ?_) hE
 cases b with
 | true =>
  refine wpAny_mono (wpAny_passesOwn hE h₁) (fun f s₂ h₂ => ?_) fun _ _ e => e
  cases f with
  | next => exact h₂
  | cont => exact h₂
  | brk => exact h₂
  | ret v => exact h₂
 | false => exact wpAny_passesOwn hE h₁
end
section
variable {prog : Program} {w : World} {A : Around} {E : Value → Shared → Prop} {s : Shared} {env : Env} {body orelse : List Stmt} {Q : Flow → Shared → Prop}
theorem fr_ext {g h h' : Heap} {L : Addr} {m : Str → Option Value} (F : Fr g L h m) (k : ∀ b o, h.get? b = some o → h'.get? b = some o) : Fr g L h' m := ⟨F.ns.at' fun o e => k _ o e, fun b o e => k b o (F.keep b o e), F.above⟩
theorem news_ext {g h h' : Heap} {L : Addr} {news : List (Addr × Obj)} (N : News g L h news) (k : ∀ b o, h.get? b = some o → h'.get? b = some o) : News g L h' news := fun p hp => ⟨k _ _ (N p hp).1, (N p hp).2⟩
theorem assign_pair {g : Heap} {x y : Str} {px py pos : Pos} {k : Nat} {T : Addr} {a b : Value} {m : Str → Option Value} {news : List (Addr × Obj)} {Q : Unit → Shared → Prop}
  (hh : A.handled = none) (ht : s.heap.IsTuple T #[a, b]) (F : Fr g env.locals s.heap m) (N : News g env.locals s.heap news) (hx : env.kindOf x = some .local) (hy : env.kindOf y = some .local)
  (hp : (env.scope.kind == .class || (env.scope.kind == .module && env.locals != env.globals)) = false)
  (hq : ∀ h' tk, Fr g env.locals h' (fun z => if z = y then some b else if z = x then some a else m z) → News g env.locals h' news → Q () { s with heap := h', toks := tk }) :
  wpAny (model prog w) A (assign (.Tuple [.Name x px, .Name y py] k pos) env (.ref T)) Q E s := by
 refine wpAny_assign_Tuple hh ht rfl rfl fun h₃ hx₃ => ?_
 have k₃ : ∀ b o, s.heap.get? b = some o → h₃.get? b = some o := fun b o e => hx₃ b o (Nat.ne_of_lt (Heap.lt_size e)) e
 have F₃ := fr_ext F k₃
 have N₃ := news_ext N k₃
 show wpAny _ A (do holding [b] (assign (.Name x px) env a); do holding [] (assign (.Name y py) env b); pure ()) _ _ _
 refine wpAny_bind (wpAny_holding (wpAny_assign_Name (wpAny_storeName_local hx F₃.ns (fun h₄ hn₄ hs₄ => ?_) hp)))
 refine wpAny_bind (wpAny_holding (wpAny_assign_Name (wpAny_storeName_local hy hn₄ (fun h₅ hn₅ hs₅ => wpAny_pure ?_) hp)))
 exact hq _ _ ((F₃.set hn₄ hs₄).set hn₅ hs₅) ((N₃.set hs₄).set hs₅)
theorem enum_base {g : Heap} {l : Addr} {vs : List Value} {xi xv : Str} {pi pv pos : Pos} {kk : Nat} {m₀ : Str → Option Value} {news₀ : List (Addr × Obj)} (J : Nat → (Str → Option Value) → List (Addr × Obj) → Prop)
  (hh : A.handled = none) (hl : g.IsList l vs.toArray) (F : Fr g env.locals s.heap m₀) (N : News g env.locals s.heap news₀) (hj : J 0 m₀ news₀) (hxi : env.kindOf xi = some .local) (hxv : env.kindOf xv = some .local)
  (hp : (env.scope.kind == .class || (env.scope.kind == .module && env.locals != env.globals)) = false)
  (turn : ∀ i v t m news h tk e oe it oit, vs[i]? = some v → J i m news → Fr g env.locals h (fun y => if y = xv then some v else if y = xi then some (.int (i : Nat) t) else m y) → News g env.locals h ((e, oe) :: (it, oit) :: news) → (∀ p ∈ news, p.1 ≠ e ∧ p.1 ≠ it) →
   wpAny (model prog w) A (execs body env) (TurnB g env.locals s [(e, oe), (it, oit)] (J (i + 1)) Q) E { s with heap := h, toks := tk })
  (fin : ∀ m news h tk, J vs.length m news → Fr g env.locals h m → News g env.locals h news → wpAny (model prog w) A (execs orelse env) Q E { s with heap := h, toks := tk }) :
  wpAny (model prog w) A (call (.type "enumerate") [.ref l]) (fun xval s₁ => wpAny (model prog w) A (pyIter xval) (fun it s₂ => LoopX prog w A env (.Tuple [.Name xi pi, .Name xv pv] kk pos) body orelse Q E it s₂) E s₁) E s := by
 have hls : s.heap.IsList l vs.toArray := hl.at fun o e => F.keep l o e
 obtain ⟨ol, hol, _⟩ := id hl
 have hlt : @LT.lt Nat _ l s.heap.objs.size := Nat.lt_trans (Nat.lt_of_lt_of_le (Heap.lt_size hol) F.above) F.ns.lt
 have hLI : @LT.lt Nat _ env.locals s.heap.objs.size := F.ns.lt
 have hgI := at_size F
 have hgE : g.get? (s.heap.objs.size + 1) = none := by
  cases q : g.get? (s.heap.objs.size + 1) with
  | none => rfl
  | some o => exact absurd (ltN (Heap.lt_size (F.keep _ _ q))) (by omega)
 refine call_enumerate_list hls fun h' hE hI hsz hk => ?_
 refine wpAny_pyIter_enum hE ?_
 have W := KTurns.ofWalksU (elts := [.Name xi pi, .Name xv pv]) (k := kk) (pos := pos) (WalksT.enumerate (prog := prog) (w := w) hh (s.heap.objs.size + 1) s.heap.objs.size l (Nat.succ_ne_self _) (by k_ne) (Nat.ne_of_lt hlt) vs.toArray).toU
 have hnews : ∀ p ∈ news₀, @LT.lt Nat _ p.1 s.heap.objs.size := fun p hp => Heap.lt_size (N p hp).1
 generalize hIe : s.heap.objs.size = I at *
 refine ⟨I + 1, _, _, _, _, _, _, fun i => FrJ g env.locals s [I + 1, I] (J i), rfl, W, ⟨⟨.none, hE⟩, hI, hls.at fun o e => hk _ o e⟩, ⟨_, s.toks, m₀, news₀, rfl, fr_ext F hk, news_ext N hk, ?_, hj⟩, ?_, ?_, ?_⟩
 ·intro p hp hq
  have := hnews p hp
  simp only [List.mem_cons, List.not_mem_nil, or_false] at hq
  rcases hq with q | q <;> (rw [q] at this; omega)
 ·intro i s' h' tk j hk
  refine j.stab ?_ ?_ hk
  ·simp only [List.mem_cons, List.not_mem_nil, or_false, not_or]; exact ⟨by k_ne, by k_ne⟩
  ·intro b hb
   simp only [List.mem_cons, List.not_mem_nil, or_false] at hb
   rcases hb with rfl | rfl
   ·exact hgE
   ·exact hgI
 ·rintro i v s₁ hin ⟨T, vals, rfl, ⟨t, x, hx', rfl⟩, hT⟩ ⟨h, tk, m, news, rfl, F₁, N₁, ha, hJ⟩ hst
  have hP' : vs[i]? = some x := by simpa using hx'
  obtain ⟨⟨old, he⟩, ⟨oi, hoi, hc, hd⟩, _⟩ := id hst
  have he' : ∃ oe : Obj, h.get? (I + 1) = some oe ∧ (∀ h'' : Heap, h''.get? (I + 1) = some oe → IsEnum h'' (I + 1) I ((i + 1 : Nat) : Int) old) := ⟨_, he, fun h'' q => q⟩
  obtain ⟨oe, he1, he2⟩ := he'
  have hNI : News g env.locals h ((I + 1, oe) :: (I, oi) :: news) := fun p hp => by
   rcases List.mem_cons.mp hp with rfl | hp
   ·exact ⟨he1, by k_ne, hgE⟩
   ·rcases List.mem_cons.mp hp with rfl | hp
    ·exact ⟨hoi, by k_ne, hgI⟩
    ·exact N₁ p hp
  have hap : ∀ p ∈ news, p.1 ≠ I + 1 ∧ p.1 ≠ I := fun p hp => by
   have := ha p hp
   simp only [List.mem_cons, List.not_mem_nil, or_false, not_or] at this
   exact this
  refine assign_pair hh hT F₁ hNI hxi hxv hp fun h₂ tk₂ F₂ N₂ => ?_
  refine wpAny_mono (turn i x t m news h₂ tk₂ (I + 1) oe I oi hP' hJ F₂ N₂ hap) (fun f s₃ h₃ => ?_) fun _ _ e => e
  have fin : (E4 fun h tk m news' => A5 (s₃ = { s with heap := h, toks := tk }) (Fr g env.locals h m) (News g env.locals h ([(I + 1, oe), (I, oi)] ++ news')) ((∀ p ∈ news', ∀ q ∈ [(I + 1, oe), (I, oi)], p.1 ≠ q.1)) (J (i + 1) m news')) →
    FrJ g env.locals s [I + 1, I] (J (i + 1)) s₃ ∧ ((∃ old, IsEnum s₃.heap (I + 1) I ((i + 1 : Nat) : Int) old) ∧ s₃.heap.IsListIter I l (i + 1) ∧ s₃.heap.IsList l vs.toArray) := by
   rintro ⟨h₄, tk₃, m₃, news₃, rfl, F₃, N₃, ha₃, hJ₃⟩
   refine ⟨⟨h₄, tk₃, m₃, news₃, rfl, F₃, fun p hp => N₃ p (.tail _ (.tail _ hp)), fun p hp => ?_, hJ₃⟩, ⟨old, he2 _ (N₃ _ (.head _)).1⟩, ⟨oi, (N₃ _ (.tail _ (.head _))).1, hc, hd⟩, hl.at fun o e => F₃.keep l o e⟩
   have a1 := ha₃ p hp _ (.head _)
   have a2 := ha₃ p hp _ (.tail _ (.head _))
   simp only [List.mem_cons, List.not_mem_nil, or_false, not_or]
   exact ⟨a1, a2⟩
  cases f with
  | next => exact fin h₃
  | cont => exact fin h₃
  | brk => exact h₃
  | ret v => exact h₃
 ·rintro s₁ ⟨h, tk, m, news, rfl, F₁, N₁, ha, hJ⟩
  have : vs.toArray.size = vs.length := by simp
  rw [this] at hJ
  exact fin m news h tk hJ F₁ N₁
end
theorem st_empty {w : World} {h : Heap} (X : (Mine.hd.heap_39 w.params).In h) : h.Ns cStatics (fun _ => none) := by
 have e : h.get? 2 = some (⟨.none, none, .dict #[] 0, #[]⟩ : Obj) := X 2 _ (by k_is)
 refine ⟨_, #[], 0, e, rfl, ?_, fun name => ?_⟩
 ·intro x hx; simp at hx
 ·rfl
section
variable {M : Model} {A : Around} {E : Value → Shared → Prop} {s : Shared} {w : World}
theorem told_not {t : Tok} {Q : Bool → Shared → Prop} (X : (Mine.hd.heap_39 w.params).In s.heap) (h : Q false s) : wpAny M A (sharingNotTold t) Q E s := by
 unfold sharingNotTold
 exact wpAny_bind (wpAny_nsGet (st_empty X) (wpAny_pure h))
theorem created_tok {c : Bool} {t u : Tok} {Q : Bool → Shared → Prop} (X : (Mine.hd.heap_39 w.params).In s.heap) (ht : t ≠ 0) (hu : u ≠ 0) (hc : t = u → c = true) (h : ∀ b, (b = true → c = true) → Q b s) : wpAny M A (isSame.created c t u) Q E s := by
 have h0 : (t == 0 || u == 0) = false := by simp [ht, hu]
 unfold isSame.created
 simp only [h0, Bool.false_eq_true, if_false]
 by_cases e : t = u
 ·subst e
  simp only [beq_self_eq_true, if_true]
  exact wpAny_bind (wpAny_pure (wpAny_pure (h true fun _ => hc rfl)))
 ·have e' : (t == u) = false := by simp [e]
  simp only [e', Bool.false_eq_true, if_false]
  cases c with
  | false => exact wpAny_bind (wpAny_pure (wpAny_pure (h false fun q => nomatch q)))
  | true =>
   simp only [Bool.not_true, Bool.false_eq_true, if_false]
   refine wpAny_bind (told_not X ?_)
   simp only [Bool.false_eq_true, if_false]
   refine wpAny_bind (told_not X ?_)
   simp only [Bool.false_eq_true, if_false]
   exact wpAny_bind (wpAny_rule (wpAny_bind (wpAny_askSetting (wpAny_pure (h _ fun _ => rfl)))))
theorem is_str {x y : Str} {t u : Tok} {Q : Value → Shared → Prop} (X : (Mine.hd.heap_39 w.params).In s.heap) (ht : t ≠ 0) (hu : u ≠ 0) (hc : t = u → x = y) (h : ∀ b : Bool, (b = true → x = y) → Q (.bool b) s) :
  wpAny M A (compareOp .Is (.str x t) (.str y u)) Q E s := by
 show wpAny M A (do return .bool (← isSame (.str x t) (.str y u))) Q E s
 exact wpAny_bind (created_tok (c := x == y) X ht hu (fun e => by simp [hc e]) fun b hb => wpAny_pure (h b fun q => by simpa using hb q))
theorem is_int {x y : Int} {t u : Tok} {Q : Value → Shared → Prop} (X : (Mine.hd.heap_39 w.params).In s.heap) (ht : t ≠ 0) (hu : u ≠ 0) (hc : t = u → x = y) (h : ∀ b : Bool, (b = true → x = y) → Q (.bool b) s) :
  wpAny M A (compareOp .Is (.int x t) (.int y u)) Q E s := by
 show wpAny M A (do return .bool (← isSame (.int x t) (.int y u))) Q E s
 refine wpAny_bind ?_
 show wpAny M A (if (x == y && smallInt x) = true then isSame.cachedInt t u else isSame.created (x == y) t u) _ _ _
 split
 ·rename_i q
  unfold isSame.cachedInt
  have h0 : (t == 0 || u == 0) = false := by simp [ht, hu]
  simp only [h0, Bool.false_eq_true, if_false]
  exact wpAny_bind (wpAny_rule (wpAny_pure (wpAny_pure (h true fun _ => by simp at q; exact q.1))))
 ·exact created_tok (c := x == y) X ht hu (fun e => by simp [hc e]) fun b hb => wpAny_pure (h b fun q => by simpa using hb q)
end
theorem inst_base {g h : Heap} {L x C dx : Addr} {m : Str → Option Value} {od : Obj} {sl : Array (Option Value)} (F : Fr g L h m) (h1 : g.get? x = some (⟨.ref C, some dx, .plain, sl⟩ : Obj)) (h2 : g.get? dx = some od) :
  PySem.W.InstAt h x ⟨.ref C, some dx, .plain, sl⟩ C (some od) := ⟨F.keep _ _ h1, rfl, rfl, F.keep _ _ h2⟩
theorem inst_mix {g h : Heap} {L x C dx : Addr} {m : Str → Option Value} {od : Obj} {sl : Array (Option Value)} {news : List (Addr × Obj)} (F : Fr g L h m) (N : News g L h news) (h1 : (x, (⟨.ref C, some dx, .plain, sl⟩ : Obj)) ∈ news) (h2 : g.get? dx = some od) :
  PySem.W.InstAt h x ⟨.ref C, some dx, .plain, sl⟩ C (some od) := ⟨(N _ h1).1, rfl, rfl, F.keep _ _ h2⟩
section
variable {prog : Program} {w : World} {A : Around} {E : Value → Shared → Prop} {s : Shared} {g : Heap} {L d : Addr} {m : Str → Option Value} {kvs : List (Str × Value)} {k : Str} {t : Tok} {v : Value}
theorem bd_dict (F : Fr g L s.heap m) (hD : g.DictOf (PySem.strKind prog w) d kvs) : s.heap.DictOf (PySem.strKind prog w) d kvs := by
 refine hide fun Dq kq => ?_; obtain ⟨o, ho, r⟩ := Heap.dictOf_iff.mp hD; refine kq ?_; clear kq Dq
 exact Heap.dictOf_iff.mpr ⟨o, F.keep _ _ ho, r⟩
theorem bd_method {pl : Sem Bool} {Q : Value × List Value → Shared → Prop} (F : Fr g L s.heap m) (hD : g.DictOf (PySem.strKind prog w) d kvs) (h : Q (.builtin "dict.get", [.ref d]) s) : wpAny (model prog w) A (getMethod (.ref d) "get" pl) Q E s :=
 have hD := bd_dict F hD
 getMethod_builtin hD.typeIs PySem.F.plainAttrs_dict PySem.F.slot_dict_get PySem.F.type_dict_get hD.mapOf.noDict h
theorem bd_get {Q : Value → Shared → Prop} (F : Fr g L s.heap m) (hD : g.DictOf (PySem.strKind prog w) d kvs) (lo : (d == sysModules) = false) (hl : valueAt kvs k = some v) (h : Q v { s with toks := s.toks + 1 }) :
  wpAny (model prog w) A (call (.builtin "dict.get") [.ref d, .str k t]) Q E s :=
 have hD := bd_dict F hD
 call_meetsIn PySem.F.slot_dict_get hD.typeIs PySem.F.entry_dict_get (PySem.F.args_dict_get_2 _ _) (meets_dict_get (PySem.strKind prog w) d (strKind_is _ _ _ _) lo) ⟨_, hD.mapOf, by rw [hl]; exact h⟩
theorem bd_item {Q : Value → Shared → Prop} (F : Fr g L s.heap m) (hD : g.DictOf (PySem.strKind prog w) d kvs) (hl : valueAt kvs k = some v) (h : Q v { s with toks := s.toks + 1 }) : wpAny (model prog w) A (getItem (.ref d) (.str k t)) Q E s :=
 wpAny_getItem_of (strKind_is _ _ _ _) (bd_dict F hD).mapOf hl h
theorem bd_tail {value slice : PySem.Expr} {Q : Value → Shared → Prop} (F : Fr g L s.heap m) (hD : g.DictOf (PySem.strKind prog w) d kvs) (hl : valueAt kvs k = some v) (h : Q v { s with toks := s.toks + 1 })
  (hs : subscripted slice false (.ref d) (.str k t) = operate [.ref d, .str k t] (getItem (.ref d) (.str k t)) := by with_unfolding_all rfl) : wpAny (model prog w) A (subscriptTail value slice (.ref d) (.str k t)) Q E s :=
 tail_any (bd_dict F hD).typeIs slot_dict_getitem.lookup (bd_item F hD hl h) hs
end
abbrev sdict (h1 h2 h3 h4 : Int) (t1 t2 t3 t4 : Tok) (d : Addr) (rv : Value) (p f : Int) (tp tf : Tok) : List DictEntry :=
 [⟨h1, .str (Str.ofString "_node2info") t1, .ref d⟩, ⟨h2, .str (Str.ofString "_ready_nodes") t2, rv⟩, ⟨h3, .str (Str.ofString "_npassedout") t3, .int p tp⟩, ⟨h4, .str (Str.ofString "_nfinished") t4, .int f tf⟩]
abbrev nodeObj (v : Value) (c : Int) (ct : Tok) (sa da : Addr) : Obj := ⟨.ref 68, some da, .plain, #[some v, some (.int c ct), some (.ref sa)]⟩
section
variable {prog : Program} {w : World} {A : Around} {E : Value → Shared → Prop} {s : Shared} {g : Heap} {L sa : Addr} {m : Str → Option Value} {news : List (Addr × Obj)} {so : Obj} {S : Str → Bool} {n : Nat} {k : Str} {t : Tok}
theorem set_in {Q : Value → Shared → Prop} (N : News g L s.heap news) (hm : (sa, so) ∈ news) (hso : so.SetObjOf (PySem.strKind prog w) S n) (hb : n < 100) (h : Q (.bool (S k)) { s with toks := s.toks + 1 }) :
  wpAny (model prog w) A (compareOp .In (.str k t) (.ref sa)) Q E s := by
 refine hide fun Dq kq => ?_; obtain ⟨pre, post, rfl⟩ := List.append_of_mem hm; refine kq ?_; clear kq Dq
 exact in_sl1 (knd := PySem.strKind prog w) N hso (Nat.lt_trans hb (by decide)) (strKind_is _ _ _ _) rfl h
theorem dict_in {kvs : List (Str × Value)} {Q : Value → Shared → Prop} (N : News g L s.heap news) (hm : (sa, so) ∈ news) (hd : so.IsDictOf (PySem.strKind prog w) kvs) (lo : (sa == sysModules) = false) (h : Q (.bool (valueAt kvs k).isSome) { s with toks := s.toks + 1 }) :
  wpAny (model prog w) A (compareOp .In (.str k t) (.ref sa)) Q E s := kda_in (knd := PySem.strKind prog w) N hm hd lo (strKind_is _ _ _ _) _ rfl h
end
theorem small_add {n : Nat} (h : n < 100) : n + 1 < scanBound := Nat.lt_trans (Nat.succ_lt_succ h) (by decide)
theorem strs_set {x : Str} {u : Tok} : ∀ {vs : List Value} {xs : List Str}, StrsAre vs xs → ∀ j : Nat, StrsAre (vs.set j (.str x u)) (xs.set j x)
 | _, _, .nil, _ => .nil
 | _, _, .cons _ _ h, 0 => .cons x u h
 | _, _, .cons i t h, j + 1 => .cons i t (strs_set h j)
section
variable {prog : Program} {w : World} {A : Around} {E : Value → Shared → Prop} {s : Shared} {h₀ : Heap} {L D : Addr} {m : Str → Option Value} {news news' : List (Addr × Obj)} {vs : List Value} {xs : List Str} {n : Nat} {k : Int} {x : Str} {t u : Tok}
theorem set_str {Q : Unit → Shared → Prop} (F : Fr h₀ L s.heap m) (N : News h₀ L s.heap news) (U : Upd D (listOf vs.toArray n) (listOf (vs.set k.toNat (.str x u)).toArray n) news news') (hi : StrsAre vs xs) (h0 : 0 ≤ k) (h1 : k < xs.length) (hfit : k < 2 ^ 63)
  (h : ∀ h', Fr h₀ L h' m → News h₀ L h' news' → StrsAre (vs.set k.toNat (.str x u)) (xs.set k.toNat x) → (xs.set k.toNat x).length = xs.length → Q () { s with heap := h' }) :
  wpAny (model prog w) A (setItem (.ref D) (.int k t) (.str x u)) Q E s := by
 refine hide fun Dq kq => ?_; obtain ⟨pre, post, rfl, rfl, a, b⟩ := U.split; refine kq ?_; clear kq Dq
 have z := N (D, listOf vs.toArray n) (List.mem_append.mpr (.inr (.head _)))
 have hl : vs.length = xs.length := hi.length
 have hs : vs.toArray.size = xs.length := by rw [List.size_toArray]; exact hl
 refine ki_setAt z.1 h0 hfit (by omega) (h _ (F.change (Heap.SameBut.update ..) z.2.1 z.2.2) (ki_turn _ N a b ?_ ?_) (strs_set hi _) (List.length_set ..))
 ·show vs.toArray.setIfInBounds k.toNat (.str x u) = (vs.set k.toNat (.str x u)).toArray
  apply Array.toList_inj.mp
  simp
 ·simp
end
theorem strs_at {vs : List Value} {xs : List Str} (h : StrsAre vs xs) : ∀ {i : Nat} {v : Value}, vs[i]? = some v → E2 fun x t => xs[i]? = some x ∧ v = .str x t := by
 induction h with
 | nil => intro i v e; simp at e
 | cons y t _ ih =>
  intro i v e
  cases i with
  | zero => simp at e; exact ⟨y, t, by simp, e.symm⟩
  | succ i => simp at e; obtain ⟨x, u, a, b⟩ := ih e; exact ⟨x, u, by simpa using a, b⟩
theorem idx_at {xs : List Str} {y : Str} {i : Nat} (h : xs[i]? = some y) (hn : ∀ j < i, xs[j]? ≠ some y) : xs.idxOf y = i := by
 induction xs generalizing i with
 | nil => simp at h
 | cons x r ih =>
  cases i with
  | zero => simp at h; simp [h]
  | succ i =>
   have hx : x ≠ y := fun e => hn 0 (Nat.succ_pos _) (by simp [e])
   have := ih (i := i) (by simpa using h) (fun j hj => by simpa using hn (j + 1) (Nat.succ_lt_succ hj))
   rw [List.idxOf_cons]
   have hb : (x == y) = false := by simpa using hx
   simp [hb, this]
structure NewX (h h' : Heap) (e : Addr) (cls : String) : Prop where
 keeps : ∀ b o, h.get? b = some o → h'.get? b = some o
 new : h.get? e = none
 there : E2 fun ob vs => A4 (h'.get? e = some ob) (ob.cls = .type cls) (ob.data = .fields vs) (vs[1]? = some .none)
theorem newX_of {h h' : Heap} {e : Addr} {cls : String} (x : Heap.NewExc h h' e cls) : NewX h h' e cls := by
 refine hide fun Dq kq => ?_; obtain ⟨ob, t, a, b, c⟩ := x.there; refine kq ?_; clear kq Dq
 exact ⟨x.keeps, x.new, ob, _, a, b, c, rfl⟩
section
local macro_rules | `(tactic| walk_at "m_in") => `(tactic| ((case N => first | assumption | exact no_news); (case C => assumption); (case k6 => k_is); (case k7 => k_is); (case k8 => ktr_room); (case k9 => exact BindsTo.of_eq rfl); (case kB => exact locs rfl); (case c2 => exact rfl); (case c3 => exact rfl); (case c4 => exact rfl); (case c5 => decide); dsimp only [List.reverse, List.reverseAux, List.reverse_cons, List.nil_append, List.cons_append, List.length]))
local macro_rules | `(tactic| walk_at "m_inV") => `(tactic| ((case N => first | assumption | exact no_news); (case C => assumption); (case k6 => k_is); (case k7 => k_is); (case k8 => ktr_room); (case kP => exact rfl); (case kG => exact fun _ => rfl); (case kB => exact fun _ => locs rfl); (case c2 => exact rfl); (case c3 => exact rfl); (case c4 => exact rfl); (case c5 => decide); dsimp only [List.reverse, List.reverseAux, List.reverse_cons, List.nil_append, List.cons_append, List.length]))
local macro_rules | `(tactic| walk_at "getMethod ref") => `(tactic| (k_here; (with_reducible show wpAny _ _ (getMethod (Value.ref _) (Str.ofString "get") _) _ _ _); k_dflt (refine bd_method (by k_asm) (by assumption) ?_)))
local macro_rules | `(tactic| walk_at "call builtin:dict.get") => `(tactic| (k_here; k_dflt (refine bd_get (by k_asm) (by assumption) (by assumption) (by assumption) ?_)))
local macro_rules | `(tactic| walk_at "getItem ref str") => `(tactic| (k_here; k_dflt (refine bd_item (by k_asm) (by assumption) (by assumption) ?_)))
local macro_rules | `(tactic| walk_at "subscriptTail") => `(tactic| (k_here; (with_reducible show wpAny _ _ (subscriptTail _ _ (Value.ref _) (Value.str _ _)) _ _ _); k_dflt (refine bd_tail (by k_asm) (by assumption) (by assumption) ?_)))
local macro_rules | `(tactic| k_inst) => `(tactic| (refine' inst_base ?F ?h1 ?h2; (case F => k_asm); (case h1 => assumption); (case h2 => assumption)))
local macro_rules | `(tactic| k_inst) => `(tactic| (refine' inst_mix ?F ?N ?h1 ?h2; (case F => k_asm); (case N => k_asm); (case h1 => k_mem); (case h2 => assumption)))
local macro_rules | `(tactic| k_ne) => `(tactic| first | assumption | (refine Ne.symm ?_; assumption))
local macro_rules | `(tactic| walk_at "m_get") => `(tactic| first | exact get_lift (by k_asm) (by assumption) | exact News.get (by k_asm) (by k_mem))
local macro_rules | `(tactic| k_all) => `(tactic| assumption)
local macro_rules | `(tactic| walk_at "call builtin:set.add") => `(tactic| (k_here; k_dflt (refine' kse_add (knd := PySem.strKind _ _) ?F ?N ?U ?d ?z (strKind_is _ _ _ _) rfl ?_; (case F => k_asm); (case N => k_asm); (case U => k_updF); (case d => assumption); (case z => exact small_add (by assumption))); intro h' so' F' N' hs'; (try dsimp only at N'); (try k_sweep)))
local macro_rules | `(tactic| walk_at "compareOp In str ref") => `(tactic| (k_here; k_dflt (refine set_in (by k_asm) (by k_mem) (by assumption) (by assumption) ?_)))
local macro_rules | `(tactic| walk_at "compareOp In str ref") => `(tactic| (k_here; k_dflt (refine dict_in (by k_asm) (by k_mem) (by assumption) (by assumption) ?_)))
local macro_rules | `(tactic| walk_at "setItem ref int str") => `(tactic| (k_here; k_dflt (refine' set_str ?k1 ?k2 ?k3 ?k4 ?k5 ?k6 ?k7 ?_; (case k1 => k_asm); (case k2 => k_asm); (case k3 => k_upd); (case k4 => assumption); (case k5 => omega); (case k6 => omega); (case k7 => omega); k_whole); intro h' F' N' hS' hSl'; (try k_sweep)))
set_option hygiene false in
local macro_rules | `(tactic| walk_at "execs cons") => `(tactic| (k_here; k_gentoks; revert tk; refine keepL ?_; intro tk))
set_option hygiene false in
local macro_rules | `(tactic| walk_at "execs nil") => `(tactic| (k_here; k_gentoks; revert tk; refine keepL ?_; intro tk))
section
section
namespace NF
theorem slot_ga : Slot "list_iterator" "__getattribute__" "object.__getattribute__" :=
 .of (owner := "object") (n := "__getattribute__") (by rw [typeLookup_type, builtinLookup_eq_fast]; kernel_rfl) (by decide +kernel) (by decide +kernel) (by decide +kernel)
  (by first | exact .inl (by decide +kernel) | exact .inr (by decide +kernel)) (by rw [isSubtype_type]; kernel_rfl)
theorem entry_ga : entryFor table "object.__getattribute__" = some Builtin.«object.__getattribute__» := entryFor_of_tree (by kernel_rfl)
theorem args_ga (a b : Value) : argsOk "object.__getattribute__" ⟨[a, b], []⟩ := by unfold argsOk; kernel_rfl
theorem typeOf_nx : typeOf (.builtin "list_iterator.__next__") = pure (.type "wrapper_descriptor") := by show builtinType _ = _; rw [builtinType_eq_fast]; kernel_rfl
theorem slot_get : Slot "wrapper_descriptor" "__get__" "wrapper_descriptor.__get__" :=
 .of (owner := "wrapper_descriptor") (n := "__get__") (by rw [typeLookup_type, builtinLookup_eq_fast]; kernel_rfl) (by decide +kernel) (by decide +kernel) (by decide +kernel)
  (by first | exact .inl (by decide +kernel) | exact .inr (by decide +kernel)) (by rw [isSubtype_type]; kernel_rfl)
theorem no_set : typeLookup (.type "wrapper_descriptor") "__set__" = pure none := by rw [typeLookup_type, builtinLookup_eq_fast]; kernel_rfl
theorem no_del : typeLookup (.type "wrapper_descriptor") "__delete__" = pure none := by rw [typeLookup_type, builtinLookup_eq_fast]; kernel_rfl
theorem entry_get : entryFor table "wrapper_descriptor.__get__" = some Builtin.«wrapper_descriptor.__get__» := entryFor_of_tree (by kernel_rfl)
theorem args_get (a b c : Value) : argsOk "wrapper_descriptor.__get__" ⟨[a, b, c], []⟩ := by unfold argsOk; kernel_rfl
theorem owner_nx : (".".intercalate ("list_iterator.__next__".cutAt '.').dropLast) = "list_iterator" := by
 have e0 : "list_iterator.__next__".cutAt '.' = ["list_iterator", "__next__"] := by first | rfl | decide +kernel
 rw [e0]; decide +kernel
theorem sub_nx : isSubtype (.type "list_iterator") (.type (".".intercalate ("list_iterator.__next__".cutAt '.').dropLast)) = pure true := by rw [owner_nx, isSubtype_type]; kernel_rfl
end NF
variable {prog : Program} {w : World} {A : Around} {E : Value → Shared → Prop} {h : Heap} {g : Array GenState} {d : Drawn} {t : Nat} {os : OsState} {a : Addr} {o : Obj}
abbrev nxObj (a : Addr) : Obj := { cls := .type "method-wrapper", data := .fields #[.builtin "list_iterator.__next__", .ref a] }
theorem nx_get {R : Result → Shared → Prop} (hx : h.get? a = some o) (hc : o.cls = .type "list_iterator") (hq : R (.ok (.ret (.ref h.objs.size))) ⟨h.push (nxObj a), g, d, t, os⟩) :
  codeAny (model prog w) A (.call (.builtin "wrapper_descriptor.__get__") ⟨[.builtin "list_iterator.__next__", .ref a, .type "list_iterator"], []⟩) R ⟨h, g, d, t, os⟩ := by
 have hT : (⟨h, g, d, t, os⟩ : Shared).TypeIs (.ref a) "list_iterator" := ⟨_, hx, hc⟩
 have hT5 : (⟨h, g, d, t, os⟩ : Shared).TypeIs (.builtin "list_iterator.__next__") "wrapper_descriptor" := NF.typeOf_nx
 have f8 := NF.sub_nx
 refine codeAny_call_builtin NF.slot_get.plain NF.entry_get (NF.slot_get.check _ _ _ _ _ _ _ _ hT5 (NF.args_get _ _ _) ?_)
 repeat (any_goals (first | assumption | wp_step))
abbrev itObj (l : Addr) (i : Nat) : Obj := { cls := .type "list_iterator", data := .fields #[.ref l, .int i 0] }
theorem nx_entry {tk : Tok} {Q : Fin → Shared → Prop} {l : Addr} {i : Nat} (hx : h.get? a = some (itObj l i)) (hq : Q (.done (.ret (.ref h.objs.size))) ⟨h.push (nxObj a), g, d, t, os⟩) :
  wpAny (model prog w) A (Builtin.«object.__getattribute__» ⟨[.ref a, .str "__next__" tk], []⟩) Q E ⟨h, g, d, t, os⟩ := by
 have hT : (⟨h, g, d, t, os⟩ : Shared).TypeIs (.ref a) "list_iterator" := ⟨_, hx, rfl⟩
 have hT5 : (⟨h, g, d, t, os⟩ : Shared).TypeIs (.builtin "list_iterator.__next__") "wrapper_descriptor" := NF.typeOf_nx
 have f4 : typeLookup (.type "list_iterator") "__next__" = pure (some (.builtin "list_iterator.__next__")) := slot_listiter_next.lookup
 have f5 := NF.typeOf_nx
 have f6 := NF.slot_get.lookup
 have f7 := NF.no_set
 have f8 := NF.no_del
 repeat (any_goals (first | assumption | wp_step))
 refine nx_get hx rfl ?_
 repeat (any_goals (first | assumption | wp_step))
theorem nx_call {tk : Tok} {R : Result → Shared → Prop} {l : Addr} {i : Nat} (hx : h.get? a = some (itObj l i)) (hq : R (.ok (.ret (.ref h.objs.size))) ⟨h.push (nxObj a), g, d, t, os⟩) :
  codeAny (model prog w) A (.call (.builtin "object.__getattribute__") ⟨[.ref a, .str "__next__" tk], []⟩) R ⟨h, g, d, t, os⟩ :=
 codeAny_call_builtin NF.slot_ga.plain NF.entry_ga (NF.slot_ga.check _ _ _ _ _ _ _ _ (show (⟨h, g, d, t, os⟩ : Shared).TypeIs (.ref a) "list_iterator" from ⟨_, hx, rfl⟩) (NF.args_ga _ _) (nx_entry hx hq))
theorem nx_attr {Q : Value → Shared → Prop} {l : Addr} {i : Nat} (hx : h.get? a = some (itObj l i)) (hq : Q (.ref h.objs.size) ⟨h.push (nxObj a), g, d, t + 1, os⟩) :
  wpAny (model prog w) A (getAttr (.ref a) "__next__" true) Q E ⟨h, g, d, t, os⟩ := by
 have hT : (⟨h, g, d, t, os⟩ : Shared).TypeIs (.ref a) "list_iterator" := ⟨_, hx, rfl⟩
 have f2 := NF.slot_ga.lookup
 have f3 := NF.slot_ga.bind (.ref a)
 unfold getAttr
 repeat (any_goals (first | assumption | wp_step))
 refine nx_call hx ?_
 repeat (any_goals (first | assumption | wp_step))
theorem nx_check (I : Value) : checkBoundCall "list_iterator.__next__" ⟨[I], []⟩ = pure () := by kernel_rfl
theorem nx_run {s : Shared} {q I : Addr} {R : Result → Shared → Prop} (ho : s.heap.get? q = some (nxObj I)) (hb : codeAny (model prog w) A (.builtin "list_iterator.__next__" ⟨[.ref I], []⟩) R s) : codeAny (model prog w) A (.call (.ref q) ⟨[], []⟩) R s := by
 refine hide fun Dq kq => ?_; obtain ⟨hh, g, dr, t, os⟩ := s; refine kq ?_; clear kq Dq
 refine codeAny_of_tree ?_
 show wpAny _ _ (callAny (.ref q) _) _ _ _
 dsimp only at ho
 refine nd_load ho ?_
 show wpAny _ _ (checkBoundCall "list_iterator.__next__" ⟨[.ref I], []⟩ >>= fun _ => again (.builtin "list_iterator.__next__" ⟨[.ref I], []⟩)) _ _ _
 rw [nx_check]
 exact wpAny_bind (wpAny_pure (wpAny_pure ⟨Code.quiet_builtin _ (by decide +kernel), hb⟩))
theorem nx_item {s : Shared} {q I l : Addr} {i n : Nat} {vs : List Value} {v : Value} {Q : Value → Shared → Prop} (ho : s.heap.get? q = some (nxObj I)) (hi : s.heap.get? I = some (itObj l i)) (hl : s.heap.IsList l vs.toArray) (hx : vs[i]? = some v)
  (hQ : ∀ h', h'.get? I = some (itObj l (i + 1)) → Heap.SameBut I s.heap h' → Q v { s with heap := h' }) : wpAny (model prog w) A (call (.ref q) []) Q E s := by
 refine hide fun Dq kq => ?_; obtain ⟨ol, hol, _, nl, hdl⟩ := hl; refine kq ?_; clear kq Dq
 refine wpAny_call (nx_run ho (codeAny_builtin entry_listiter_next ?_))
 show wpAny _ _ (field (.ref I) 0 >>= _) _ _ s
 refine wpAny_bind (wpAny_field hi rfl (x := .ref l) rfl ?_)
 show wpAny _ _ (if (Value.ref l == Value.none) = true then _ else _) _ _ s
 rw [if_neg (show ¬ ((Value.ref l == Value.none) = true) from Bool.false_ne_true)]
 show wpAny _ _ (field (.ref I) 1 >>= _) _ _ s
 refine wpAny_bind (wpAny_field hi rfl (x := .int i 0) rfl ?_)
 show wpAny _ _ (seqItems? (.ref l) >>= _) _ _ s
 refine wpAny_bind (wpAny_seqItems hol hdl ?_)
 have hx' : vs.toArray[i]? = some v := by simpa using hx
 simp only [Int.toNat_natCast, hx']
 refine wpAny_bind (wpAny_setField hi rfl (by simp) (wpAny_pure (hQ _ ?_ (Heap.SameBut.update ..))))
 have := Heap.get?_update_self (Obj.mapFields (·.setIfInBounds 1 (rawInt ((i : Int) + 1)))) hi rfl
 rw [this]; simp [Obj.mapFields, rawInt]
theorem nx_end {s : Shared} {q I l : Addr} {i : Nat} {vs : List Value} {Q : Value → Shared → Prop} (hh : A.handled = none) (ho : s.heap.get? q = some (nxObj I)) (hi : s.heap.get? I = some (itObj l i)) (hl : s.heap.IsList l vs.toArray) (hx : vs[i]? = none)
  (hE : ∀ h₁ h' e o', h₁.get? I = some o' → Heap.SameBut I s.heap h₁ → NewX h₁ h' e "StopIteration" → E (.ref e) { s with heap := h' }) : wpAny (model prog w) A (call (.ref q) []) Q E s := by
 refine hide fun Dq kq => ?_; obtain ⟨ol, hol, _, nl, hdl⟩ := hl; refine kq ?_; clear kq Dq
 refine wpAny_call (nx_run ho (codeAny_builtin entry_listiter_next ?_))
 show wpAny _ _ (field (.ref I) 0 >>= _) _ _ s
 refine wpAny_bind (wpAny_field hi rfl (x := .ref l) rfl ?_)
 show wpAny _ _ (if (Value.ref l == Value.none) = true then _ else _) _ _ s
 rw [if_neg (show ¬ ((Value.ref l == Value.none) = true) from Bool.false_ne_true)]
 show wpAny _ _ (field (.ref I) 1 >>= _) _ _ s
 refine wpAny_bind (wpAny_field hi rfl (x := .int i 0) rfl ?_)
 show wpAny _ _ (seqItems? (.ref l) >>= _) _ _ s
 refine wpAny_bind (wpAny_seqItems hol hdl ?_)
 have hx' : vs.toArray[i]? = none := by simpa using hx
 simp only [Int.toNat_natCast, hx']
 refine wpAny_bind (wpAny_rule (wpAny_bind (wpAny_setField hi rfl (by simp) ?_)))
 have h1 := Heap.get?_update_self (Obj.mapFields (·.setIfInBounds 0 Value.none)) hi rfl
 have hs : Heap.SameBut I s.heap (s.heap.update I (Obj.mapFields (·.setIfInBounds 0 Value.none))) := Heap.SameBut.update ..
 show wpAny _ _ (newExc (.type "StopIteration") [] >>= _) _ _ _
 refine wpAny_bind ?_
 simp only [newExc, newTuple]
 refine wpAny_bind (wpAny_newObj_type ?_ (by size_fits))
 refine wpAny_bind (m := firstArgMember _ _) (wpAny_of_eq (a := Value.none) (by first | rfl | (simp only [firstArgMember]; rfl)) ?_)
 refine wpAny_newObj_type ?_ (by size_fits)
 simp only [raiseNew]
 refine wpAny_bind (wpAny_handled ?_)
 rw [show (A.under _).handled = none from hh]
 refine wpAny_bind (wpAny_pure (wpAny_throw ?_))
 refine hE _ _ _ _ h1 hs ⟨fun b o e => Heap.get?_push_of_some _ (Heap.get?_push_of_some _ e), ?_, ?_⟩
 ·exact Heap.get?_none_of_le (by rw [Heap.size_push]; exact Nat.le_succ _)
 ·exact ⟨_, _, Heap.get?_push_size _ rfl, rfl, rfl, rfl⟩
end

end
section
inductive Frs (base : Heap) : List Env → List (Addr × Obj) → Prop
 | nil : Frs base [] []
 | cons {env : Env} {l : List Env} {L : Addr} {o : Obj} {r : List (Addr × Obj)} : env.scope.kind ≠ .module → env.frame = some L → base.get? L = none → (∀ vs, o.data ≠ .fields vs) → Frs base l r → Frs base (env :: l) ((L, o) :: r)
theorem Frs.funFrames {base h : Heap} {l : List Env} {r : List (Addr × Obj)} (F : Frs base l r) (hr : ∀ p ∈ r, h.get? p.1 = some p.2) : h.FunFrames base l := by
 induction F with
 | nil => trivial
 | cons hk hf hb hd _ ih => exact ⟨hk, ⟨_, _, hf, hb, hr _ (.head _), hd⟩, ih fun p hp => hr p (.tail _ hp)⟩
theorem frs_of {base h : Heap} : ∀ {l : List Env}, h.FunFrames base l → ∃ r, Frs base l r ∧ ∀ p ∈ r, h.get? p.1 = some p.2
 | [], _ => ⟨[], .nil, fun _ hp => nomatch hp⟩
 | env :: l, ⟨hk, ⟨L, o, hf, hb, ho, hd⟩, hr⟩ => by
  refine hide fun Dq kq => ?_; obtain ⟨r, F, q⟩ := frs_of hr; refine kq ?_; clear kq Dq
  refine ⟨(L, o) :: r, .cons hk hf hb hd F, fun p hp => ?_⟩
  rcases List.mem_cons.mp hp with rfl | hp
  ·exact ho
  ·exact q p hp
theorem Frs.base_none {base : Heap} {l : List Env} {r : List (Addr × Obj)} (F : Frs base l r) : ∀ p ∈ r, base.get? p.1 = none := by
 induction F with
 | nil => intro p hp; cases hp
 | cons hk hf hb hd _ ih =>
  intro p hp
  rcases List.mem_cons.mp hp with rfl | hp
  ·exact hb
  ·exact ih p hp
theorem Frs.off {base : Heap} {l : List Env} {r : List (Addr × Obj)} (F : Frs base l r) {b : Addr} (n : ∀ p ∈ r, p.1 ≠ b) : Off l b := by
 induction F with
 | nil => intro e he; cases he
 | cons hk hf hb hd _ ih =>
  intro e he q
  rcases List.mem_cons.mp he with rfl | he
  ·rw [hf] at q; exact n _ (.head _) (Option.some.inj q)
  ·exact ih (fun p hp => n p (.tail _ hp)) e he q
theorem Frs.mem {base : Heap} {l : List Env} {r : List (Addr × Obj)} (F : Frs base l r) {p : Addr × Obj} (hp : p ∈ r) : ∃ e ∈ l, e.frame = some p.1 := by
 induction F with
 | nil => cases hp
 | cons hk hf hb hd _ ih =>
  rcases List.mem_cons.mp hp with rfl | hp
  ·exact ⟨_, .head _, hf⟩
  ·obtain ⟨e, he, q⟩ := ih hp; exact ⟨e, .tail _ he, q⟩
inductive SlR : List (Addr × Obj) → List (Addr × Obj) → Prop
 | nil : SlR [] []
 | cons {a : Addr} {o : Obj} {sl : Array (Option Value)} {r r' : List (Addr × Obj)} : SlR r r' → SlR ((a, o) :: r) ((a, { o with slots := sl }) :: r')
theorem SlR.rfl : ∀ {r : List (Addr × Obj)}, SlR r r
 | [] => .nil
 | (a, o) :: _ => .cons (sl := o.slots) SlR.rfl
theorem SlR.trans {a b c : List (Addr × Obj)} (x : SlR a b) (y : SlR b c) : SlR a c := by
 induction x generalizing c with
 | nil => exact y
 | cons _ ih => cases y with | cons y => exact .cons (ih y)
theorem SlR.keys {a b : List (Addr × Obj)} (x : SlR a b) : b.map (·.1) = a.map (·.1) := by
 induction x with
 | nil => rfl
 | cons _ ih => simp only [List.map_cons, ih]
theorem SlR.at {a b : List (Addr × Obj)} (x : SlR a b) {p : Addr × Obj} (hp : p ∈ a) : ∃ sl, (p.1, { p.2 with slots := sl }) ∈ b := by
 induction x with
 | nil => cases hp
 | cons _ ih =>
  rcases List.mem_cons.mp hp with rfl | hp
  ·exact ⟨_, .head _⟩
  ·obtain ⟨sl, q⟩ := ih hp; exact ⟨sl, .tail _ q⟩
theorem SlR.frs {base : Heap} {l : List Env} {r r' : List (Addr × Obj)} (F : Frs base l r) (x : SlR r r') : Frs base l r' := by
 induction F generalizing r' with
 | nil => cases x; exact .nil
 | cons hk hf hb hd _ ih => cases x with | cons x => exact .cons hk hf hb hd (ih x)
theorem slR_of {h h' : Heap} {r : List (Addr × Obj)} (hr : ∀ p ∈ r, h.get? p.1 = some p.2) (k : ∀ p ∈ r, ∀ o, h.get? p.1 = some o → ∃ sl, h'.get? p.1 = some { o with slots := sl }) : ∃ r', SlR r r' ∧ ∀ p ∈ r', h'.get? p.1 = some p.2 := by
 induction r with
 | nil => exact ⟨[], .nil, fun _ hp => nomatch hp⟩
 | cons p r ih =>
  obtain ⟨a, o⟩ := p
  refine hide fun Dq kq => ?_; obtain ⟨r', x, q⟩ := ih (fun p hp => hr p (.tail _ hp)) (fun p hp => k p (.tail _ hp)); refine kq ?_; clear kq Dq
  obtain ⟨sl, e⟩ := k _ (.head _) o (hr _ (.head _))
  refine ⟨(a, { o with slots := sl }) :: r', .cons x, fun p hp => ?_⟩
  rcases List.mem_cons.mp hp with rfl | hp
  ·exact e
  ·exact q p hp
theorem enterF {w : World} {dp un : Nat} {fr : List Env} {s : Shared} {news : List (Addr × Obj)} {Q E : Value → Shared → Prop}
  {name qual : Str} {params : Arguments} {body : List Stmt} {scope : Scope} {dV kV doc pm cdv ct oc : Value} {an od : Option Addr} {osl : Array (Option Value)} {f : Addr} {pos : List Value} {binds : List (Str × Value)}
  (C : Cx w fr s.heap (news.map (·.1))) (N : ∀ p ∈ news, s.heap.get? p.1 = some p.2)
  (ho : (Mine.hd.heap_39 w.params).lookup f = some ⟨oc, od, .func (fnOf name qual params body scope dV kV doc pm an cdv ct), osl⟩) (hcd : codeIn (Mine.hd.heap_39 w.params) cdv qual = true) (hroom : dp < recursionLimit)
  (hbind : BindsTo s (fnOf name qual params body scope dV kV doc pm an cdv ct) ⟨pos, []⟩ binds) (hloc : ∀ y ∈ binds, scope.names.lookup y.1 = some .local)
  (h : ∀ g L' h₁ base frs p loose mean mg mb, BOk w base → Fr g L' h₁ (fun y => binds.reverse.lookup y) → News g L' h₁ (news ++ frs) → Frs base fr frs → base.StaysIn g → (Mine.hd.heap_39 w.params).In g → Top p loose mean mg mb g → (∀ b o, s.heap.get? b = some o → b ∉ news.map (·.1) → Off fr b → g.get? b = some o) →
   (∀ p ∈ frs, s.heap.get? p.1 = some p.2) → (∀ p ∈ news, ∀ q ∈ frs, q.1 ≠ p.1) → (∀ p ∈ news ++ frs, p.1 < L') → (∀ b o, g.get? b = some o → s.heap.get? b = some o) →
   wpAny (model Pg w) ((Ar dp un fr).deeper (envOf qual scope L' f cdv)) (execs body (envOf qual scope L' f cdv))
    (fun fl s' => EndK Q (match fl with | .ret v => v | _ => .none) s')
    (fun _ _ => False)
    { s with heap := h₁, toks := s.toks + binds.length })
  (hco : scope.isCoroutine = false := by rfl) (hgen : scope.isGenerator = false := by rfl) (hk : scope.kind = .function := by rfl)
  (hcell : ∀ x ∈ scope.names, x.2 ≠ .cell := by decide) : wpAny (model Pg w) (Ar dp un fr) (call (.ref f) pos) Q E s := by
 refine hide fun Dq kq => ?_; obtain ⟨A₀, base, h₀, outer, L, m, env, rfl, B, F, BO, hf, hke, hm⟩ := C; refine kq ?_; clear kq Dq
 have X := BO.X.keeps B.stays
 refine hide fun Dq kq => ?_; obtain ⟨p, loose, mean, mg, mb, TB⟩ := BO.T; refine kq ?_; clear kq Dq
 have T := TB.keeps B.stays
 have B₁ := pushX B F hf hke
 refine hide fun Dq kq => ?_; obtain ⟨frs, hfrs, hin⟩ := frs_of B₁.frames; refine kq ?_; clear kq Dq
 have nmu : ∀ b o, base.get? b = some o → b ∉ (news ++ frs).map (·.1) := fun b o e q => by
  rw [List.map_append] at q
  rcases List.mem_append.mp q with q | q
  ·have := (hm b q).1; rw [B.stays b o e] at this; cases this
  ·refine hide fun Dq kq => ?_; obtain ⟨p, hp, rfl⟩ := List.mem_map.mp q; refine kq ?_; clear kq Dq
   rw [hfrs.base_none p hp] at e; cases e
 have st : base.StaysIn (hideAll s.heap ((news ++ frs).map (·.1))) := fun b o e => hideAll_get _ (B₁.stays b o e) (nmu b o e)
 refine wpAny_call (codeAny_call_def (fd := fnOf name qual params body scope dV kV doc pm an cdv ct) (body := body) (binds := binds) hroom ((X.keeps F.keep) _ _ ho) rfl (T.nolimit.keeps F.keep) (codeRec_of (X.keeps F.keep) hcd) rfl hbind hcell hloc (fun h₁ hns hk₁ => ?_) hco hgen hk)
 have all : ∀ p ∈ news ++ frs, s.heap.get? p.1 = some p.2 := fun p hp => (List.mem_append.mp hp).elim (N p) (hin p)
 refine wpAny_noRaise (h _ s.heap.objs.size h₁ base frs p loose mean mg mb BO ⟨hns, fun b o e => hk₁ b o (of_hideAll _ e), Nat.le_of_eq (hideAll_size _ _)⟩
  (fun p hp => ⟨hk₁ _ _ (all p hp), Nat.ne_of_lt (Heap.lt_size (all p hp)), hideAll_none _ (List.mem_map_of_mem hp)⟩) hfrs st (BO.X.keeps st) (TB.keeps st)
  (fun b o e n f => hideAll_get _ e fun q => ?_) hin (fun p hp q hq e => ?_) (fun p hp => Heap.lt_size (all p hp)) (fun b o e => of_hideAll _ e))
 ·rw [List.map_append] at q
  rcases List.mem_append.mp q with q | q
  ·exact n q
  ·refine hide fun Dq kq => ?_; obtain ⟨p, hp, rfl⟩ := List.mem_map.mp q; refine kq ?_; clear kq Dq
   refine hide fun Dq kq => ?_; obtain ⟨ev, hev, hq⟩ := hfrs.mem hp; refine kq ?_; clear kq Dq
   exact f ev hev hq
 ·have hmu := hm p.1 (List.mem_map_of_mem hp)
  refine hide fun Dq kq => ?_; obtain ⟨ev, hev, hq'⟩ := hfrs.mem hq; refine kq ?_; clear kq Dq
  rcases List.mem_cons.mp hev with rfl | hev
  ·rw [hf] at hq'; exact hmu.2 (by rw [← e]; exact (Option.some.inj hq').symm)
  ·refine hide fun Dq kq => ?_; obtain ⟨L₁, o₁, hf₁, _, h₁'⟩ := funFrames_at B.frames ev hev; refine kq ?_; clear kq Dq
   rw [hf₁] at hq'
   have : L₁ = q.1 := Option.some.inj hq'
   rw [← e, ← this, h₁'] at hmu
   exact nomatch hmu.1

end
section
section
variable {M : Model} {A : Around} {E : Value → Shared → Prop} {s : Shared}
theorem Frs.key {base : Heap} {l : List Env} {r : List (Addr × Obj)} (F : Frs base l r) {b : Addr} (hb : b ∈ l.filterMap (·.frame)) : ∃ p ∈ r, p.1 = b := by
 induction F with
 | nil => cases hb
 | cons hk' hf' _ _ _ ih =>
  rw [List.filterMap_cons, hf'] at hb
  rcases List.mem_cons.mp hb with rfl | hb
  ·exact ⟨_, .head _, rfl⟩
  ·obtain ⟨p, hp, q⟩ := ih hb; exact ⟨p, .tail _ hp, q⟩
structure Noted (S : List Addr) (h h' : Heap) (e T : Addr) (cls : Value) : Prop where
 keep : ∀ b o, b ≠ e → b ∉ S → h.get? b = some o → h'.get? b = some o
 slots : ∀ b o, b ≠ e → h.get? b = some o → ∃ sl, h'.get? b = some { o with slots := sl }
 exc : E2 fun o vs => A4 (h'.get? e = some o) (o.cls = cls) (o.data = .fields vs) (vs[1]? = some (.ref T))
 tb : E2 fun o ts => A3 (h'.get? T = some o) (o.data = .fields ts) (3 < ts.size)
 new : h.get? T = none
 ne : T ≠ e
theorem note_new {base : Heap} {env : Env} {fr : List Env} {L e : Addr} {oe : Obj} {vs : Array Value} {Q : Unit → Shared → Prop}
  (hfr : A.frames = some (env :: fr)) (hl : s.heap.FunFrames base (env :: fr)) (hf : env.frame = some L)
  (he : s.heap.get? e = some oe) (hd : oe.data = .fields vs) (h1 : vs[1]? = some .none)
  (h : ∀ h' T, Noted ((env :: fr).filterMap (·.frame)) s.heap h' e T oe.cls → Q () { s with heap := h' }) : wpAny M A (noteFrame (.ref e) env) Q E s := by
 have hsz : 1 < vs.size := (Array.getElem?_eq_some_iff.mp h1).1
 have hene : e ∉ (env :: fr).filterMap (·.frame) := fun hm => by
  refine hide fun Dq kq => ?_; obtain ⟨_, o, ho, hnf⟩ := hl.mem hm; refine kq ?_; clear kq Dq
  rw [he] at ho; injection ho with ho; subst ho; exact hnf vs hd
 unfold noteFrame
 simp only [hf]
 refine wpAny_bind (wpAny_field he hd h1 ?_)
 rw [if_neg (by decide)]
 refine wpAny_bind (wpAny_frameOf_fun hfr hl hf fun h₁ hs₁ => ?_)
 refine wpAny_bind (wpAny_entryPlaceOf fun pl hpl => ?_)
 unfold EntryCells.newEntry newFields
 refine wpAny_bind (wpAny_newObj_type ?_ (hpl.sizeOk5 _ _ _ _ _))
 have he₁ : h₁.get? e = some oe := (hs₁.2.1 e hene).trans he
 have he₂ := Heap.get?_push_of_some (h := h₁) { cls := .type "traceback", dict := none, data := .fields ([Value.none, .ref L, .none, rawInt L, .none] ++ (if pl.isEmpty then List.replicate 6 Value.none else pl)).toArray } he₁
 refine wpAny_setField he₂ hd hsz ?_
 have hTe : h₁.objs.size ≠ e := Nat.ne_of_gt (Heap.lt_size he₁)
 have hd₃ := Obj.data_mapFields hd (·.setIfInBounds 1 (Value.ref h₁.objs.size))
 refine h _ h₁.objs.size ⟨fun b o hbe hbS hb => ?_, fun b o hbe hb => ?_, ⟨_, _, Heap.get?_update_self _ he₂ (Obj.isFreed_of_fields hd₃), Obj.cls_mapFields .., hd₃, by simp [hsz]⟩, ?_, ?_, hTe⟩
 ·rw [Heap.get?_update_other _ _ (Ne.symm hbe)]
  exact Heap.get?_push_of_some _ ((hs₁.2.1 b hbS).trans hb)
 ·obtain ⟨sl, q⟩ := hs₁.2.2 b o hb
  exact ⟨sl, by rw [Heap.get?_update_other _ _ (Ne.symm hbe)]; exact Heap.get?_push_of_some _ q⟩
 ·refine ⟨_, _, by rw [Heap.get?_update_other _ _ (Ne.symm hTe)]; exact Heap.get?_push_size h₁ rfl, rfl, ?_⟩
  simp only [List.size_toArray, List.length_append, List.length_cons, List.length_nil]; omega
 ·rw [hs₁.1]; exact Heap.get?_none_of_le (Nat.le_refl _)
theorem flight_new {S : List Addr} {h₀ : Heap} {e T : Addr} {cls : Value} {Q : Unit → Shared → Prop} (N : Noted S h₀ s.heap e T cls) (h : ∀ h', Noted S h₀ h' e T cls → Q () { s with heap := h' }) : wpAny M A (setFlight (.ref e) none) Q E s := by
 refine hide fun Dq kq => ?_; obtain ⟨k, sl, ⟨oe, vs, he, hc, hd, h1⟩, ⟨oT, ts, hT, hdT, hz⟩, hn, hne⟩ := N; refine kq ?_; clear kq Dq
 unfold setFlight
 refine wpAny_bind (wpAny_field he hd h1 ?_)
 rw [if_pos (show (Value.ref T != Value.none) = true from by simp)]
 have nT : ∀ b o, h₀.get? b = some o → b ≠ T := fun b o q z => by rw [z, hn] at q; cases q
 have hdT' := Obj.data_mapFields hdT (·.setIfInBounds 3 ((none : Option Addr).elim Value.none fun f => rawInt f))
 refine wpAny_setField hT hdT hz (h _ ⟨fun b o hbe hbS hb => ?_, fun b o hbe hb => ?_, ⟨oe, vs, ?_, hc, hd, h1⟩, ⟨_, _, Heap.get?_update_self _ hT (Obj.isFreed_of_fields hdT'), hdT', by simpa using hz⟩, hn, hne⟩)
 ·rw [Heap.get?_update_other _ _ (Ne.symm (nT b o hb))]; exact k b o hbe hbS hb
 ·obtain ⟨l, q⟩ := sl b o hbe hb
  exact ⟨l, by rw [Heap.get?_update_other _ _ (Ne.symm (nT b o hb))]; exact q⟩
 ·rw [Heap.get?_update_other _ _ hne]; exact he
end
section
variable {prog : Program} {w : World} {A : Around} {E : Value → Shared → Prop} {s : Shared}
theorem caught_F {X T : String} {g base h : Heap} {env : Env} {fr : List Env} {L e : Addr} {m : Str → Option Value} {news frs : List (Addr × Obj)} {t : Expr} {b₀ : Stmt} {suite : List Stmt} {pos : Pos} {rest : List ExceptHandler} {Q : Flow → Shared → Prop}
  (hfr : A.frames = some (env :: fr)) (hf : env.frame = some L) (hk : env.scope.kind = .function) (F : Fr g L h m) (N : News g L h (news ++ frs)) (hF : Frs base fr frs) (st : base.StaysIn g) (hap : ∀ p ∈ news, ∀ q ∈ frs, q.1 ≠ p.1) (hx : NewX h s.heap e X)
  (hexc : isSubtype (.type T) (.type "BaseException") = pure true) (hnt : isSubtype (.type ((Manifest.find? T).elim "type" fun x => x.metatype)) (.type "tuple") = pure false) (hsub : isSubtype (.type X) (.type T) = pure true)
  (ht : ∀ (s' : Shared) (Q' : Value → Shared → Prop) (E' : Value → Shared → Prop), Fr g L s'.heap m → Q' (.type T) s' → wpAny (model prog w) (A.mark (some (.ref e))) (eval t env) Q' E' s')
  (k : ∀ h' frs', Fr g L h' m → News g L h' (news ++ frs') → SlR frs frs' → wpAny (model prog w) (A.mark (some (.ref e))) (execs (b₀ :: suite) env) Q (fun _ _ => False) { s with heap := h' }) :
  wpAny (model prog w) A (noteFrame (.ref e) env) (fun _ s₂ => wpAny (model prog w) A (setFlight (.ref e) none) (fun _ s₃ => wpAny (model prog w) A (handleBy (.ref e) env (.ExceptHandler (some t) none (b₀ :: suite) pos :: rest)) Q E s₃) E s₂) E s := by
 refine hide fun Dq kq => ?_; obtain ⟨ob, vs₀, he, hc, hd, hv1⟩ := hx.there; refine kq ?_; clear kq Dq
 have Fs := fr_ext F hx.keeps
 have Ns := news_ext N hx.keeps
 have hLb : base.get? L = none := by
  cases q : base.get? L with
  | none => rfl
  | some o => exact absurd (Heap.lt_size (st L o q)) (Nat.not_lt.mpr F.above)
 have hfun : s.heap.FunFrames base (env :: fr) := by
  refine ⟨by rw [hk]; decide, ?_, hF.funFrames fun p hp => (Ns p (List.mem_append_right _ hp)).1⟩
  refine hide fun Dq kq => ?_; obtain ⟨oL, es, ep, hL, hdL, _⟩ := Fs.ns; refine kq ?_; clear kq Dq
  exact ⟨L, oL, hf, hLb, hL, fun vs q => by rw [hdL] at q; cases q⟩
 have hge : ∀ b o, g.get? b = some o → b ≠ e := fun b o q z => by
  have := F.keep b o q; rw [z, hx.new] at this; cases this
 have hne : ∀ p ∈ news ++ frs, p.1 ≠ e := fun p hp z => by
  have := (N p hp).1; rw [z, hx.new] at this; cases this
 have hLe : L ≠ e := fun z => by
  refine hide fun Dq kq => ?_; obtain ⟨oL, es, ep, hL, _⟩ := F.ns; refine kq ?_; clear kq Dq
  rw [z, hx.new] at hL; cases hL
 have hSin : ∀ b, b ∈ (env :: fr).filterMap (·.frame) → b = L ∨ ∃ p ∈ frs, p.1 = b := fun b hb => by
  rw [List.filterMap_cons, hf] at hb
  rcases List.mem_cons.mp hb with rfl | hb
  ·exact .inl rfl
  ·right
   exact hF.key hb
 have done : ∀ h' T', Noted ((env :: fr).filterMap (·.frame)) s.heap h' e T' ob.cls → ∃ frs', A3 (Fr g L h' m) (News g L h' (news ++ frs')) (SlR frs frs') := fun h' T' z => by
  refine hide fun Dq kq => ?_; obtain ⟨frs', x, q⟩ := slR_of (h' := h') (fun p hp => (Ns p (List.mem_append_right _ hp)).1) (fun p hp o ho => z.slots p.1 o (hne p (List.mem_append_right _ hp)) ho); refine kq ?_; clear kq Dq
  refine ⟨frs', ⟨?_, fun b o q' => z.keep b o (hge b o q') (fun hb => ?_) (Fs.keep b o q'), F.above⟩, fun p hp => ?_, x⟩
  ·refine hide fun Dq kq => ?_; obtain ⟨oL, es, ep, hL, hdL, r⟩ := Fs.ns; refine kq ?_; clear kq Dq
   obtain ⟨sl, q'⟩ := z.slots L oL hLe hL
   exact ⟨_, es, ep, q', hdL, r⟩
  ·rcases hSin b hb with rfl | ⟨p, hp, rfl⟩
   ·exact absurd (Heap.lt_size q') (Nat.not_lt.mpr F.above)
   ·rw [(N p (List.mem_append_right _ hp)).2.2] at q'; cases q'
  ·rcases List.mem_append.mp hp with hp | hp
   ·refine ⟨z.keep p.1 p.2 (hne p (List.mem_append_left _ hp)) (fun hb => ?_) (Ns p (List.mem_append_left _ hp)).1, (N p (List.mem_append_left _ hp)).2⟩
    rcases hSin _ hb with e' | ⟨q', hq, e'⟩
    ·exact (N p (List.mem_append_left _ hp)).2.1 e'
    ·exact hap p hp q' hq e'
   ·refine ⟨q p hp, ?_⟩
    have hkk : p.1 ∈ frs.map (·.1) := by rw [← x.keys]; exact List.mem_map_of_mem hp
    refine hide fun Dq kq => ?_; obtain ⟨p', hp', e'⟩ := List.mem_map.mp hkk; refine kq ?_; clear kq Dq
    rw [← e']; exact (N p' (List.mem_append_right _ hp')).2
 refine note_new hfr hfun hf he hd hv1 fun h₁ T' z₁ => ?_
 refine flight_new (s := { s with heap := h₁ }) z₁ fun h₂ z₂ => ?_
 refine wpAny_handleBy_builtin (b := true) hexc hnt hsub ?_
 refine hide fun Dq kq => ?_; obtain ⟨frs₂, F₂, N₂, x₂⟩ := done h₂ T' z₂; refine kq ?_; clear kq Dq
 refine ht _ _ _ F₂ ⟨rfl, ?_, ?_⟩
 ·refine hide fun Dq kq => ?_; obtain ⟨o, vs, a, b, _⟩ := z₂.exc; refine kq ?_; clear kq Dq
  exact ⟨o, a, b.trans hc⟩
 ·rw [if_pos rfl]
  refine flight_new (s := { s with heap := h₂ }) z₂ fun h₃ z₃ => ?_
  refine hide fun Dq kq => ?_; obtain ⟨frs₃, F₃, N₃, x₃⟩ := done h₃ T' z₃; refine kq ?_; clear kq Dq
  exact wpAny_E (k h₃ frs₃ F₃ N₃ x₃)
end

end
section
theorem getinfo_spec {w : World} {dp un : Nat} {fr : List Env} {s : Shared} {Q E : Value → Shared → Prop} {x dx d a : Addr} {h1 h2 h3 h4 : Int} {t1 t2 t3 t4 tp tf : Tok} {np nf : Int} {rv : Value} {en : Nat} {k : Str} {tk : Tok} {kvs : List (Str × Value)}
 (C : Cx w fr s.heap []) (hd : dp + 10 < recursionLimit) (hu : un + 200 < cLine)
 (hx : s.heap.get? x = some (instObj 165 dx)) (hdx : s.heap.get? dx = some (dictOf (sdict h1 h2 h3 h4 t1 t2 t3 t4 d rv np nf tp tf) en))
 (hD : s.heap.DictOf (PySem.strKind Pg w) d kvs) (hd1 : (d == sysModules) = false) (hk : valueAt kvs k = some (.ref a))
 (hret : ∀ (h' : Heap) (tk' : Nat), Keep s.heap h' [] → Q (.ref a) { s with heap := h', toks := tk' }) :
 wpAny (model Pg w) (Ar dp un fr) (call (.ref 108) [.ref x, .str k tk]) Q E s := by
 revert w dp un fr s Q E x dx d a h1 h2 h3 h4 t1 t2 t3 t4 tp tf np nf rv en k tk kvs
 refine @(pk28 ((((w00, δ), ((δ, s00), δ)), δ), δ) ?_)
 generalize z28 _ _ = Z; generalize Z.1.1.1.1 = w, Z.1.1.1.2.1 = dp, Z.1.1.1.2.2 = un, Z.1.1.2.1.1 = fr, Z.1.1.2.1.2 = s, Z.1.1.2.2.1 = Q, Z.1.1.2.2.2 = E, Z.1.2.1.1 = x, Z.1.2.1.2.1 = dx, Z.1.2.1.2.2 = d, Z.1.2.2.1.1 = a, Z.1.2.2.1.2 = h1, Z.1.2.2.2.1 = h2, Z.1.2.2.2.2 = h3, Z.2.1.1.1 = h4, Z.2.1.1.2.1 = t1, Z.2.1.1.2.2 = t2, Z.2.1.2.1.1 = t3, Z.2.1.2.1.2 = t4, Z.2.1.2.2.1 = tp, Z.2.1.2.2.2 = tf, Z.2.2.1.1 = np, Z.2.2.1.2.1 = nf, Z.2.2.1.2.2 = rv, Z.2.2.2.1.1 = en, Z.2.2.2.1.2 = k, Z.2.2.2.2.1 = tk, Z.2.2.2.2.2 = kvs
 intro C hd hu hx hdx hD hd1 hk hret
 k_dflt (refine' enter (binds := [(Str.ofString "self", .ref x), (Str.ofString "node", .str k tk)]) ?C ?N ?k6 ?k7 ?k8 ?k9 ?kB ?_ ?c2 ?c3 ?c4 ?c5; walk_at "m_in")
 refine @(pk9 δ ?_); generalize z9 _ _ = Z; generalize Z.1.1.1 = g, Z.1.1.2 = L', Z.1.2.1 = h₁, Z.1.2.2 = base, Z.2.1.1 = p, Z.2.1.2 = loose, Z.2.2.1 = mean, Z.2.2.2.1 = mg, Z.2.2.2.2 = mb; intro BO F N B X T S hlt hL
 have hDg : g.DictOf (PySem.strKind Pg w) d kvs := by
  refine hide fun Dq kq => ?_; obtain ⟨o, ho, r⟩ := Heap.dictOf_iff.mp hD; refine kq ?_; clear kq Dq
  exact Heap.dictOf_iff.mpr ⟨o, S.out _ _ ho nN, r⟩
 have gx := S.out _ _ hx nN
 have gdx := S.out _ _ hdx nN
 k_steps
 show Q (.ref a) _
 exact hret _ _ (S.keep (by assumption))
local macro_rules | `(tactic| walk_at "call ref") => `(tactic| (k_here; (with_reducible show wpAny _ _ (call (Value.ref 108) _) _ _ _); k_dflt (refine' getinfo_spec ?C ?hd ?hu ?hx ?hdx ?hD ?hd1 ?hk ?_; (case C => exact cx_of (by k_asm) (by k_asm) (by assumption) (by k_asm) no_mu); (case hd => ktr_room); (case hu => ktr_units); (case hx => walk_at "m_get"); (case hdx => walk_at "m_get"); (case hD => exact bd_lift (by k_asm) (by assumption)); (case hd1 => assumption); (case hk => assumption)); intro h' tk' hK'; (have F' := fr_keep0 (by k_asm) hK'); (have N' := news_keep0 (by k_asm) hK'); (try k_sweep)))
theorem add_spec {w : World} {dp un : Nat} {fr : List Env} {s : Shared} {Q E : Value → Shared → Prop} {x dx d a1 s1 da1 a2 s2 da2 : Addr} {h1 h2 h3 h4 : Int} {t1 t2 t3 t4 tp tf c1t c2t : Tok} {np nf c1 c2 : Int} {en n2 : Nat} {k1 k2 : Str} {v1 v2 : Value} {l2 : List Value} {tk1 tk2 : Tok} {kvs : List (Str × Value)}
 (C : Cx w fr s.heap [a1, s2]) (hd : dp + 20 < recursionLimit) (hu : un + 300 < cLine)
 (hN : ∀ p ∈ [(a1, nodeObj v1 c1 c1t s1 da1), (s2, listOf l2.toArray n2)], s.heap.get? p.1 = some p.2) (hne : a1 ≠ s2)
 (hx : s.heap.get? x = some (instObj 165 dx)) (hdx : s.heap.get? dx = some (dictOf (sdict h1 h2 h3 h4 t1 t2 t3 t4 d .none np nf tp tf) en))
 (hD : s.heap.DictOf (PySem.strKind Pg w) d kvs) (hd1 : (d == sysModules) = false) (hk1 : valueAt kvs k1 = some (.ref a1)) (hk2 : valueAt kvs k2 = some (.ref a2))
 (hA2 : s.heap.get? a2 = some (nodeObj v2 c2 c2t s2 da2)) (hda1 : s.heap.get? da1 = some (dictOf [] 0)) (hda2 : s.heap.get? da2 = some (dictOf [] 0)) (hout : ∀ b ∈ [x, dx, d, a2, da1, da2], b ∉ [a1, s2]) (hl2 : l2.length < 100)
 (hret : ∀ (h' : Heap) (tk' : Nat) (ct' : Tok) (n' : Nat), Keep s.heap h' [a1, s2] → h'.get? a1 = some (nodeObj v1 (c1 + 1) ct' s1 da1) → h'.get? s2 = some (listOf (l2 ++ [Value.str k1 tk1]).toArray n') → Q (.none) { s with heap := h', toks := tk' }) :
 wpAny (model Pg w) (Ar dp un fr) (call (.ref 115) [.ref x, .str k1 tk1, .str k2 tk2]) Q E s := by
 revert w dp un fr s Q E x dx d a1 s1 da1 a2 s2 da2 h1 h2 h3 h4 t1 t2 t3 t4 tp tf c1t c2t np nf c1 c2 en n2 k1 k2 v1 v2 l2 tk1 tk2 kvs
 refine @(pk42 (((((w00, δ), (δ, (δ, s00))), δ), δ), δ) ?_)
 generalize z42 _ _ = Z; generalize Z.1.1.1.1.1 = w, Z.1.1.1.1.2 = dp, Z.1.1.1.2.1 = un, Z.1.1.1.2.2.1 = fr, Z.1.1.1.2.2.2 = s, Z.1.1.2.1.1 = Q, Z.1.1.2.1.2 = E, Z.1.1.2.2.1 = x, Z.1.1.2.2.2.1 = dx, Z.1.1.2.2.2.2 = d, Z.1.2.1.1.1 = a1, Z.1.2.1.1.2 = s1, Z.1.2.1.2.1 = da1, Z.1.2.1.2.2.1 = a2, Z.1.2.1.2.2.2 = s2, Z.1.2.2.1.1 = da2, Z.1.2.2.1.2.1 = h1, Z.1.2.2.1.2.2 = h2, Z.1.2.2.2.1 = h3, Z.1.2.2.2.2.1 = h4, Z.1.2.2.2.2.2 = t1, Z.2.1.1.1.1 = t2, Z.2.1.1.1.2 = t3, Z.2.1.1.2.1 = t4, Z.2.1.1.2.2.1 = tp, Z.2.1.1.2.2.2 = tf, Z.2.1.2.1.1 = c1t, Z.2.1.2.1.2 = c2t, Z.2.1.2.2.1 = np, Z.2.1.2.2.2.1 = nf, Z.2.1.2.2.2.2 = c1, Z.2.2.1.1.1 = c2, Z.2.2.1.1.2 = en, Z.2.2.1.2.1 = n2, Z.2.2.1.2.2.1 = k1, Z.2.2.1.2.2.2 = k2, Z.2.2.2.1.1 = v1, Z.2.2.2.1.2.1 = v2, Z.2.2.2.1.2.2 = l2, Z.2.2.2.2.1 = tk1, Z.2.2.2.2.2.1 = tk2, Z.2.2.2.2.2.2 = kvs
 intro C hd hu hN hne hx hdx hD hd1 hk1 hk2 hA2 hda1 hda2 hout hl2 hret
 k_dflt (refine' enterVN (vs := [.str k2 tk2]) (binds := fun D => [(Str.ofString "self", .ref x), (Str.ofString "node", .str k1 tk1), (Str.ofString "predecessors", .ref D)]) ?C ?N ?k6 ?k7 ?k8 ?kP ?kG ?kB ?_ ?c2 ?c3 ?c4 ?c5; walk_at "m_inV")
 refine @(pk10 δ ?_); generalize z10 _ _ = Z; generalize Z.1.1.1 = D, Z.1.1.2 = g, Z.1.2.1 = L', Z.1.2.2.1 = h₁, Z.1.2.2.2 = base, Z.2.1.1 = p, Z.2.1.2 = loose, Z.2.2.1 = mean, Z.2.2.2.1 = mg, Z.2.2.2.2 = mb; intro BO F N B X T S hlt hL
 have hDg : g.DictOf (PySem.strKind Pg w) d kvs := by
  refine hide fun Dq kq => ?_; obtain ⟨o, ho, r⟩ := Heap.dictOf_iff.mp hD; refine kq ?_; clear kq Dq
  exact Heap.dictOf_iff.mpr ⟨o, S.out _ _ ho (hout _ (by k_mem)), r⟩
 have gx := S.out _ _ hx (hout _ (by k_mem))
 have gdx := S.out _ _ hdx (hout _ (by k_mem))
 have gA2 := S.out _ _ hA2 (hout _ (by k_mem))
 have gda1 := S.out _ _ hda1 (hout _ (by k_mem))
 have gda2 := S.out _ _ hda2 (hout _ (by k_mem))
 have q1 : a1 ≠ D := Nat.ne_of_lt (hlt _ (.head _))
 have q2 : s2 ≠ D := Nat.ne_of_lt (hlt _ (.tail _ (.head _)))
 k_steps
 show Q .none _
 rename_i NN
 refine hret _ _ _ (n2 + 1) (S.keep (by assumption)) (News.get NN (.tail _ (.head _))) ?_
 rw [show (l2 ++ [Value.str k1 tk1]).toArray = l2.toArray.push (Value.str k1 tk1) from by simp]
 exact News.get NN (.tail _ (.tail _ (.head _)))

end
section
def lowPart (h : Heap) (L : Addr) : Heap := ⟨h.objs.extract 0 L, h.life⟩
theorem low_get {h : Heap} {L b : Addr} {o : Obj} (e : h.get? b = some o) (hb : b < L) : (lowPart h L).get? b = some o := by
 rw [get_def] at e ⊢
 have : (lowPart h L).objs[b]? = h.objs[b]? := by
  show (h.objs.extract 0 L)[b]? = _
  rw [Array.getElem?_extract]
  have hs := Heap.lt_size (h := h) (a := b) (o := o) (by rw [get_def]; exact e)
  split
  ·simp
  ·rename_i hn
   exact absurd (show b < min L h.objs.size - 0 from by simp only [Nat.sub_zero]; exact Nat.lt_min.mpr ⟨hb, hs⟩) hn
 rw [this]; exact e
theorem of_low {h : Heap} {L b : Addr} {o : Obj} (e : (lowPart h L).get? b = some o) : h.get? b = some o := by
 rw [get_def] at e ⊢
 have hlt : b < (h.objs.extract 0 L).size := by
  cases q : (lowPart h L).objs[b]? with
  | none => rw [q] at e; cases e
  | some _ => exact (Array.getElem?_eq_some_iff.mp q).1
 have : (lowPart h L).objs[b]? = h.objs[b]? := by
  show (h.objs.extract 0 L)[b]? = _
  rw [Array.getElem?_extract, if_pos (by simpa using hlt)]; simp
 rw [← this]; exact e
theorem low_size {h : Heap} {L : Addr} : (lowPart h L).objs.size ≤ L := by
 show (h.objs.extract 0 L).size ≤ L
 rw [Array.size_extract, Nat.sub_zero]; exact Nat.min_le_left ..
theorem cx_F {w : World} {base g h : Heap} {fr : List Env} {L : Addr} {m : Str → Option Value} {env : Env} {news frs : List (Addr × Obj)} {mu : List Addr}
  (F : Fr g L h m) (N : News g L h (news ++ frs)) (hF : Frs base fr frs) (stb : base.StaysIn g) (BO : BOk w base) (hlt : ∀ p ∈ frs, p.1 < L) (hap : ∀ p ∈ news, ∀ q ∈ frs, q.1 ≠ p.1) (hmu : ∀ b ∈ mu, b ∈ news.map (·.1))
  (hst : ∃ A₀ : Around, A₀.frames = some fr) (hf : env.frame = some L := by rfl) (hk : env.scope.kind = .function := by rfl) : Cx w (env :: fr) h mu := by
 obtain ⟨A₀, hA⟩ := hst
 have hm : ∀ b ∈ mu, base.get? b = none ∧ b ≠ L ∧ ∀ q ∈ frs, q.1 ≠ b := fun b hb => by
  refine hide fun Dq kq => ?_; obtain ⟨p, hp, rfl⟩ := List.mem_map.mp (hmu b hb); refine kq ?_; clear kq Dq
  have z := N p (List.mem_append_left _ hp)
  refine ⟨?_, z.2.1, hap p hp⟩
  cases q : base.get? p.1 with
  | none => rfl
  | some o => have := stb _ _ q; rw [z.2.2] at this; cases this
 refine ⟨A₀, base, hideAll (lowPart h L) mu, fr, L, m, env, rfl, ⟨hA, fun b o e => ?_, ?_⟩, ⟨F.ns, fun b o e => of_low (of_hideAll _ e), ?_⟩, BO, hf, hk, fun b hb => ⟨hideAll_none _ hb, (hm b hb).2.1⟩⟩
 ·refine hideAll_get _ (low_get (F.keep b o (stb b o e)) (Nat.lt_of_lt_of_le (Heap.lt_size (stb b o e)) F.above)) fun z => ?_
  have := (hm b z).1; rw [e] at this; cases this
 ·exact hF.funFrames fun p hp => hideAll_get _ (low_get (N p (List.mem_append_right _ hp)).1 (hlt p hp)) fun z => (hm _ z).2.2 p hp rfl
 ·rw [hideAll_size]; exact low_size
theorem after_W {base g h h' : Heap} {fr : List Env} {L : Addr} {m : Str → Option Value} {env : Env} {news frs news' : List (Addr × Obj)} {mu : List Addr}
  (F : Fr g L h m) (N : News g L h (news ++ frs)) (hF : Frs base fr frs) (hap : ∀ p ∈ news, ∀ q ∈ frs, q.1 ≠ p.1) (hmu : ∀ b ∈ mu, b ∈ news.map (·.1)) (k : KeepW (env :: fr) h h' mu)
  (hn : ∀ p ∈ news', (p ∈ news ∧ p.1 ∉ mu) ∨ (h'.get? p.1 = some p.2 ∧ (p.1 ∈ mu ∨ h.get? p.1 = none))) (hf : env.frame = some L := by rfl) :
  ∃ frs', A4 (SlR frs frs') (Fr g L h' m) (News g L h' (news' ++ frs')) (∀ p ∈ news', ∀ q ∈ frs', q.1 ≠ p.1) := by
 have hmu' : ∀ b ∈ mu, g.get? b = none ∧ b ≠ L ∧ ∀ q ∈ frs, q.1 ≠ b := fun b hb => by
  refine hide fun Dq kq => ?_; obtain ⟨p, hp, rfl⟩ := List.mem_map.mp (hmu b hb); refine kq ?_; clear kq Dq
  have z := N p (List.mem_append_left _ hp)
  exact ⟨z.2.2, z.2.1, hap p hp⟩
 have hL : g.get? L = none := Heap.get?_none_of_le F.above
 have off : ∀ b, b ≠ L → (∀ q ∈ frs, q.1 ≠ b) → Off (env :: fr) b := fun b hb hq e he z => by
  rcases List.mem_cons.mp he with rfl | he
  ·rw [hf] at z; exact hb (Option.some.inj z).symm
  ·exact hF.off hq e he z
 obtain ⟨frs', x, q⟩ := slR_of (h := h) (h' := h') (r := frs) (fun p hp => (N p (List.mem_append_right _ hp)).1) (fun p hp o ho => by
  refine hide fun Dq kq => ?_; obtain ⟨sl, q, _⟩ := k p.1 o ho fun z => (hmu' _ z).2.2 p hp rfl; refine kq ?_; clear kq Dq
  exact ⟨sl, q⟩)
 have ap : ∀ p ∈ news', ∀ q ∈ frs, q.1 ≠ p.1 := fun p hp q hq e => by
  rcases hn p hp with ⟨hp, _⟩ | ⟨_, hp | hp⟩
  ·exact hap p hp q hq e
  ·exact (hmu' _ hp).2.2 q hq e
  ·have := (N q (List.mem_append_right _ hq)).1; rw [e, hp] at this; cases this
 have key : ∀ p ∈ frs', ∃ p' ∈ frs, p'.1 = p.1 := fun p hp => by
  have : p.1 ∈ frs.map (·.1) := by rw [← x.keys]; exact List.mem_map_of_mem hp
  refine hide fun Dq kq => ?_; obtain ⟨p', hp', e⟩ := List.mem_map.mp this; refine kq ?_; clear kq Dq
  exact ⟨p', hp', e⟩
 refine ⟨frs', x, ⟨?_, fun b o e => ?_, F.above⟩, fun p hp => ?_, fun p hp q hq => ?_⟩
 ·refine hide fun Dq kq => ?_; obtain ⟨oL, es, ep, hL', hd, r⟩ := F.ns; refine kq ?_; clear kq Dq
  refine hide fun Dq kq => ?_; obtain ⟨sl, q', _⟩ := k L oL hL' fun z => (hmu' _ z).2.1 rfl; refine kq ?_; clear kq Dq
  exact ⟨_, es, ep, q', hd, r⟩
 ·refine k.off (F.keep b o e) (fun z => ?_) (off b (fun z => ?_) fun p hp z => ?_)
  ·have := (hmu' b z).1; rw [e] at this; cases this
  ·rw [z, hL] at e; cases e
  ·have := (N p (List.mem_append_right _ hp)).2.2; rw [z, e] at this; cases this
 ·rcases List.mem_append.mp hp with hp | hp
  ·rcases hn p hp with ⟨hp', nm⟩ | ⟨hg, hp' | hp'⟩
   ·have z := N p (List.mem_append_left _ hp')
    exact ⟨k.off z.1 nm (off _ z.2.1 (hap p hp')), z.2⟩
   ·exact ⟨hg, (hmu' _ hp').2.1, (hmu' _ hp').1⟩
   ·refine ⟨hg, fun e => ?_, ?_⟩
    ·refine hide fun Dq kq => ?_; obtain ⟨oL, es, ep, hL', _⟩ := F.ns; refine kq ?_; clear kq Dq
     rw [e, hL'] at hp'; cases hp'
    ·cases q' : g.get? p.1 with
     | none => rfl
     | some o => have := F.keep _ _ q'; rw [hp'] at this; cases this
  ·refine hide fun Dq kq => ?_; obtain ⟨p', hp', e⟩ := key p hp; refine kq ?_; clear kq Dq
   rw [← e]
   exact ⟨e ▸ q p hp, (N p' (List.mem_append_right _ hp')).2⟩
 ·refine hide fun Dq kq => ?_; obtain ⟨q', hq', e⟩ := key q hq; refine kq ?_; clear kq Dq
  rw [← e]; exact ap p hp q' hq'
theorem off_g {base g h : Heap} {fr : List Env} {L : Addr} {m : Str → Option Value} {env : Env} {news frs : List (Addr × Obj)} {b : Addr} {o : Obj} (F : Fr g L h m) (N : News g L h (news ++ frs)) (hF : Frs base fr frs) (e : g.get? b = some o) (hf : env.frame = some L := by rfl) : Off (env :: fr) b := fun ev he z => by
 rcases List.mem_cons.mp he with rfl | he
 ·rw [hf] at z
  have := Option.some.inj z
  subst this
  rw [Heap.get?_none_of_le F.above] at e; cases e
 ·exact hF.off (fun p hp q => by have := (N p (List.mem_append_right _ hp)).2.2; rw [q, e] at this; cases this) ev he z
theorem off_n {base g h : Heap} {fr : List Env} {L : Addr} {env : Env} {news frs : List (Addr × Obj)} {p : Addr × Obj} (N : News g L h (news ++ frs)) (hF : Frs base fr frs) (hap : ∀ p ∈ news, ∀ q ∈ frs, q.1 ≠ p.1) (hp : p ∈ news) (hf : env.frame = some L := by rfl) : Off (env :: fr) p.1 := fun ev he z => by
 rcases List.mem_cons.mp he with rfl | he
 ·rw [hf] at z
  exact (N p (List.mem_append_left _ hp)).2.1 (Option.some.inj z).symm
 ·exact hF.off (hap p hp) ev he z
theorem fresh_F {base g h h₁ : Heap} {fr : List Env} {L : Addr} {news frs : List (Addr × Obj)} {mu : List Addr} {p : Addr × Obj} (N : News g L h news) (hF : Frs base fr frs) (hout : ∀ b o, h₁.get? b = some o → b ∉ mu → Off fr b → g.get? b = some o) (hp : p ∈ news) (hn : p.1 ∉ mu) (hap : ∀ q ∈ frs, q.1 ≠ p.1) : h₁.get? p.1 = none := by
 cases e : h₁.get? p.1 with
 | none => rfl
 | some o => have := hout _ _ e hn (hF.off hap); rw [(N p hp).2.2] at this; cases this

end
section
section
variable {prog : Program} {w : World} {A : Around} {E : Value → Shared → Prop} {s : Shared} {h₀ : Heap} {L : Addr} {m : Str → Option Value} {env : Env}
def SrcX (prog : Program) (w : World) (A : Around) (h₀ : Heap) (L : Addr) (m : Str → Option Value) (R : Shared → (List (Addr × Obj) → Prop) → (Nat → Value → Prop) → Nat → List (Addr × Obj) → Prop) (it : Value) (s₂ : Shared) : Prop :=
 E7 fun (I : Addr) (fp : List Addr) (n : Nat) (P : Nat → Value → Prop) (St : Nat → Heap → Prop) (S : List (Addr × Obj) → Prop) (news : List (Addr × Obj)) => A14 (it = .ref I) (Walks prog w A I fp [I] n P St) (n ≤ sizeLine) ((∀ i h, St i h → ∃ o, h.get? I = some o)) ((∀ i h h' o nw, St i h → h.get? I = some o → h'.get? I = some o → (∀ b o, h₀.get? b = some o → h'.get? b = some o) → News h₀ L h' nw → S nw → St i h')) (St 0 s₂.heap) ((∀ b ∈ fp, b < s₂.heap.objs.size)) (Fr h₀ L s₂.heap m) (News h₀ L s₂.heap news) (L ≠ I) (h₀.get? I = none) ((∀ p ∈ news, p.1 ≠ I)) (S news) (R s₂ S P n news)
theorem ListComp_UX {elt iter : Expr} {x : Str} {px : Pos} {scope : Scope} {cl : List (Str × Addr)} {pos : Pos} {Q : Value → Shared → Prop} (_F₀ : Fr h₀ L s.heap m)
  (hclos : closureFor scope env = pure cl) (hcell : ∀ y ∈ scope.names, y.2 ≠ .cell) (hkind : scope.kind = .function)
  (hnames : ∀ y ∈ scope.names, y.2 = .local → scope.names.lookup y.1 = some .local) (hx : scope.names.lookup x = some .local)
  (h : wpAny (model prog w) A (eval iter env) (fun xv s₁ => wpAny (model prog w) A (pyIter xv) (SrcX prog w A h₀ L m fun s₂ S P n news => LCg.CompRest prog w A h₀ L m env elt x scope cl s₂ S P (LCg.FinE h₀ L m s₂ Q) n 0 [] news) E s₁) E s)
  (hs : ∀ x, foldedSetIterable iter env x = pure x := by intro _; rfl) :
  wpAny (model prog w) A (eval (.ListComp elt [⟨.Name x px, iter, [], 0⟩] scope pos) env) Q E s := by
 rw [eval_ListComp]
 refine wpAny_comprehension_free (use := none) rfl hs hclos hkind hnames (wpAny_mono h (fun xv s₁ h₁ => wpAny_mono h₁ (fun it s₂ h₂ => ?_) fun _ _ e => e) fun _ _ e => e)
 refine hide fun Dq kq => ?_; obtain ⟨I, fp, n, P, St, S, news, rfl, W, hsz, hIo, hSt, hst, hfp, F, N, hIL, hI₀, off, hS, R⟩ := h₂; refine kq ?_; clear kq Dq
 refine LCg.block_U W hsz hIo hSt hcell hkind hx hst hfp F N hIL hI₀ off hS R ?_
 intro D C h tk m' ys news' F' N' o1 hn hC₀ hD₀ hCL hDL hCD offC fin
 refine ⟨m', hn, fun h'' hs'' => fin D h'' tk (F'.change hs'' hCL hC₀) (fun p hp => ?_) o1⟩
 refine ⟨hs''.extBut _ _ ?_ (N' p hp).1, (N' p hp).2⟩
 rcases List.mem_cons.mp hp with rfl | hp
 ·exact Ne.symm hCD
 ·exact offC p hp
theorem ListComp_TX {ct elt iter : Expr} {x : Str} {px : Pos} {scope : Scope} {cl : List (Str × Addr)} {pos : Pos} {Q : Value → Shared → Prop} (_F₀ : Fr h₀ L s.heap m)
  (hclos : closureFor scope env = pure cl) (hcell : ∀ y ∈ scope.names, y.2 ≠ .cell) (hkind : scope.kind = .function)
  (hnames : ∀ y ∈ scope.names, y.2 = .local → scope.names.lookup y.1 = some .local) (hx : scope.names.lookup x = some .local)
  (h : wpAny (model prog w) A (eval iter env) (fun xv s₁ => wpAny (model prog w) A (pyIter xv) (SrcX prog w A h₀ L m fun s₂ S P n news => LCt.CompRestT prog w A h₀ L m env ct elt x scope cl s₂ S P (LCg.FinE h₀ L m s₂ Q) n 0 [] news) E s₁) E s)
  (hs : ∀ x, foldedSetIterable iter env x = pure x := by intro _; rfl) :
  wpAny (model prog w) A (eval (.ListComp elt [⟨.Name x px, iter, [ct], 0⟩] scope pos) env) Q E s := by
 rw [eval_ListComp]
 refine wpAny_comprehension_free (use := none) rfl hs hclos hkind hnames (wpAny_mono h (fun xv s₁ h₁ => wpAny_mono h₁ (fun it s₂ h₂ => ?_) fun _ _ e => e) fun _ _ e => e)
 refine hide fun Dq kq => ?_; obtain ⟨I, fp, n, P, St, S, news, rfl, W, hsz, hIo, hSt, hst, hfp, F, N, hIL, hI₀, off, hS, R⟩ := h₂; refine kq ?_; clear kq Dq
 refine LCt.block_T W hsz hIo hSt hcell hkind hx hst hfp F N hIL hI₀ off hS R ?_
 intro D C h tk m' ys news' F' N' o1 hn hC₀ hD₀ hCL hDL hCD offC fin
 refine ⟨m', hn, fun h'' hs'' => fin D h'' tk (F'.change hs'' hCL hC₀) (fun p hp => ?_) o1⟩
 refine ⟨hs''.extBut _ _ ?_ (N' p hp).1, (N' p hp).2⟩
 rcases List.mem_cons.mp hp with rfl | hp
 ·exact Ne.symm hCD
 ·exact offC p hp
theorem assign_done {y : Str} {py : Pos} {D C : Addr} {h' : Heap} {tk : Nat} {ys : List Value} {news' : List (Addr × Obj)} {m' : Str → Option Value} {Q : Flow → Shared → Prop} {s₂ : Shared} (hy : env.kindOf y = some .local) (hp : (env.scope.kind == .class || (env.scope.kind == .module && env.locals != env.globals)) = false)
  (F' : Fr h₀ env.locals h' m) (N' : News h₀ env.locals h' ((D, LCg.lst ys) :: news')) (o1 : LCg.Off1 D news') (hn : h'.Ns C m') (hC₀ : h₀.get? C = none) (hCL : C ≠ env.locals) (hCD : C ≠ D) (offC : ∀ p ∈ news', p.1 ≠ C) (fin : LCg.FinA h₀ env.locals m s₂ y Q ys news') :
  compPost (model prog w) A E (some (assign (.Name y py) env)) (fun _ s' => Q .next s') (.ref D) C (.ok .next) { s₂ with heap := h', toks := tk } := by
 show wpAny _ A (assign (.Name y py) env (.ref D)) _ _ _
 refine wpAny_assign_Name (wpAny_storeName_local hy F'.ns (fun h₂ hn₂ hs₂ => ?_) hp)
 have hL₀ : h₀.get? env.locals = none := Heap.get?_none_of_le F'.above
 have F₂ : Fr h₀ env.locals h₂ (fun z => if z = y then some (.ref D) else m z) := ⟨hn₂, fun b o e => hs₂.extBut b o (fun q => by rw [q, hL₀] at e; cases e) (F'.keep b o e), F'.above⟩
 refine ⟨m', hn.sameBut hs₂ hCL, fun h'' hs'' => fin D h'' _ (F₂.change hs'' hCL hC₀) (fun p hp => ?_) o1⟩
 have z : h₂.get? p.1 = some p.2 := hs₂.extBut _ _ (N' p hp).2.1 (N' p hp).1
 refine ⟨hs''.extBut _ _ ?_ z, (N' p hp).2⟩
 rcases List.mem_cons.mp hp with rfl | hp
 ·exact Ne.symm hCD
 ·exact offC p hp
theorem Assign_TX {ct elt iter : Expr} {x y : Str} {px py : Pos} {scope : Scope} {cl : List (Str × Addr)} {pos spos : Pos} {Q : Flow → Shared → Prop} (_F₀ : Fr h₀ L s.heap m) (hLe : env.locals = L)
  (hsw : swapsWith (.ListComp elt [⟨.Name x px, iter, [ct], 0⟩] scope pos) (some (.Name y py)) spos.line env = pure true)
  (hclos : closureFor scope env = pure cl) (hcell : ∀ z ∈ scope.names, z.2 ≠ .cell) (hkind : scope.kind = .function)
  (hnames : ∀ z ∈ scope.names, z.2 = .local → scope.names.lookup z.1 = some .local) (hx : scope.names.lookup x = some .local)
  (hy : env.kindOf y = some .local) (hp : (env.scope.kind == .class || (env.scope.kind == .module && env.locals != env.globals)) = false)
  (h : wpAny (model prog w) A (eval iter env) (fun xv s₁ => wpAny (model prog w) A (pyIter xv) (SrcX prog w A h₀ L m fun s₂ S P n news => LCt.CompRestT prog w A h₀ L m env ct elt x scope cl s₂ S P (LCg.FinA h₀ L m s₂ y Q) n 0 [] news) E s₁) E s)
  (hs : ∀ x, foldedSetIterable iter env x = pure x := by intro _; rfl) :
  wpAny (model prog w) A (exec (.Assign [.Name y py] (.ListComp elt [⟨.Name x px, iter, [ct], 0⟩] scope pos) spos) env) Q E s := by
 subst hLe
 rw [exec_Assign_Name_used _ _ _ _ hsw]
 refine wpAny_bind (wpAny_standAt (wpAny_bind ?_))
 show wpAny _ A (do let _ ← comprehension (.ListComp elt [⟨.Name x px, iter, [ct], 0⟩] scope pos) scope env _ (newList []) false (eval iter env) (some (assign (.Name y py) env))) _ _ s
 refine wpAny_bind (wpAny_mono (wpAny_comprehension_free (use := some (assign (.Name y py) env)) (Q := fun _ s' => Q .next s') rfl hs hclos hkind hnames
  (wpAny_mono h (fun xv s₁ h₁ => wpAny_mono h₁ (fun it s₂ h₂ => ?_) fun _ _ e => e) fun _ _ e => e)) (fun _ s' hq => wpAny_pure (wpAny_pure hq)) fun _ _ e => e)
 refine hide fun Dq kq => ?_; obtain ⟨I, fp, n, P, St, S, news, rfl, W, hsz, hIo, hSt, hst, hfp, F, N, hIL, hI₀, off, hS, R⟩ := h₂; refine kq ?_; clear kq Dq
 refine LCt.block_T W hsz hIo hSt hcell hkind hx hst hfp F N hIL hI₀ off hS R ?_
 intro D C h tk m' ys news' F' N' o1 hn hC₀ hD₀ hCL hDL hCD offC fin
 exact assign_done hy hp F' N' o1 hn hC₀ hCL hCD offC fin
theorem Assign_UX {elt iter : Expr} {x y : Str} {px py : Pos} {scope : Scope} {cl : List (Str × Addr)} {pos spos : Pos} {Q : Flow → Shared → Prop} (_F₀ : Fr h₀ L s.heap m) (hLe : env.locals = L)
  (hsw : swapsWith (.ListComp elt [⟨.Name x px, iter, [], 0⟩] scope pos) (some (.Name y py)) spos.line env = pure true)
  (hclos : closureFor scope env = pure cl) (hcell : ∀ z ∈ scope.names, z.2 ≠ .cell) (hkind : scope.kind = .function)
  (hnames : ∀ z ∈ scope.names, z.2 = .local → scope.names.lookup z.1 = some .local) (hx : scope.names.lookup x = some .local)
  (hy : env.kindOf y = some .local) (hp : (env.scope.kind == .class || (env.scope.kind == .module && env.locals != env.globals)) = false)
  (h : wpAny (model prog w) A (eval iter env) (fun xv s₁ => wpAny (model prog w) A (pyIter xv) (SrcX prog w A h₀ L m fun s₂ S P n news => LCg.CompRest prog w A h₀ L m env elt x scope cl s₂ S P (LCg.FinA h₀ L m s₂ y Q) n 0 [] news) E s₁) E s)
  (hs : ∀ x, foldedSetIterable iter env x = pure x := by intro _; rfl) :
  wpAny (model prog w) A (exec (.Assign [.Name y py] (.ListComp elt [⟨.Name x px, iter, [], 0⟩] scope pos) spos) env) Q E s := by
 subst hLe
 rw [exec_Assign_Name_used _ _ _ _ hsw]
 refine wpAny_bind (wpAny_standAt (wpAny_bind ?_))
 show wpAny _ A (do let _ ← comprehension (.ListComp elt [⟨.Name x px, iter, [], 0⟩] scope pos) scope env _ (newList []) false (eval iter env) (some (assign (.Name y py) env))) _ _ s
 refine wpAny_bind (wpAny_mono (wpAny_comprehension_free (use := some (assign (.Name y py) env)) (Q := fun _ s' => Q .next s') rfl hs hclos hkind hnames
  (wpAny_mono h (fun xv s₁ h₁ => wpAny_mono h₁ (fun it s₂ h₂ => ?_) fun _ _ e => e) fun _ _ e => e)) (fun _ s' hq => wpAny_pure (wpAny_pure hq)) fun _ _ e => e)
 refine hide fun Dq kq => ?_; obtain ⟨I, fp, n, P, St, S, news, rfl, W, hsz, hIo, hSt, hst, hfp, F, N, hIL, hI₀, off, hS, R⟩ := h₂; refine kq ?_; clear kq Dq
 refine LCg.block_U W hsz hIo hSt hcell hkind hx hst hfp F N hIL hI₀ off hS R ?_
 intro D C h tk m' ys news' F' N' o1 hn hC₀ hD₀ hCL hDL hCD offC fin
 exact assign_done hy hp F' N' o1 hn hC₀ hCL hCD offC fin
theorem rest_inv {elt : Expr} {x : Str} {scope : Scope} {cl : List (Str × Addr)} {S : List (Addr × Obj) → Prop} {P : Nat → Value → Prop} {Fin : List Value → List (Addr × Obj) → Prop} {n : Nat} (J : Nat → List Value → List (Addr × Obj) → Prop)
  (turn : ∀ i ys news v I oI C oC D m₂ h tk (E' : Value → Shared → Prop), i < n → J i ys news → P i v → LCg.NsObj oC m₂ → m₂ x = some v → Fr h₀ L h m → News h₀ L h ((I, oI) :: (C, oC) :: (D, LCg.lst ys) :: news) → LCg.Off3 I C D news → ((@Ne Nat I C) ∧ (@Ne Nat I D) ∧ (@Ne Nat C D)) →
   wpAny (model prog w) A (eval elt (compEnvC scope cl C env)) (LCg.CompEnd h₀ L m { s with heap := h, toks := tk } I oI C oC D (LCg.lst ys) S (fun y news' => J (i + 1) (ys ++ [y]) news')) E' { s with heap := h, toks := tk })
  (fin : ∀ ys news, J n ys news → Fin ys news) : ∀ k i ys news, i + k = n → J i ys news → LCg.CompRest prog w A h₀ L m env elt x scope cl s S P Fin k i ys news
 | 0, i, ys, news, e, j => fin ys news (by rw [← e]; exact j)
 | k + 1, i, ys, news, e, j => LCg.CompRest.succ fun v I oI C oC D m₂ h tk E' hP hC hv F N off ne => by
  refine wpAny_mono (turn i ys news v I oI C oC D m₂ h tk E' (by omega) j hP hC hv F N off ne) (fun y s' hq => ?_) fun _ _ e => e
  refine hide fun Dq kq => ?_; obtain ⟨h', tk', news', e1, F', N', off', hS, j'⟩ := hq; refine kq ?_; clear kq Dq
  exact ⟨h', tk', news', e1, F', N', off', hS, rest_inv J turn fin k (i + 1) (ys ++ [y]) news' (by omega) j'⟩
theorem rest_invT {ct elt : Expr} {x : Str} {scope : Scope} {cl : List (Str × Addr)} {S : List (Addr × Obj) → Prop} {P : Nat → Value → Prop} {Fin : List Value → List (Addr × Obj) → Prop} {n : Nat} (J : Nat → List Value → List (Addr × Obj) → Prop)
  (turn : ∀ i ys news v I oI C oC D m₂ h tk (E' : Value → Shared → Prop), i < n → J i ys news → P i v → LCg.NsObj oC m₂ → m₂ x = some v → Fr h₀ L h m → News h₀ L h ((I, oI) :: (C, oC) :: (D, LCg.lst ys) :: news) → LCg.Off3 I C D news → ((@Ne Nat I C) ∧ (@Ne Nat I D) ∧ (@Ne Nat C D)) →
   wpAny (model prog w) A (isTrue ct (compEnvC scope cl C env) (eval ct (compEnvC scope cl C env))) (fun ok s' => if ok = true then
    wpAny (model prog w) A (eval elt (compEnvC scope cl C env)) (LCg.CompEnd h₀ L m { s with heap := h, toks := tk } I oI C oC D (LCg.lst ys) S (fun y news' => J (i + 1) (ys ++ [y]) news')) E' s'
    else LCg.CompEnd h₀ L m { s with heap := h, toks := tk } I oI C oC D (LCg.lst ys) S (fun _ news' => J (i + 1) ys news') Value.none s') E' { s with heap := h, toks := tk })
  (fin : ∀ ys news, J n ys news → Fin ys news) : ∀ k i ys news, i + k = n → J i ys news → LCt.CompRestT prog w A h₀ L m env ct elt x scope cl s S P Fin k i ys news
 | 0, i, ys, news, e, j => fin ys news (by rw [← e]; exact j)
 | k + 1, i, ys, news, e, j => LCt.CompRestT.succ fun v I oI C oC D m₂ h tk E' hP hC hv F N off ne => by
  refine wpAny_mono (turn i ys news v I oI C oC D m₂ h tk E' (by omega) j hP hC hv F N off ne) (fun ok s' hq => ?_) fun _ _ e => e
  cases ok with
  | true =>
   rw [if_pos rfl] at hq ⊢
   refine wpAny_mono hq (fun y s' hq => ?_) fun _ _ e => e
   refine hide fun Dq kq => ?_; obtain ⟨h', tk', news', e1, F', N', off', hS, j'⟩ := hq; refine kq ?_; clear kq Dq
   exact ⟨h', tk', news', e1, F', N', off', hS, rest_invT J turn fin k (i + 1) (ys ++ [y]) news' (by omega) j'⟩
  | false =>
   rw [if_neg (by decide)] at hq ⊢
   refine hide fun Dq kq => ?_; obtain ⟨h', tk', news', e1, F', N', off', hS, j'⟩ := hq; refine kq ?_; clear kq Dq
   exact ⟨h', tk', news', e1, F', N', off', hS, rest_invT J turn fin k (i + 1) ys news' (by omega) j'⟩
end

end
section
section
variable {prog : Program} {w : World} {A : Around} {E : Value → Shared → Prop} {s : Shared} {h₀ : Heap} {L : Addr} {m : Str → Option Value} {news : List (Addr × Obj)} {R : Shared → (List (Addr × Obj) → Prop) → (Nat → Value → Prop) → Nat → List (Addr × Obj) → Prop}
theorem src_push {o : Obj} {fp : List Addr} {n : Nat} {P : Nat → Value → Prop} {St : Nat → Heap → Prop} {S : List (Addr × Obj) → Prop} (F : Fr h₀ L s.heap m) (N : News h₀ L s.heap news) (W : Walks prog w A s.heap.objs.size fp [s.heap.objs.size] n P St) (hsz : n < 1000)
  (hIo : ∀ i h, St i h → ∃ o, h.get? s.heap.objs.size = some o)
  (hSt : ∀ i h h' o nw, St i h → h.get? s.heap.objs.size = some o → h'.get? s.heap.objs.size = some o → (∀ b o, h₀.get? b = some o → h'.get? b = some o) → News h₀ L h' nw → S nw → St i h') (hst : St 0 (s.heap.push o)) (hfp : ∀ b ∈ fp, b ≠ s.heap.objs.size → b < s.heap.objs.size)
  (hS : S news) (h : ∀ h', R { s with heap := h' } S P n news) : SrcX prog w A h₀ L m R (.ref s.heap.objs.size) { s with heap := s.heap.push o } := by
 have up : ∀ b o', s.heap.get? b = some o' → (s.heap.push o).get? b = some o' := fun b o' e => Heap.get?_push_of_some _ e
 refine ⟨_, fp, n, P, St, S, news, rfl, W, (by rw [sizeLine_eq]; omega), hIo, hSt, hst, fun b hb => ?_, F.keeps up, N.grown up, Nat.ne_of_lt F.ns.lt, next_is_new F, fun p hp => Nat.ne_of_lt (Heap.lt_size (N p hp).1), hS, h _⟩
 show b < (s.heap.push o).objs.size
 rw [Heap.size_push]
 by_cases e : b = s.heap.objs.size
 ·rw [e]; exact Nat.lt_succ_self _
 ·exact Nat.lt_succ_of_lt (hfp b hb e)
theorem src_values {knd : KeyKind prog w Str} {v d : Addr} {kvs : List (Str × Value)} (hh : A.handled = none) (F : Fr h₀ L s.heap m) (N : News h₀ L s.heap news) (hv : (v, ({ cls := .type "dict_values", data := .fields #[.ref d] } : Obj)) ∈ news) (hd : h₀.DictOf knd d kvs) (hsz : kvs.length < 1000)
  (h : ∀ h', R { s with heap := h' } (fun _ => True) (fun i v => ∃ k, kvs[i]? = some (k, v)) kvs.length news) : wpAny (model prog w) A (pyIter (.ref v)) (SrcX prog w A h₀ L m R) E s := by
 refine hide fun Dq kq => ?_; obtain ⟨o, es, ep, hol, r⟩ := id hd; refine kq ?_; clear kq Dq
 have hg : h₀.DictAt knd d kvs ep := ⟨o, es, hol, r⟩
 have hls : s.heap.DictAt knd d kvs ep := hg.at' fun o e => F.keep d o e
 have hlt : d < s.heap.objs.size := Heap.lt_size (F.keep _ _ hol)
 refine wpAny_pyIter_values ⟨_, (N _ hv).1, rfl, rfl⟩ hls ?_
 refine src_push F N (Walks.dictValues hh _ d (Nat.ne_of_lt hlt) kvs ep) hsz (fun i h st => by obtain ⟨o, e, _⟩ := st.1; exact ⟨o, e⟩) ?_ ⟨⟨_, Heap.get?_push_size _ rfl, rfl, rfl⟩, hls.at' fun o e => Heap.get?_push_of_some _ e⟩ ?_ trivial h
 ·intro i h h' o nw st e e' k N' _
  exact ⟨by obtain ⟨o', q, r⟩ := st.1; rw [e] at q; cases q; exact ⟨o, e', r⟩, hg.at' fun o q => k _ _ q⟩
 ·intro b hb ne
  rcases List.mem_cons.mp hb with rfl | hb
  ·exact absurd rfl ne
  ·rw [List.mem_singleton.mp hb]; exact hlt
def TupIn (h₀ : Heap) (ax : Addr) (its : Array Value) (news : List (Addr × Obj)) : Prop := h₀.IsTuple ax its ∨ ∃  o, (ax, o) ∈ news ∧ o.cls = .type "tuple" ∧ ∃ n, o.data = .seq its n
theorem TupIn.at {h : Heap} {ax : Addr} {its : Array Value} (x : TupIn h₀ ax its news) (k : ∀ b o, h₀.get? b = some o → h.get? b = some o) (N : News h₀ L h news) : h.IsTuple ax its := by
 rcases x with ⟨o, e, r⟩ | ⟨o, hm, r⟩
 ·exact ⟨o, k _ _ e, r⟩
 ·exact ⟨o, (N _ hm).1, r⟩
theorem src_tuple {ax : Addr} {its : List Value} (hh : A.handled = none) (F : Fr h₀ L s.heap m) (N : News h₀ L s.heap news) (hv : TupIn h₀ ax its.toArray news) (hsz : its.length < 1000)
  (h : ∀ h', R { s with heap := h' } (TupIn h₀ ax its.toArray) (fun i v => its[i]? = some v) its.length news) : wpAny (model prog w) A (pyIter (.ref ax)) (SrcX prog w A h₀ L m R) E s := by
 have ht := hv.at F.keep N
 have hlt : ax < s.heap.objs.size := by obtain ⟨_, e, _⟩ := ht; exact Heap.lt_size e
 refine wpAny_pyIter_tuple ht ?_
 have W := Walks.tuple (prog := prog) (w := w) hh s.heap.objs.size ax (Nat.ne_of_lt hlt) its.toArray
 simp only [List.getElem?_toArray, List.size_toArray] at W
 refine src_push F N W hsz (fun i h st => by obtain ⟨o, e, _⟩ := st.1; exact ⟨o, e⟩) ?_ ⟨⟨_, Heap.get?_push_size _ rfl, rfl, rfl⟩, ht.push _⟩ ?_ hv h
 ·intro i h h' o nw st e e' k N' hS
  exact ⟨by obtain ⟨o', q, r⟩ := st.1; rw [e] at q; cases q; exact ⟨o, e', r⟩, hS.at k N'⟩
 ·intro b hb ne
  rcases List.mem_cons.mp hb with rfl | hb
  ·exact absurd rfl ne
  ·rw [List.mem_singleton.mp hb]; exact hlt
theorem src_list {ax : Addr} {its : List Value} (hh : A.handled = none) (F : Fr h₀ L s.heap m) (N : News h₀ L s.heap news) (hv : LCg.SrcAt h₀ ax its.toArray news) (hsz : its.length < 1000)
  (h : ∀ h', R { s with heap := h' } (LCg.SrcAt h₀ ax its.toArray) (fun i v => its[i]? = some v) its.length news) : wpAny (model prog w) A (pyIter (.ref ax)) (SrcX prog w A h₀ L m R) E s := by
 have ht := hv.list F.keep N
 have hlt : ax < s.heap.objs.size := by obtain ⟨_, e, _⟩ := ht; exact Heap.lt_size e
 refine wpAny_pyIter_list ht ?_
 have W := Walks.list (prog := prog) (w := w) hh s.heap.objs.size ax (Nat.ne_of_lt hlt) its.toArray
 simp only [List.getElem?_toArray, List.size_toArray] at W
 refine src_push F N W hsz (fun i h st => by obtain ⟨o, e, _⟩ := st.1; exact ⟨o, e⟩) LCg.list_st ⟨⟨_, Heap.get?_push_size _ rfl, rfl, rfl⟩, ht.push _⟩ ?_ hv h
 intro b hb ne
 rcases List.mem_cons.mp hb with rfl | hb
 ·exact absurd rfl ne
 ·rw [List.mem_singleton.mp hb]; exact hlt
theorem src_range {r : Addr} {a b : Int} {t u v : Tok} {n : Nat} (hh : A.handled = none) (F : Fr h₀ L s.heap m) (N : News h₀ L s.heap news) (hr : IsRange s.heap r a b 1 t u v) (hsm : Builtin.Range.small a b 1 = true) (hn : Builtin.Range.rangeSize a b 1 = ((n : Nat) : Int)) (hsz : n < 1000)
  (h : ∀ h', R { s with heap := h' } (fun _ => True) (fun i v => ∃ t, v = .int (a + (i : Int)) t) n news) : wpAny (model prog w) A (pyIter (.ref r)) (SrcX prog w A h₀ L m R) E s := by
 refine wpAny_pyIter_range hr hsm ?_
 refine src_push F N (LCg.range_walks hh a n) hsz (fun i h st => ⟨_, st⟩) LCg.range_st (by show IsRangeIter _ _ _ _ _; rw [hn]; simpa using Heap.get?_push_size _ rfl) ?_ trivial h
 intro b hb ne
 exact absurd (List.mem_singleton.mp hb) ne
theorem src_str {x : Str} {t : Tok} (hh : A.handled = none) (F : Fr h₀ L s.heap m) (N : News h₀ L s.heap news) (ha : x.cps.all (· < 128) = true) (hsz : x.cps.size < 1000)
  (h : ∀ h', R { s with heap := h' } (fun _ => True) (SignAt x) x.cps.size news) : wpAny (model prog w) A (pyIter (.str x t)) (SrcX prog w A h₀ L m R) E s := by
 refine wpAny_pyIter_ascii ha ?_
 refine src_push F N (Walks.strAscii hh _ x t) hsz (fun i h st => by obtain ⟨o, e, _⟩ := st; exact ⟨o, e⟩) ?_ ⟨_, Heap.get?_push_size _ rfl, rfl, rfl⟩ ?_ trivial h
 ·intro i h h' o nw st e e' k N' _
  obtain ⟨o', q, r⟩ := st; rw [e] at q; cases q; exact ⟨o, e', r⟩
 ·intro b hb ne
  exact absurd (List.mem_singleton.mp hb) ne
end

end
section
theorem inst_mix2 {g h : Heap} {L x C dx : Addr} {m : Str → Option Value} {od : Obj} {sl : Array (Option Value)} {news : List (Addr × Obj)} (F : Fr g L h m) (N : News g L h news) (h1 : g.get? x = some (⟨.ref C, some dx, .plain, sl⟩ : Obj)) (h2 : (dx, od) ∈ news) :
  PySem.W.InstAt h x ⟨.ref C, some dx, .plain, sl⟩ C (some od) := ⟨F.keep _ _ h1, rfl, rfl, (N _ h2).1⟩
section
variable {prog : Program} {w : World} {A : Around} {E : Value → Shared → Prop} {s : Shared} {g : Heap} {L d : Addr} {m : Str → Option Value} {kvs : List (Str × Value)} {news : List (Addr × Obj)}
theorem bd_methodV {pl : Sem Bool} {Q : Value × List Value → Shared → Prop} (F : Fr g L s.heap m) (hD : g.DictOf (PySem.strKind prog w) d kvs) (h : Q (.builtin "dict.values", [.ref d]) s) : wpAny (model prog w) A (getMethod (.ref d) "values" pl) Q E s :=
 have hD := bd_dict F hD
 getMethod_builtin hD.typeIs PySem.F.plainAttrs_dict PySem.F.slot_dict_values PySem.F.type_dict_values hD.mapOf.noDict h
theorem bd_values {Q : Value → Shared → Prop} (F : Fr g L s.heap m) (N : News g L s.heap news) (hD : g.DictOf (PySem.strKind prog w) d kvs) (lo : (d == sysModules) = false)
  (h : ∀ v h', Fr g L h' m → News g L h' ((v, { cls := .type "dict_values", data := .fields #[.ref d] }) :: news) → (∀ p ∈ news, p.1 < v) → Q (.ref v) { s with heap := h' }) : wpAny (model prog w) A (call (.builtin "dict.values") [.ref d]) Q E s :=
 have hD := bd_dict F hD
 call_meetsIn PySem.F.slot_dict_values hD.typeIs PySem.F.entry_dict_values (PySem.F.args_dict_values_1 _) (meets_dict_values (PySem.strKind prog w) d lo) ⟨⟨_, hD⟩, h _ _ (F.push _) (News.push F N _ rfl) (fun q hq => Heap.lt_size (N q hq).1)⟩
end
section
variable {w : World} {A : Around} {E : Value → Shared → Prop} {s : Shared} {g : Heap} {L x dx d : Addr} {m : Str → Option Value} {news news' : List (Addr × Obj)} {h1 h2 h3 h4 : Int} {t1 t2 t3 t4 tp tf : Tok} {np nf : Int} {rv v : Value} {n : Nat}
theorem set_rv {Q : Unit → Shared → Prop} (F : Fr g L s.heap m) (X : (Mine.hd.heap_39 w.params).In g) (N : News g L s.heap news) (I : PySem.W.InstAt s.heap x (instObj 165 dx) 165 (some (dictOf (sdict h1 h2 h3 h4 t1 t2 t3 t4 d rv np nf tp tf) n)))
  (U : Upd dx (dictOf (sdict h1 h2 h3 h4 t1 t2 t3 t4 d rv np nf tp tf) n) (dictOf (sdict h1 h2 h3 h4 t1 t2 t3 t4 d v np nf tp tf) n) news news')
  (h : ∀ h', Fr g L h' m → News g L h' news' → Q () { s with heap := h', toks := s.toks + 2 }) : wpAny (model Pg w) A (setAttr (.ref x) (Str.ofString "_ready_nodes") v) Q E s :=
 set_dict F X N I rfl (by k_dflt k_is) (by k_dflt k_is) (by k_dflt k_is) (by k_dflt k_is) rfl rfl U (Nat.le_of_ble_eq_true rfl) h
theorem set_np {Q : Unit → Shared → Prop} {p' : Int} {t' : Tok} (F : Fr g L s.heap m) (X : (Mine.hd.heap_39 w.params).In g) (N : News g L s.heap news) (I : PySem.W.InstAt s.heap x (instObj 165 dx) 165 (some (dictOf (sdict h1 h2 h3 h4 t1 t2 t3 t4 d rv np nf tp tf) n)))
  (U : Upd dx (dictOf (sdict h1 h2 h3 h4 t1 t2 t3 t4 d rv np nf tp tf) n) (dictOf (sdict h1 h2 h3 h4 t1 t2 t3 t4 d rv p' nf t' tf) n) news news')
  (h : ∀ h', Fr g L h' m → News g L h' news' → Q () { s with heap := h', toks := s.toks + 2 }) : wpAny (model Pg w) A (setAttr (.ref x) (Str.ofString "_npassedout") (.int p' t')) Q E s :=
 set_dict F X N I rfl (by k_dflt k_is) (by k_dflt k_is) (by k_dflt k_is) (by k_dflt k_is) rfl rfl U (Nat.le_of_ble_eq_true rfl) h
theorem set_nf {Q : Unit → Shared → Prop} {p' : Int} {t' : Tok} (F : Fr g L s.heap m) (X : (Mine.hd.heap_39 w.params).In g) (N : News g L s.heap news) (I : PySem.W.InstAt s.heap x (instObj 165 dx) 165 (some (dictOf (sdict h1 h2 h3 h4 t1 t2 t3 t4 d rv np nf tp tf) n)))
  (U : Upd dx (dictOf (sdict h1 h2 h3 h4 t1 t2 t3 t4 d rv np nf tp tf) n) (dictOf (sdict h1 h2 h3 h4 t1 t2 t3 t4 d rv np p' tp t') n) news news')
  (h : ∀ h', Fr g L h' m → News g L h' news' → Q () { s with heap := h', toks := s.toks + 2 }) : wpAny (model Pg w) A (setAttr (.ref x) (Str.ofString "_nfinished") (.int p' t')) Q E s :=
 set_dict F X N I rfl (by k_dflt k_is) (by k_dflt k_is) (by k_dflt k_is) (by k_dflt k_is) rfl rfl U (Nat.le_of_ble_eq_true rfl) h
end

end
section
section
variable {prog : Program} {w : World} {A : Around} {E : Value → Shared → Prop} {s : Shared} {env : Env} {body orelse : List Stmt} {Q : Flow → Shared → Prop}
theorem for_items {g : Heap} {d vw : Addr} {kvs : List (Str × Value)} {xi xv : Str} {pi pv pos : Pos} {kk : Nat} {m₀ : Str → Option Value} {news₀ : List (Addr × Obj)} (J : Nat → (Str → Option Value) → List (Addr × Obj) → Prop)
  (hh : A.handled = none) (hl : g.DictOf (PySem.strKind prog w) d kvs) (F : Fr g env.locals s.heap m₀) (N : News g env.locals s.heap news₀) (hvw : (vw, ({ cls := .type "dict_items", data := .fields #[.ref d] } : Obj)) ∈ news₀) (hj : J 0 m₀ news₀) (hxi : env.kindOf xi = some .local) (hxv : env.kindOf xv = some .local)
  (hp : (env.scope.kind == .class || (env.scope.kind == .module && env.locals != env.globals)) = false)
  (turn : ∀ i k t v m news h tk I oI, kvs[i]? = some (k, v) → J i m news → Fr g env.locals h (fun y => if y = xv then some v else if y = xi then some (.str k t) else m y) → News g env.locals h ((I, oI) :: news) → (∀ p ∈ news, p.1 ≠ I) →
   wpAny (model prog w) A (execs body env) (TurnB g env.locals s [(I, oI)] (J (i + 1)) Q) E { s with heap := h, toks := tk })
  (fin : ∀ m news h tk, J kvs.length m news → Fr g env.locals h m → News g env.locals h news → wpAny (model prog w) A (execs orelse env) Q E { s with heap := h, toks := tk }) :
  wpAny (model prog w) A (pyIter (.ref vw)) (fun it s₂ => LoopX prog w A env (.Tuple [.Name xi pi, .Name xv pv] kk pos) body orelse Q E it s₂) E s := by
 refine hide fun Dq kq => ?_; obtain ⟨o, es, ep, hol, r⟩ := id hl; refine kq ?_; clear kq Dq
 have hg : g.DictAt (PySem.strKind prog w) d kvs ep := ⟨o, es, hol, r⟩
 have hls : s.heap.DictAt (PySem.strKind prog w) d kvs ep := hg.at' fun o e => F.keep d o e
 have hlt : d < g.objs.size := Heap.lt_size hol
 have hne : d ≠ s.heap.objs.size := Nat.ne_of_lt (Nat.lt_trans (Nat.lt_of_lt_of_le hlt F.above) F.ns.lt)
 refine wpAny_pyIter_items ⟨_, (N _ hvw).1, rfl, rfl⟩ hls ?_
 have W := kti_itemsTurns (prog := prog) (w := w) (knd := PySem.strKind prog w) (elts := [.Name xi pi, .Name xv pv]) (kk := kk) (pos := pos) hh s.heap.objs.size d hne kvs ep
 refine hide fun Dq kq => ?_; obtain ⟨f1, f2, f3⟩ := i_facts F N; refine kq ?_; clear kq Dq
 have hk : ∀ b o, s.heap.get? b = some o → (s.heap.push { cls := .type "dict_itemiterator", data := .fields #[.none, .bool false, .ref d, .int 0 0, .int kvs.length 0, .int ep 0, .none, .none] }).get? b = some o := fun b o e => Heap.get?_push_of_some _ e
 have hI0 : (s.heap.push { cls := .type "dict_itemiterator", data := .fields #[.none, .bool false, .ref d, .int 0 0, .int kvs.length 0, .int ep 0, .none, .none] }).get? s.heap.objs.size = some { cls := .type "dict_itemiterator", data := .fields #[.none, .bool false, .ref d, .int 0 0, .int kvs.length 0, .int ep 0, .none, .none] } := Heap.get?_push_size _ rfl
 refine ⟨s.heap.objs.size, _, _, _, _, _, _, fun i => FrJ g env.locals s [s.heap.objs.size] (J i), rfl, W, ⟨⟨.none, .none, hI0⟩, hls.at' fun o e => hk _ _ e⟩, ⟨_, s.toks, m₀, news₀, rfl, fr_ext F hk, news_ext N hk, ?_, hj⟩, ?_, ?_, ?_⟩
 ·intro p hp hq
  exact f1 p hp (List.mem_singleton.mp hq)
 ·intro i s' h' tk j hk
  refine j.stab ?_ ?_ hk
  ·simpa using f2
  ·intro b hb
   rw [List.mem_singleton.mp hb]; exact f3
 ·rintro i v s₁ hin ⟨T, key, k, x, rfl, hx, hkey, hT⟩ ⟨h, tk, m, news, rfl, F₁, N₁, ha, hJ⟩ hst
  refine hide fun Dq kq => ?_; obtain ⟨⟨ok, ov, he₀⟩, _⟩ := id hst; refine kq ?_; clear kq Dq
  have he' : ∃ oe : Obj, h.get? s.heap.objs.size = some oe ∧ (∀ h'' : Heap, h''.get? s.heap.objs.size = some oe → IsItemIter h'' s.heap.objs.size d (i + 1) kvs.length ep ok ov) := ⟨_, he₀, fun h'' q => q⟩
  refine hide fun Dq kq => ?_; obtain ⟨oe, he, he2⟩ := he'; refine kq ?_; clear kq Dq
  obtain ⟨t, rfl⟩ : ∃ t, key = .str k t := by
   cases key with
   | str z t => exact ⟨t, by have : (z == k) = true := hkey; rw [eq_of_beq this]⟩
   | _ => cases hkey
  have hNI : News g env.locals h ((s.heap.objs.size, oe) :: news) := fun p hp => by
   rcases List.mem_cons.mp hp with rfl | hp
   ·exact ⟨he, Ne.symm f2, f3⟩
   ·exact N₁ p hp
  have hap : ∀ p ∈ news, p.1 ≠ s.heap.objs.size := fun p hp => by simpa using ha p hp
  refine assign_pair hh hT F₁ hNI hxi hxv hp fun h₂ tk₂ F₂ N₂ => ?_
  refine wpAny_mono (turn i k t x m news h₂ tk₂ _ oe hx hJ F₂ N₂ hap) (fun f s₃ h₃ => ?_) fun _ _ e => e
  have fin : (E4 fun h tk m news' => A5 (s₃ = { s with heap := h, toks := tk }) (Fr g env.locals h m) (News g env.locals h ([(s.heap.objs.size, oe)] ++ news')) ((∀ p ∈ news', ∀ q ∈ [(s.heap.objs.size, oe)], p.1 ≠ q.1)) (J (i + 1) m news')) →
    FrJ g env.locals s [s.heap.objs.size] (J (i + 1)) s₃ ∧ ((∃  ok ov, IsItemIter s₃.heap s.heap.objs.size d (i + 1) kvs.length ep ok ov) ∧ s₃.heap.DictAt (PySem.strKind prog w) d kvs ep) := by
   rintro hJq; refine hide fun Dq kq => ?_; obtain ⟨h₄, tk₃, m₃, news₃, rfl, F₃, N₃, ha₃, hJ₃⟩ := hJq; refine kq ?_; clear kq Dq
   exact ⟨⟨h₄, tk₃, m₃, news₃, rfl, F₃, fun p hp => N₃ p (.tail _ hp), fun p hp => by simpa using ha₃ p hp _ (.head _), hJ₃⟩, ⟨ok, ov, he2 _ (N₃ _ (.head _)).1⟩, hg.at' fun o e => F₃.keep d o e⟩
  cases f with
  | next => exact fin h₃
  | cont => exact fin h₃
  | brk => exact h₃
  | ret v => exact h₃
 ·rintro s₁ hJq; refine hide fun Dq kq => ?_; obtain ⟨h, tk, m, news, rfl, F₁, N₁, ha, hJ⟩ := hJq; refine kq ?_; clear kq Dq
  exact fin m news h tk hJ F₁ N₁
end

end
section
theorem StarCall {M : Model} {A : Around} {E : Value → Shared → Prop} {s : Shared} {env : Env} {o : Expr} {name : Str} {apos pos : Pos} {args : List Expr} {Q : Value → Shared → Prop}
  (h : wpAny M A (eval o env) (fun ov s₁ => wpAny M A (getAttr ov name true) (fun f s₂ => wpAny M A (callWith pos f [] (backTo pos (starEach args env)) []) Q E s₂) E s₁) E s)
  (he : eval (.Call (.Attribute o name apos) args [] pos) env = (do
   let ov ← eval o env
   standAt apos.atName
   let (f, first) ← holding [ov] (do pure (← getAttr ov name true, []))
   callWith pos f first (backTo pos (starEach args env)) []) := by rfl) :
  wpAny M A (eval (.Call (.Attribute o name apos) args [] pos) env) Q E s := by
 rw [he]
 refine wpAny_bind (wpAny_mono h (fun ov s₁ h₁ => ?_) fun _ _ e => e)
 refine wpAny_bind (wpAny_standAt ?_)
 refine wpAny_bind (wpAny_holding (wpAny_bind (wpAny_mono h₁ (fun f s₂ h₂ => ?_) fun _ _ e => e)))
 exact wpAny_pure h₂
section
variable {M : Model} {A : Around} {E : Value → Shared → Prop} {s : Shared} {K : Frag} {env : Env} {pos p : Pos} {first : List Value} {Q : Value → Shared → Prop} {h₀ : Heap} {e : Expr} {rest : List Expr}
theorem callWith_MS {L : Addr} {news : List (Addr × Obj)} {q g : Addr} {self : Value} (_N : News h₀ L s.heap news) (_q : (q, methodObj (.ref g) self) ∈ news) (hf : fnIn K g = true) (h : wpAny M A (spliced (backTo pos (starEach (e :: rest) env))) (fun vs s₁ => MethP K q g self s₁.heap ∧ wpAny M A (call (.ref q) (first ++ vs)) Q E s₁) E s)
  (he : starEach (e :: rest) env = (false, eval e env) :: starEach rest env := by rfl) (hst : (backTo pos (starEach rest env)).any (·.1) = true := by rfl) :
  wpAny M A (callWith pos (.ref q) first (backTo pos (starEach (e :: rest) env)) []) Q E s := by
 rw [he] at h ⊢
 exact ks_call (by show (false || (backTo pos (starEach rest env)).any (·.1)) = true; rw [hst]; rfl) (keeps_M hf) (evalArgs_plain h)
end
theorem star_base {prog : Program} {w : World} {A : Around} {E : Value → Shared → Prop} {s : Shared} {h₀ : Heap} {L a : Addr} {m : Str → Option Value} {news : List (Addr × Obj)} {its : Array Value} {n : Nat} {Q : List Value → Shared → Prop} (F : Fr h₀ L s.heap m) (N : News h₀ L s.heap news) (ha : h₀.get? a = some (listOf its n)) (hz : its.size < 1000)
  (h : ∀ h', Fr h₀ L h' m → News h₀ L h' news → Q its.toList { s with heap := h' }) : StarOf (model prog w) A E (.ref a) Q s := by
 have D := F.keep _ _ ha
 have hT' : s.TypeIs (.ref a) "list" := ⟨_, D, rfl⟩
 have z : wpAny (model prog w) A (collect (.ref a)) Q E s := by
  refine wpAny_collect_seq a (.inl rfl) D rfl rfl (fun h' hk => h h' ?_ fun p hp => ⟨hk _ _ (N p hp).1, (N p hp).2⟩) (by rw [sizeLine_eq]; omega)
  refine hide fun Dq kq => ?_; obtain ⟨oL, es, ep, hL, r⟩ := F.ns; refine kq ?_; clear kq Dq
  exact ⟨⟨oL, es, ep, hk _ _ hL, r⟩, fun b x q => hk _ _ (F.keep b x q), F.above⟩
 unfold StarOf notIterableAtAll
 exact wpAny_bind (wpAny_specialOf hT' PySem.F.slot_list_iter.lookup (wpAny_pure ⟨rfl, z⟩))

end
section
def KeyP (P : Value → Prop) (o : Obj) : Prop := E2 fun es ep => o.data = .dict es ep ∧ ∀ e ∈ es.toList, P e.key
section
variable {prog : Program} {w : World} {A : Around} {E : Value → Shared → Prop} {s : Shared} {K : Type} [DecidableEq K] {knd : KeyKind prog w K} {P : Value → Prop}
theorem next_itemP {it d : Addr} {i ep : Nat} {kvs : List (K × Value)} {k : K} {v ok ov : Value} {od : Obj} {Q : Option Value → Shared → Prop} (hit : IsItemIter s.heap it d i kvs.length ep ok ov)
  (hod : s.heap.get? d = some od) (hm : s.heap.DictAt knd d kvs ep) (hP : KeyP P od) (hx : kvs[i]? = some (k, v))
  (hQ : ∀ key h', knd.is k key = true → P key → IsItemIterOut h' it d (i + 1) kvs.length ep key v s.heap.objs.size → h'.get? s.heap.objs.size = some { cls := .type "tuple", data := .seq #[key, v] } →
   (∀ b o, b ≠ it → s.heap.get? b = some o → h'.get? b = some o) → Q (some (.ref s.heap.objs.size)) { s with heap := h' }) : wpAny (model prog w) A (pyNext (.ref it)) Q E s := by
 refine hide fun Dq kq => ?_; obtain ⟨hp, g, dr, tk, os⟩ := s; refine kq ?_; clear kq Dq
 refine hide fun Dq kq => ?_; obtain ⟨od', es, hod', hcd, hdd, hk, hpr, hn⟩ := id hm; refine kq ?_; clear kq Dq
 dsimp only at hod hod'
 rw [hod] at hod'
 obtain rfl := Option.some.inj hod'
 refine hide fun Dq kq => ?_; obtain ⟨es', ep', hd', hPe⟩ := hP; refine kq ?_; clear kq Dq
 rw [hdd] at hd'
 injection hd' with e1 e2
 subst e1
 have hT : Shared.TypeIs ⟨hp, g, dr, tk, os⟩ (.ref it) "dict_itemiterator" := ⟨_, hit, rfl⟩
 have hsz : es.size = kvs.length := by rw [← hpr.length]; simp
 have hlt : i < kvs.length := by
  rcases Nat.lt_or_ge i kvs.length with h | h
  ·exact h
  ·simp [List.getElem?_eq_none h] at hx
 have hlt' : i < es.size := by rw [hsz]; exact hlt
 obtain ⟨hkey, hval⟩ := hpr.get? (e := es[i]) (by simp [hlt']) hx
 have hPk : P es[i].key := hPe _ (by simp)
 have hil : it < hp.objs.size := Heap.lt_size hit
 unfold pyNext
 refine wpAny_bind (wpAny_attempt (wpAny_callSpecial?_slot (name := Str.ofString "__next__") hT PySem.F.slot_dict_itemiterator_next
  (wpAny_call_entry PySem.F.slot_dict_itemiterator_next hT PySem.F.entry_dict_itemiterator_next ?_ (PySem.F.args_dict_itemiterator_next_1 _))))
 refine wpAny_bind (wpAny_pure (wpAny_bind (wpAny_bind ?_)))
 first | refine wpAny_bind (wpAny_typeNameOfWhole_itemiter hT (wpAny_pure ?_)) | refine wpAny_bind (wpAny_typeNameOf_itemiter hT (wpAny_pure ?_))
 refine wpAny_bind (wpAny_fieldsOf hit rfl ?_)
 simp only [show Builtin.Dict_items.ownsTuple "dict_itemiterator" = true from by decide, if_true]
 show wpAny _ _ (if (Value.ref d == Value.none) = true then _ else _) _ _ _
 rw [if_neg (show ¬ ((Value.ref d == Value.none) = true) from Bool.false_ne_true)]
 refine wpAny_bind (wpAny_pure (wpAny_bind (wpAny_dictEntries hod hdd ?_)))
 rw [if_neg (by rw [hsz]; simp)]
 refine wpAny_bind (wpAny_pure (wpAny_bind (wpAny_dictEpoch hod hdd ?_)))
 rw [if_neg (by simp)]
 refine wpAny_pure ?_
 simp only [show ¬ ((i : Int) < 0) from by omega, if_false, Int.toNat_natCast, Array.getElem?_eq_getElem hlt']
 refine wpAny_bind ?_
 first | refine wpAny_bind (wpAny_typeNameOfWhole_itemiter hT (wpAny_pure ?_)) | refine wpAny_bind (wpAny_typeNameOf_itemiter hT (wpAny_pure ?_))
 refine wpAny_bind (wpAny_isOneOf_itemiter hT ?_)
 show wpAny _ _ (setField (.ref it) 3 (rawInt ((i : Int) + 1)) >>= _) _ _ ⟨hp, g, dr, tk, os⟩
 refine wpAny_bind (wpAny_setField_rec hit (by simp) fun h₁ he₁ hs₁ => ?_)
 replace hs₁ : Heap.SameBut it hp h₁ := hs₁
 replace he₁ : IsItemIter h₁ it d (i + 1) kvs.length ep ok ov := by
  unfold IsItemIter
  rw [show ((i + 1 : Nat) : Int) = (i : Int) + 1 from by omega]; simpa [rawInt] using he₁
 have hT₁ : Shared.TypeIs ⟨h₁, g, dr, tk, os⟩ (.ref it) "dict_itemiterator" := ⟨_, he₁, rfl⟩
 refine wpAny_bind (wpAny_holding (wpAny_bind (wpAny_isOneOf_itemiter hT₁ (wpAny_bind (wpAny_isOneOf_itemiter hT₁ ?_)))))
 show wpAny _ _ (Builtin.Dict_items.pairFromOwner (.ref it) 6 es[i].key es[i].val) _ _ ⟨h₁, g, dr, tk, os⟩
 unfold Builtin.Dict_items.pairFromOwner
 refine wpAny_bind (wpAny_newTuple ?_)
 have he₂ : IsItemIter (h₁.push { cls := .type "tuple", data := .seq #[es[i].key, es[i].val] }) it d (i + 1) kvs.length ep ok ov := Heap.get?_push_of_some _ he₁
 have ht₂ : (h₁.push { cls := .type "tuple", data := .seq #[es[i].key, es[i].val] }).get? hp.objs.size = some { cls := .type "tuple", data := .seq #[es[i].key, es[i].val] } := by rw [← hs₁.1]; exact Heap.get?_push_size _ rfl
 have hk₂ : ∀ b o, b ≠ it → hp.get? b = some o → (h₁.push { cls := .type "tuple", data := .seq #[es[i].key, es[i].val] }).get? b = some o := fun b o hb e => Heap.get?_push_of_some _ (hs₁.extBut b o hb e)
 have hz₁ : h₁.objs.size = hp.objs.size := hs₁.1
 generalize h₁.push { cls := .type "tuple", data := .seq #[es[i].key, es[i].val] } = h₂ at he₂ ht₂ hk₂ ⊢
 show wpAny _ _ (Builtin.Dict_items.ownedTupleIsFree (.ref it) >>= _) _ _ ⟨h₂, g, dr, tk, os⟩
 rw [hz₁]
 refine wpAny_bind ?_
 unfold Builtin.Dict_items.ownedTupleIsFree
 refine wpAny_bind (wpAny_field he₂ rfl (x := .none) rfl (wpAny_pure ?_))
 simp only [if_true]
 refine wpAny_bind (wpAny_field he₂ rfl (x := ok) rfl (wpAny_bind (wpAny_field he₂ rfl (x := ov) rfl ?_)))
 refine wpAny_bind (wpAny_setField_rec he₂ (by simp) fun h₃ he₃ hs₃ => ?_)
 replace hs₃ : Heap.SameBut it h₂ h₃ := hs₃
 replace he₃ : IsItemIter h₃ it d (i + 1) kvs.length ep es[i].key ov := he₃
 refine wpAny_bind (wpAny_setField_rec he₃ (by simp) fun h₄ he₄ hs₄ => ?_)
 replace hs₄ : Heap.SameBut it h₃ h₄ := hs₄
 replace he₄ : IsItemIter h₄ it d (i + 1) kvs.length ep es[i].key es[i].val := he₄
 refine wpAny_bind (wpAny_setField_rec he₄ (by simp) fun h₅ he₅ hs₅ => ?_)
 replace hs₅ : Heap.SameBut it h₄ h₅ := hs₅
 replace he₅ : IsItemIterOut h₅ it d (i + 1) kvs.length ep es[i].key es[i].val hp.objs.size := he₅
 refine wpAny_bind (wpAny_setField_rec he₅ (by simp) fun h₆ he₆ hs₆ => ?_)
 replace hs₆ : Heap.SameBut it h₅ h₆ := hs₆
 replace he₆ : IsItemIterOut h₆ it d (i + 1) kvs.length ep es[i].key es[i].val hp.objs.size := he₆
 have up : ∀ b o, b ≠ it → h₂.get? b = some o → h₆.get? b = some o := fun b o hb e => hs₆.extBut b o hb (hs₅.extBut b o hb (hs₄.extBut b o hb (hs₃.extBut b o hb e)))
 refine wpAny_bind (wpAny_letGo (wpAny_pure (wpAny_pure ⟨_, rfl, wpAny_pure (hQ es[i].key h₆ hkey hPk (hval ▸ he₆) ?_ fun b o hb e => up b o hb (hk₂ b o hb e))⟩)))
 rw [← hval]; exact up _ _ (Nat.ne_of_gt hil) ht₂
theorem itemsP {elts : List Expr} {kk : Nat} {pos : Pos} (hh : A.handled = none) (I d : Addr) (hne : d ≠ I) (kvs : List (K × Value)) (ep : Nat) (od : Obj) (hP : KeyP P od) (hO : ∀ h : Heap, h.get? d = some od → h.DictAt knd d kvs ep) :
  KTurns prog w A (.Tuple elts kk pos) I [I, d] [I] kvs.length
   (fun i v h => E4 fun T key k x => A5 (v = .ref T) (kvs[i]? = some (k, x)) (knd.is k key = true) (P key) (h.IsTuple T #[key, x]))
   (fun i v h => E6 fun T key k x ok ov => A8 (v = .ref T) (kvs[i]? = some (k, x)) (knd.is k key = true) (P key) (h.IsTuple T #[key, x]) (IsItemIterOut h I d (i + 1) kvs.length ep ok ov T) (h.get? d = some od) (T ≠ I))
   (fun i h => (∃  ok ov, IsItemIter h I d i kvs.length ep ok ov) ∧ h.get? d = some od) where
 sub := fun b hb => by simp at hb; simp [hb]
 frame := fun i h h' st hk => by
  refine hide fun Dq kq => ?_; obtain ⟨⟨ok, ov, he⟩, hm⟩ := st; refine kq ?_; clear kq Dq
  exact ⟨⟨ok, ov, hk I (by k_mem) _ he⟩, hk d (by k_mem) _ hm⟩
 item := fun i s Q E hi st hQ => by
  refine hide fun Dq kq => ?_; obtain ⟨⟨ok, ov, he⟩, hm⟩ := st; refine kq ?_; clear kq Dq
  obtain ⟨⟨k, x⟩, hx⟩ : ∃ p, kvs[i]? = some p := ⟨kvs[i], by simp [hi]⟩
  refine next_itemP he hm (hO _ hm) hP hx fun key h' hkey hPk ho hT hk => ?_
  exact hQ (.ref s.heap.objs.size) h' s.toks ⟨s.heap.objs.size, key, k, x, key, x, rfl, hx, hkey, hPk, ⟨_, hT, rfl, _, rfl⟩, ho, hk d _ hne hm, Nat.ne_of_gt (Heap.lt_size he)⟩ fun b o hb e => hk b o (fun h => hb (by simp [h])) e
 go := fun i v s Q E hm hQ => by
  refine hide fun Dq kq => ?_; obtain ⟨T, key, k, x, ok, ov, rfl, hx, hkey, hPk, hT, ho, hd, hTI⟩ := hm; refine kq ?_; clear kq Dq
  refine wpAny_letOwnedTupleGo_items ho fun h' he hs => ?_
  exact hQ h' ⟨T, key, k, x, rfl, hx, hkey, hPk, hT.at fun o e => hs.extBut T o hTI e⟩ ⟨⟨ok, ov, he⟩, hs.extBut _ _ hne hd⟩ fun b o hb e => hs.extBut b o (fun h => hb (by simp [h])) e
 done := fun s Q E st hQ => by
  refine hide fun Dq kq => ?_; obtain ⟨⟨ok, ov, he⟩, hm⟩ := st; refine kq ?_; clear kq Dq
  exact wpAny_pyNext_items_end hh he (hO _ hm) (by simp) fun h' hx => hQ h' s.toks fun b o hb e => hx b o (fun h => hb (by simp [h])) e
end
section
variable {prog : Program} {w : World} {A : Around} {E : Value → Shared → Prop} {s : Shared} {env : Env} {body orelse : List Stmt} {Q : Flow → Shared → Prop} {P : Value → Prop}
theorem for_itemsP {g : Heap} {d vw : Addr} {od : Obj} {kvs : List (Str × Value)} {xi xv : Str} {pi pv pos : Pos} {kk : Nat} {m₀ : Str → Option Value} {news₀ : List (Addr × Obj)} (J : Nat → (Str → Option Value) → List (Addr × Obj) → Prop)
  (hh : A.handled = none) (hgd : g.get? d = some od) (hl : od.IsDictOf (PySem.strKind prog w) kvs) (hP : KeyP P od) (F : Fr g env.locals s.heap m₀) (N : News g env.locals s.heap news₀) (hvw : (vw, ({ cls := .type "dict_items", data := .fields #[.ref d] } : Obj)) ∈ news₀) (hj : J 0 m₀ news₀) (hxi : env.kindOf xi = some .local) (hxv : env.kindOf xv = some .local)
  (hp : (env.scope.kind == .class || (env.scope.kind == .module && env.locals != env.globals)) = false)
  (turn : ∀ i k t v m news h tk I oI, kvs[i]? = some (k, v) → P (.str k t) → J i m news → Fr g env.locals h (fun y => if y = xv then some v else if y = xi then some (.str k t) else m y) → News g env.locals h ((I, oI) :: news) → (∀ p ∈ news, p.1 ≠ I) →
   wpAny (model prog w) A (execs body env) (TurnB g env.locals s [(I, oI)] (J (i + 1)) Q) E { s with heap := h, toks := tk })
  (fin : ∀ m news h tk, J kvs.length m news → Fr g env.locals h m → News g env.locals h news → wpAny (model prog w) A (execs orelse env) Q E { s with heap := h, toks := tk }) :
  wpAny (model prog w) A (pyIter (.ref vw)) (fun it s₂ => LoopX prog w A env (.Tuple [.Name xi pi, .Name xv pv] kk pos) body orelse Q E it s₂) E s := by
 refine hide fun Dq kq => ?_; obtain ⟨es, ep, r⟩ := id hl; refine kq ?_; clear kq Dq
 have hO : ∀ h : Heap, h.get? d = some od → h.DictAt (PySem.strKind prog w) d kvs ep := fun h e => ⟨od, es, e, r⟩
 have hls := hO _ (F.keep _ _ hgd)
 have hlt : d < g.objs.size := Heap.lt_size hgd
 have hne : d ≠ s.heap.objs.size := Nat.ne_of_lt (Nat.lt_trans (Nat.lt_of_lt_of_le hlt F.above) F.ns.lt)
 refine wpAny_pyIter_items ⟨_, (N _ hvw).1, rfl, rfl⟩ hls ?_
 have W := itemsP (prog := prog) (w := w) (knd := PySem.strKind prog w) (elts := [.Name xi pi, .Name xv pv]) (kk := kk) (pos := pos) hh s.heap.objs.size d hne kvs ep od hP hO
 refine hide fun Dq kq => ?_; obtain ⟨f1, f2, f3⟩ := i_facts F N; refine kq ?_; clear kq Dq
 have hk : ∀ b o, s.heap.get? b = some o → (s.heap.push { cls := .type "dict_itemiterator", data := .fields #[.none, .bool false, .ref d, .int 0 0, .int kvs.length 0, .int ep 0, .none, .none] }).get? b = some o := fun b o e => Heap.get?_push_of_some _ e
 have hI0 : (s.heap.push { cls := .type "dict_itemiterator", data := .fields #[.none, .bool false, .ref d, .int 0 0, .int kvs.length 0, .int ep 0, .none, .none] }).get? s.heap.objs.size = some { cls := .type "dict_itemiterator", data := .fields #[.none, .bool false, .ref d, .int 0 0, .int kvs.length 0, .int ep 0, .none, .none] } := Heap.get?_push_size _ rfl
 refine ⟨s.heap.objs.size, _, _, _, _, _, _, fun i => FrJ g env.locals s [s.heap.objs.size] (J i), rfl, W, ⟨⟨.none, .none, hI0⟩, hk _ _ (F.keep _ _ hgd)⟩, ⟨_, s.toks, m₀, news₀, rfl, fr_ext F hk, news_ext N hk, ?_, hj⟩, ?_, ?_, ?_⟩
 ·intro p hp hq
  exact f1 p hp (List.mem_singleton.mp hq)
 ·intro i s' h' tk j hk
  refine j.stab ?_ ?_ hk
  ·simpa using f2
  ·intro b hb
   rw [List.mem_singleton.mp hb]; exact f3
 ·rintro i v s₁ hin ⟨T, key, k, x, rfl, hx, hkey, hPk, hT⟩ ⟨h, tk, m, news, rfl, F₁, N₁, ha, hJ⟩ hst
  refine hide fun Dq kq => ?_; obtain ⟨⟨ok, ov, he₀⟩, _⟩ := id hst; refine kq ?_; clear kq Dq
  have he' : ∃ oe : Obj, h.get? s.heap.objs.size = some oe ∧ (∀ h'' : Heap, h''.get? s.heap.objs.size = some oe → IsItemIter h'' s.heap.objs.size d (i + 1) kvs.length ep ok ov) := ⟨_, he₀, fun h'' q => q⟩
  refine hide fun Dq kq => ?_; obtain ⟨oe, he, he2⟩ := he'; refine kq ?_; clear kq Dq
  obtain ⟨t, rfl⟩ : ∃ t, key = .str k t := by
   cases key with
   | str z t => exact ⟨t, by have : (z == k) = true := hkey; rw [eq_of_beq this]⟩
   | _ => cases hkey
  have hNI : News g env.locals h ((s.heap.objs.size, oe) :: news) := fun p hp => by
   rcases List.mem_cons.mp hp with rfl | hp
   ·exact ⟨he, Ne.symm f2, f3⟩
   ·exact N₁ p hp
  have hap : ∀ p ∈ news, p.1 ≠ s.heap.objs.size := fun p hp => by simpa using ha p hp
  refine assign_pair hh hT F₁ hNI hxi hxv hp fun h₂ tk₂ F₂ N₂ => ?_
  refine wpAny_mono (turn i k t x m news h₂ tk₂ _ oe hx hPk hJ F₂ N₂ hap) (fun f s₃ h₃ => ?_) fun _ _ e => e
  have fin : (E4 fun h tk m news' => A5 (s₃ = { s with heap := h, toks := tk }) (Fr g env.locals h m) (News g env.locals h ([(s.heap.objs.size, oe)] ++ news')) ((∀ p ∈ news', ∀ q ∈ [(s.heap.objs.size, oe)], p.1 ≠ q.1)) (J (i + 1) m news')) →
    FrJ g env.locals s [s.heap.objs.size] (J (i + 1)) s₃ ∧ ((∃  ok ov, IsItemIter s₃.heap s.heap.objs.size d (i + 1) kvs.length ep ok ov) ∧ s₃.heap.get? d = some od) := by
   rintro hJq; refine hide fun Dq kq => ?_; obtain ⟨h₄, tk₃, m₃, news₃, rfl, F₃, N₃, ha₃, hJ₃⟩ := hJq; refine kq ?_; clear kq Dq
   exact ⟨⟨h₄, tk₃, m₃, news₃, rfl, F₃, fun p hp => N₃ p (.tail _ hp), fun p hp => by simpa using ha₃ p hp _ (.head _), hJ₃⟩, ⟨ok, ov, he2 _ (N₃ _ (.head _)).1⟩, F₃.keep d _ hgd⟩
  cases f with
  | next => exact fin h₃
  | cont => exact fin h₃
  | brk => exact h₃
  | ret v => exact h₃
 ·rintro s₁ hJq; refine hide fun Dq kq => ?_; obtain ⟨h, tk, m, news, rfl, F₁, N₁, ha, hJ⟩ := hJq; refine kq ?_; clear kq Dq
  exact fin m news h tk hJ F₁ N₁
end

end
section
section
variable {prog : Program} {w : World} {A : Around} {E : Value → Shared → Prop} {s : Shared} {P : Value → Prop}
theorem dictSetP {d : Addr} {o : Obj} {kvs : List (Str × Value)} {k : Str} {t : Tok} {v : Value} {Q : Unit → Shared → Prop} (ho : s.heap.get? d = some o) (hdo : o.IsDictOf (PySem.strKind prog w) kvs) (hP : KeyP P o) (hPk : P (.str k t)) (hnot : k ∉ kvs.map (·.1)) (hz : kvs.length < 1000)
  (hQ : ∀ h' o', h'.get? d = some o' → o'.IsDictOf (PySem.strKind prog w) (kvs ++ [(k, v)]) → KeyP P o' → Heap.SameBut d s.heap h' → Q () { s with heap := h', toks := s.toks + 1 }) : wpAny (model prog w) A (dictSet d (.str k t) v) Q E s := by
 refine hide fun Dq kq => ?_; obtain ⟨es, ep, hc, hd, hk, hp, hn⟩ := id hdo; refine kq ?_; clear kq Dq
 refine hide fun Dq kq => ?_; obtain ⟨es', ep', hd', hPe⟩ := hP; refine kq ?_; clear kq Dq
 rw [hd] at hd'
 injection hd' with e1 e2
 subst e1
 have hkey : (PySem.strKind prog w).is k (.str k t) = true := strKind_is _ _ _ _
 have hes : es.size ≤ sizeLine := by
  have e1 := hp.length
  have e2 : es.toList.length = es.size := by simp
  rw [sizeLine_eq]; omega
 have hidx : (es.findIdx? fun e => (PySem.strKind prog w).is k e.key) = none := by
  have : (es.findIdx? fun e => (PySem.strKind prog w).is k e.key) = kvs.findIdx? fun kv => decide (kv.1 = k) := by
   rw [← hp.findIdx k]; obtain ⟨l⟩ := es; simp
  rw [this, List.findIdx?_eq_none_iff]
  intro kv hkv
  simp only [decide_eq_false_iff_not]
  exact fun e => hnot (e ▸ List.mem_map_of_mem hkv)
 unfold dictSet
 try with_reducible refine wpAny_holding ?_
 refine wpAny_bind ((PySem.strKind prog w).pyHash hkey ?_)
 unfold dictSetHashed
 try with_reducible refine wpAny_holding ?_
 refine wpAny_bind (wpAny_dictFind_of (s := { s with toks := s.toks + 1 }) hkey ho hd hk ?_)
 rw [hidx]
 refine wpAny_bind (wpAny_rule (wpAny_updateDictKeys (hz := hes) (s := { s with toks := s.toks + 1 }) ho hd (hQ _ _ (Heap.get?_update_self _ ho (Obj.isFreed_of_dict (Obj.data_mapDictKeys hd _))) ⟨_, _, hc.mapDictKeys _, Obj.data_mapDictKeys hd _, hk.push hkey _, ?_, ?_⟩ ⟨_, _, Obj.data_mapDictKeys hd _, ?_⟩ (Heap.SameBut.update ..))))
 ·have := hp.append hkey ((PySem.strKind prog w).hash k) v
  obtain ⟨l⟩ := es
  simpa using this
 ·rw [List.map_append, List.nodup_append]
  refine ⟨hn, by simp, ?_⟩
  intro a ha b hb e
  simp only [List.map_cons, List.map_nil, List.mem_singleton] at hb
  exact hnot (by rw [← hb, ← e]; exact ha)
 ·intro e he
  simp only [Array.toList_push, List.mem_append, List.mem_singleton] at he
  rcases he with he | rfl
  ·exact hPe e he
  ·exact hPk
abbrev tagVs (l : List (Str × Tok × Value)) : List (Value × Value) := l.map fun p => (Value.str p.1 p.2.1, p.2.2)
abbrev tagKvs (l : List (Str × Tok × Value)) : List (Str × Value) := l.map fun p => (p.1, p.2.2)
theorem storeAllP {d : Addr} : ∀ (l : List (Str × Tok × Value)) (acc : List (Str × Value)) (s : Shared) (o : Obj) (Q : PUnit → Shared → Prop), s.heap.get? d = some o → o.IsDictOf (PySem.strKind prog w) acc → KeyP P o → (∀ p ∈ l, P (.str p.1 p.2.1)) → (acc.map (·.1) ++ l.map (·.1)).Nodup → acc.length + l.length < 1000 →
  (∀ h' o', h'.get? d = some o' → o'.IsDictOf (PySem.strKind prog w) (acc ++ tagKvs l) → KeyP P o' → Heap.SameBut d s.heap h' → Q PUnit.unit { s with heap := h', toks := s.toks + l.length }) →
  wpAny (model prog w) A (forIn (tagVs l) PUnit.unit fun (x : Value × Value) (_ : PUnit) => (do dictSet d x.1 x.2; pure (ForInStep.yield PUnit.unit) : Sem (ForInStep PUnit))) Q E s
 | [], acc, s, o, Q, ho, hd, hP, _, _, _, hQ => by
  show wpAny _ _ (forIn [] _ _) _ _ _
  rw [List.forIn_nil]
  exact wpAny_pure (hQ s.heap o ho (by simpa [tagKvs] using hd) hP (Heap.SameBut.refl _ _))
 | (k, t, v) :: l, acc, s, o, Q, ho, hd, hP, hPl, hn, hz, hQ => by
  show wpAny _ _ (forIn ((Value.str k t, v) :: tagVs l) _ _) _ _ _
  rw [List.forIn_cons]
  have hnk : k ∉ acc.map (·.1) := fun hm => by
   rw [List.nodup_append] at hn
   exact hn.2.2 k hm k (by simp) rfl
  refine wpAny_bind (wpAny_bind (dictSetP ho hd hP (hPl _ (.head _)) hnk (by simp at hz; omega) fun h₁ o₁ ho₁ hd₁ hP₁ hs₁ => wpAny_pure ?_))
  refine storeAllP l (acc ++ [(k, v)]) _ o₁ Q ho₁ hd₁ hP₁ (fun p hp => hPl p (.tail _ hp)) (by simpa using hn) (by simp at hz ⊢; omega) fun h' o' ho' hd' hP' hs' => ?_
  have := hQ h' o' ho' (by simpa [tagKvs] using hd') hP' (hs₁.trans hs')
  simpa [Nat.add_assoc, Nat.add_comm 1] using this
def DspP (prog : Program) (w : World) (d : Addr) (Q : Value → Shared → Prop) (vs : List (Value × Value)) (s₁ : Shared) : Prop :=
 ∃ (l : List (Str × Tok × Value)), A5 (vs = tagVs l) (s₁.heap.get? d = some { cls := .type "dict", data := .dict #[] }) ((l.map (·.1)).Nodup) (l.length < 900) (∀ h' o', h'.get? d = some o' → o'.IsDictOf (PySem.strKind prog w) (tagKvs l) → KeyP (fun v => ∃ p ∈ l, v = .str p.1 p.2.1) o' → Heap.SameBut d s₁.heap h' → Q (.ref d) { s₁ with heap := h', toks := s₁.toks + l.length })
theorem dsp_eval {env : Env} {h₀ : Heap} {L : Addr} {m : Str → Option Value} {news : List (Addr × Obj)} {keys : List (Option PySem.Expr)} {values : List PySem.Expr} {pos : Pos} {Q : Value → Shared → Prop} (F : Fr h₀ L s.heap m) (N : News h₀ L s.heap news) (hbig : h₀.NoLimit)
  (hall : keys.all (·.isSome) = true) (hl : keys.length = values.length) (h0 : keys ≠ []) (hlen : keys.length ≤ 15)
  (h : ∀ (d : Addr) h', Fr h₀ L h' m → News h₀ L h' ((d, { cls := .type "dict", data := .dict #[] }) :: news) → (∀ p ∈ news, p.1 < d) → (d == sysModules) = false →
   wpAny (model prog w) A (evalPairs (pairTrees keys values env pos)) (fun vs s₁ => DspP prog w d Q vs s₁) E { s with heap := h' }) :
  wpAny (model prog w) A (eval (.Dict keys values pos) env) Q E s := by
 have hn := pairTrees_length keys values env pos hall hl
 have hne : pairTrees keys values env pos ≠ [] := fun he => by
  rw [he] at hn
  exact h0 (List.length_eq_zero_iff.mp hn.symm)
 rw [arm_eval_Dict, zip_pairTrees keys values env pos hall hl, dictDisplay_pairs _ hne (by rw [hn]; omega)]
 refine wpAny_bind (wpAny_standAt (wpAny_bind ?_))
 unfold subDict
 refine wpAny_bind (wpAny_alloc ?_)
 refine wpAny_bind (wpAny_holding ?_)
 rw [if_pos (by rw [hn]; exact hlen)]
 refine wpAny_bind (wpAny_mono (h s.heap.objs.size _ (F.push _) (News.push F N _ rfl) (fun p hp => Heap.lt_size (N p hp).1) (F.notModules (modules_low hbig))) (fun vs s₁ h₁ => ?_) fun _ _ e => e)
 refine hide fun Dq kq => ?_; obtain ⟨l, rfl, ho, hnd, hll, hQ⟩ := h₁; refine kq ?_; clear kq Dq
 refine wpAny_holding ?_
 refine wpAny_bind (storeAllP (P := fun v => ∃ p ∈ l, v = .str p.1 p.2.1) l [] s₁ _ _ ho ?_ ⟨#[], 0, rfl, fun e he => nomatch he⟩ (fun p hp => ⟨p, hp, rfl⟩) (by simpa using hnd) (by simp; omega) fun h' o' ho' hd' hP' hs' => wpAny_pure (wpAny_pure (wpAny_pure (hQ h' o' ho' (by simpa using hd') hP' hs'))))
 refine hide fun Dq kq => ?_; obtain ⟨o₁, ho₁, hd₁⟩ := Heap.dictOf_iff.mp (Heap.DictOf.new (knd := PySem.strKind prog w) s.heap); refine kq ?_; clear kq Dq
 have : (s.heap.push { cls := .type "dict", data := .dict #[] }).get? s.heap.objs.size = some { cls := .type "dict", data := .dict #[] } := Heap.get?_push_size _ rfl
 rw [this] at ho₁
 rw [Option.some.inj ho₁]; exact hd₁
end

end
section
def swapAt (xs : List Str) (k : Nat) : List Str := (xs.set k (xs.getD (k + 1) Str.empty)).set (k + 1) (xs.getD k Str.empty)
theorem fresh_of {s g h : Heap} {L : Addr} {news : List (Addr × Obj)} (S : Sub s g []) (N : News g L h news) {p : Addr × Obj} (hp : p ∈ news) : s.get? p.1 = none := by
 cases q : s.get? p.1 with
 | none => rfl
 | some o => have := S.out _ _ q nN; rw [(N p hp).2.2] at this; cases this
theorem item_ex {prog : Program} {w : World} {A : Around} {E : Value → Shared → Prop} {s : Shared} {h₀ : Heap} {L l : Addr} {news : List (Addr × Obj)} {value slice : PySem.Expr} {vs : List Value} {n : Nat} {k : Int} {t : Tok} {v : Value} {Q : Value → Shared → Prop} (N : News h₀ L s.heap news) (hm : (l, listOf vs.toArray n) ∈ news) (hk : 0 ≤ k) (hv : vs[k.toNat]? = some v) (hz : vs.length < 1000) (h : Q v s)
  (hs : subscripted slice false (.ref l) (.int k t) = operate [.ref l, .int k t] (getItem (.ref l) (.int k t)) := by with_unfolding_all rfl) : wpAny (model prog w) A (subscriptTail value slice (.ref l) (.int k t)) Q E s := by
 have hl := PySem.IsL.isList (n := n) (N _ hm).1
 have hlt : k.toNat < vs.length := by
  rcases Nat.lt_or_ge k.toNat vs.length with z | z
  ·exact z
  ·rw [List.getElem?_eq_none z] at hv; cases hv
 exact tail_any hl.typeIs slot_list_getitem.lookup (wpAny_getItem_list hl hk (by omega) (by simpa using hv) h) hs
section
local macro_rules | `(tactic| walk_at "call ref") => `(tactic| (with_reducible refine hold_call 35 ?_))
local macro_rules | `(tactic| walk_at "call ref") => `(tactic| (with_reducible refine hold_call 49 ?_))
local macro_rules | `(tactic| walk_at "subscriptTail Name Name ref int") => `(tactic| (k_here; k_dflt (first | refine item_ex (by k_asm) (by k_mem) (by omega) ‹_ = some (Value.str _ _)› (by assumption) ?_ | fail "item")))
theorem changed_spec {w : World} {dp un : Nat} {fr : List Env} {s : Shared} {Q E : Value → Shared → Prop} {l : Addr} {tk : Tok} {k : Int} {vs : List Value} {xs : List Str}
 (C : Cx w fr s.heap []) (hd : dp + 10 < recursionLimit) (hu : un + 200 < cLine)
 (hl : s.heap.IsList l vs.toArray) (hx : StrsAre vs xs) (hk : 0 ≤ k) (hk5 : k + 1 < xs.length) (h8 : xs.length < 100)
 (hret : ∀ (r : Addr) (h' : Heap) (tk' n' : Nat) (vs' : List Value), Keep s.heap h' [] → s.heap.get? r = none → h'.get? r = some (listOf vs'.toArray n') → StrsAre vs' (swapAt xs k.toNat) → (∀ v ∈ vs', v ∈ vs) → Q (.ref r) { s with heap := h', toks := tk' }) :
 wpAny (model Pg w) (Ar dp un fr) (call (.ref 216) [.ref l, .int k tk]) Q E s := by
 revert w dp un fr s Q E l tk k vs xs
 refine @(pk12 (((w00, δ), (δ, (s00, δ))), δ) ?_)
 generalize z12 _ _ = Z; generalize Z.1.1.1 = w, Z.1.1.2.1 = dp, Z.1.1.2.2 = un, Z.1.2.1 = fr, Z.1.2.2.1 = s, Z.1.2.2.2 = Q, Z.2.1.1 = E, Z.2.1.2.1 = l, Z.2.1.2.2 = tk, Z.2.2.1 = k, Z.2.2.2.1 = vs, Z.2.2.2.2 = xs
 intro C hd hu hl hx hk hk5 h8 hret
 k_dflt (refine' enter (binds := [(Str.ofString "order", .ref l), (Str.ofString "k", .int k tk)]) ?C ?N ?k6 ?k7 ?k8 ?k9 ?kB ?_ ?c2 ?c3 ?c4 ?c5; walk_at "m_in")
 refine @(pk9 δ ?_); generalize z9 _ _ = Z; generalize Z.1.1.1 = g, Z.1.1.2 = L', Z.1.2.1 = h₁, Z.1.2.2 = base, Z.2.1.1 = p, Z.2.1.2 = loose, Z.2.2.1 = mean, Z.2.2.2.1 = mg, Z.2.2.2.2 = mb; intro BO F N B X T S hlt hL
 have hlg : g.IsList l vs.toArray := hl.at fun o e => S.out _ _ e nN
 have hvl := hx.length
 have hvz : vs.length < 1000 := by omega
 obtain ⟨x0, u0, e0, hv0⟩ : E2 fun x t => xs[k.toNat]? = some x ∧ vs[k.toNat]? = some (.str x t) := by
  have hq : vs[k.toNat]? = some vs[k.toNat] := List.getElem?_eq_getElem (by omega)
  refine hide fun Dq kq => ?_; obtain ⟨x, t, a, b⟩ := strs_at hx hq; refine kq ?_; clear kq Dq
  exact ⟨x, t, a, b ▸ hq⟩
 obtain ⟨x1, u1, e1, hv1⟩ : E2 fun x t => xs[(k + 1).toNat]? = some x ∧ vs[(k + 1).toNat]? = some (.str x t) := by
  have hq : vs[(k + 1).toNat]? = some vs[(k + 1).toNat] := List.getElem?_eq_getElem (by omega)
  refine hide fun Dq kq => ?_; obtain ⟨x, t, a, b⟩ := strs_at hx hq; refine kq ?_; clear kq Dq
  exact ⟨x, t, a, b ▸ hq⟩
 k_steps
 refine Hold.mk (wpAny_call ?_); k_dflt (refine' code_defN ?k1 ?k2 ?k3 ?k4 ?k5 ?kA ?kF ?kK ?k6 ?k7 ?k8 ?k9 ?kB ?_ ?c2 ?c3 ?c4 ?c5; (case kA => exact rfl); (case kF => exact rfl); (case kK => exact rfl); (case k1 => k_asm); (case k2 => k_asm); (case k3 => k_asm); (case k4 => k_asm); (case k5 => k_asm); (case k6 => k_is); (case k7 => k_is); (case k8 => ktr_room); (case k9 => exact BindsTo.of_eq rfl); (case c5 => decide); (case kB => exact locs rfl); (case c2 => exact rfl); (case c3 => exact rfl); (case c4 => exact rfl); k_whole; intro g' L' h' tk' FG' F' N' B' X' T'; (try dsimp only); (try k_lift B'); (try (have hDl' := bd_lift FG' (by assumption))); (try (have hLl' := li_lift FG' (by assumption))); (try k_fold))
 k_steps
 refine Hold.mk (wpAny_call ?_); k_dflt (refine' code_defN ?k1 ?k2 ?k3 ?k4 ?k5 ?kA ?kF ?kK ?k6 ?k7 ?k8 ?k9 ?kB ?_ ?c2 ?c3 ?c4 ?c5; (case kA => exact rfl); (case kF => exact rfl); (case kK => exact rfl); (case k1 => k_asm); (case k2 => k_asm); (case k3 => k_asm); (case k4 => k_asm); (case k5 => k_asm); (case k6 => k_is); (case k7 => k_is); (case k8 => ktr_room); (case k9 => exact BindsTo.of_eq rfl); (case c5 => decide); (case kB => exact locs rfl); (case c2 => exact rfl); (case c3 => exact rfl); (case c4 => exact rfl); k_whole; intro g' L' h' tk' FG' F' N' B' X' T'; (try dsimp only); (try k_lift B'); (try (have hDl' := bd_lift FG' (by assumption))); (try (have hLl' := li_lift FG' (by assumption))); (try k_fold))
 k_steps
 refine Hold.mk (wpAny_call ?_); k_dflt (refine' code_defN ?k1 ?k2 ?k3 ?k4 ?k5 ?kA ?kF ?kK ?k6 ?k7 ?k8 ?k9 ?kB ?_ ?c2 ?c3 ?c4 ?c5; (case kA => exact rfl); (case kF => exact rfl); (case kK => exact rfl); (case k1 => k_asm); (case k2 => k_asm); (case k3 => k_asm); (case k4 => k_asm); (case k5 => k_asm); (case k6 => k_is); (case k7 => k_is); (case k8 => ktr_room); (case k9 => exact BindsTo.of_eq rfl); (case c5 => decide); (case kB => exact locs rfl); (case c2 => exact rfl); (case c3 => exact rfl); (case c4 => exact rfl); k_whole; intro g' L' h' tk' FG' F' N' B' X' T'; (try dsimp only); (try k_lift B'); (try (have hDl' := bd_lift FG' (by assumption))); (try (have hLl' := li_lift FG' (by assumption))); (try k_fold))
 k_steps
 refine Hold.mk (wpAny_call ?_); k_dflt (refine' code_defN ?k1 ?k2 ?k3 ?k4 ?k5 ?kA ?kF ?kK ?k6 ?k7 ?k8 ?k9 ?kB ?_ ?c2 ?c3 ?c4 ?c5; (case kA => exact rfl); (case kF => exact rfl); (case kK => exact rfl); (case k1 => k_asm); (case k2 => k_asm); (case k3 => k_asm); (case k4 => k_asm); (case k5 => k_asm); (case k6 => k_is); (case k7 => k_is); (case k8 => ktr_room); (case k9 => exact BindsTo.of_eq rfl); (case c5 => decide); (case kB => exact locs rfl); (case c2 => exact rfl); (case c3 => exact rfl); (case c4 => exact rfl); k_whole; intro g' L' h' tk' FG' F' N' B' X' T'; (try dsimp only); (try k_lift B'); (try (have hDl' := bd_lift FG' (by assumption))); (try (have hLl' := li_lift FG' (by assumption))); (try k_fold))
 k_steps
 show Q (.ref _) _
 have e : (k + 1).toNat = k.toNat + 1 := by omega
 refine hret _ _ _ _ ((vs.set k.toNat (Value.str x1 u1)).set (k + 1).toNat (Value.str x0 u0)) (S.keep (by assumption)) (fresh_of S (by assumption) (List.Mem.head _)) (News.get (by assumption) (List.Mem.head _)) ?_ ?_
 ·unfold swapAt
  have z0 : xs.getD k.toNat Str.empty = x0 := by simp [List.getD, e0]
  have z1 : xs.getD (k.toNat + 1) Str.empty = x1 := by rw [← e]; simp [List.getD, e1]
  rw [z0, z1, ← e]; assumption
 ·intro v hv
  rcases List.mem_or_eq_of_mem_set hv with hv | rfl
  ·rcases List.mem_or_eq_of_mem_set hv with hv | rfl
   ·exact hv
   ·exact List.mem_of_getElem? hv1
  ·exact List.mem_of_getElem? hv0
end

end
section
section
variable {prog : Program} {w : World} {A : Around} {E : Value → Shared → Prop} {s : Shared} {env : Env} {target : Expr} {body orelse : List Stmt} {Q : Flow → Shared → Prop}
theorem for_KT {I : Addr} {fp wr : List Addr} {n : Nat} {P Md : Nat → Value → Heap → Prop} {St : Nat → Heap → Prop} (W : KTurns prog w A target I fp wr n P Md St) (J : Nat → Shared → Prop)
  (hst : St 0 s.heap) (h0 : J 0 s)
  (stab : ∀ i (s' : Shared) h' tk, J i s' → s'.toks ≤ tk → (∀ b o, b ∉ wr → s'.heap.get? b = some o → h'.get? b = some o) → J i { s' with heap := h', toks := tk })
  (step : ∀ i v s₁, i < n → P i v s₁.heap → J i s₁ → St (i + 1) s₁.heap →
   wpAny (model prog w) A (assign target env v) (fun _ s₂ => wpAny (model prog w) A (execs body env) (TurnK (fun s₃ => J (i + 1) s₃ ∧ St (i + 1) s₃.heap) Q) E s₂) E s₁)
  (fin : ∀ s₁, J n s₁ → wpAny (model prog w) A (execs orelse env) Q E s₁)
  (hE : PassesOwn (model prog w) A env E) :
  codeAny (model prog w) A (.forLoop target (.ref I) body orelse env) (fun r s' => match r with | .ok f => Q f s' | .error e => cameBackBy (model prog w) A env E e s') s := by
 refine codeAny_forLoop_any (fun k s' => ∃ i, A4 (St i s'.heap) (J i s') (i ≤ n) (k = n + 1 - i)) ?_ (n + 1) ⟨0, hst, h0, Nat.zero_le _, rfl⟩
 rintro k s' hJq; refine hide fun Dq kq => ?_; obtain ⟨i, hst', hJ, hi, rfl⟩ := hJq; refine kq ?_; clear kq Dq
 by_cases hlt : i < n
 ·refine wpAny_tk s'.toks (Nat.le_refl _) (W.item i _ _ _ hlt hst' fun v h₁ tk₁ hMd hk₁ hn₁ => ?_)
  refine W.go i v _ _ _ hMd fun h₂ hP hst₂ hk₂ => ?_
  have J₂ := stab i s' h₂ tk₁ hJ hn₁ fun b o hb x => hk₂ b o hb (hk₁ b o hb x)
  refine wpAny_mono (step i v _ hlt hP J₂ hst₂) (fun _ s₂ h₂' => wpAny_mono (wpAny_passesOwn hE h₂') (fun f s₃ h₃ => ?_) fun _ _ e => e) hE
  cases f with
  | ret v => exact h₃
  | brk => exact h₃
  | cont => exact ⟨n + 1 - (i + 1), by omega, i + 1, h₃.2, h₃.1, hlt, rfl⟩
  | next => exact ⟨n + 1 - (i + 1), by omega, i + 1, h₃.2, h₃.1, hlt, rfl⟩
 ·have hin : i = n := by omega
  subst hin
  refine wpAny_tk s'.toks (Nat.le_refl _) (W.done _ _ _ hst' fun h₁ tk₁ hk₁ hn₁ => ?_)
  exact wpAny_passesOwn hE (fin _ (stab i s' h₁ tk₁ hJ hn₁ hk₁))
def FrT (g : Heap) (L : Addr) (s₀ : Shared) (wr : List Addr) (J : (Str → Option Value) → List (Addr × Obj) → Nat → Prop) (s : Shared) : Prop :=
 E4 fun h tk m news => A5 (s = { s₀ with heap := h, toks := tk }) (Fr g L h m) (News g L h news) ((∀ p ∈ news, p.1 ∉ wr)) (J m news tk)
theorem FrT.stab {g : Heap} {L : Addr} {s₀ : Shared} {wr : List Addr} {J : (Str → Option Value) → List (Addr × Obj) → Nat → Prop} {s : Shared} {h' : Heap} {tk : Nat} (hmono : ∀ m news tk tk', tk ≤ tk' → J m news tk → J m news tk') (hn : s.toks ≤ tk) (hL : L ∉ wr) (hw : ∀ b ∈ wr, g.get? b = none) (j : FrT g L s₀ wr J s)
  (hk : ∀ b o, b ∉ wr → s.heap.get? b = some o → h'.get? b = some o) : FrT g L s₀ wr J { s with heap := h', toks := tk } := by
 refine hide fun Dq kq => ?_; obtain ⟨h, tk', m, news, rfl, F, N, ha, hJ⟩ := j; refine kq ?_; clear kq Dq
 refine ⟨h', tk, m, news, rfl, ⟨F.ns.at' fun o e => hk _ o hL e, fun b o e => hk b o (fun q => ?_) (F.keep b o e), F.above⟩, fun p hp => ⟨hk _ _ (ha p hp) (N p hp).1, (N p hp).2⟩, ha, hmono _ _ _ _ hn hJ⟩
 have := hw b q; rw [e] at this; cases this
def TurnT (g : Heap) (L : Addr) (s₀ : Shared) (own : List (Addr × Obj)) (J : (Str → Option Value) → List (Addr × Obj) → Nat → Prop) (Q : Flow → Shared → Prop) (f : Flow) (s : Shared) : Prop := match f with
 | .next => E4 fun h tk m news => A5 (s = { s₀ with heap := h, toks := tk }) (Fr g L h m) (News g L h (own ++ news)) ((∀ p ∈ news, ∀ q ∈ own, p.1 ≠ q.1)) (J m news tk)
 | .cont => E4 fun h tk m news => A5 (s = { s₀ with heap := h, toks := tk }) (Fr g L h m) (News g L h (own ++ news)) ((∀ p ∈ news, ∀ q ∈ own, p.1 ≠ q.1)) (J m news tk)
 | .brk => Q .next s
 | .ret v => Q (.ret v) s
abbrev LoopXT (prog : Program) (w : World) (A : Around) (env : Env) (target : Expr) (body orelse : List Stmt) (Q : Flow → Shared → Prop) (E : Value → Shared → Prop) (it : Value) (s₂ : Shared) : Prop :=
 E8 fun (I : Addr) (fp wr : List Addr) (n : Nat) (P Md : Nat → Value → Heap → Prop) (St : Nat → Heap → Prop) (J : Nat → Shared → Prop) => A7 (it = .ref I) (KTurns prog w A target I fp wr n P Md St) (St 0 s₂.heap) (J 0 s₂) ((∀ i (s' : Shared) h' tk, J i s' → s'.toks ≤ tk → (∀ b o, b ∉ wr → s'.heap.get? b = some o → h'.get? b = some o) → J i { s' with heap := h', toks := tk })) ((∀ i v s₁, i < n → P i v s₁.heap → J i s₁ → St (i + 1) s₁.heap →
     wpAny (model prog w) A (assign target env v) (fun _ s₂ => wpAny (model prog w) A (execs body env) (TurnK (fun s₃ => J (i + 1) s₃ ∧ St (i + 1) s₃.heap) Q) E s₂) E s₁)) (∀ s₁, J n s₁ → wpAny (model prog w) A (execs orelse env) Q E s₁)
theorem For_T {iter : Expr} {pos : Pos}
  (h : wpAny (model prog w) A (eval iter env) (fun xv s₁ => Hold (wpAny (model prog w) A (pyIter xv) (fun it s₂ => LoopXT prog w A env target body orelse Q E it s₂) E s₁)) E s)
  (hs : ∀ x, foldedSetIterable iter env x = pure x := by intro _; rfl)
  (hE : PassesOwn (model prog w) A env E := by passes_own) :
  wpAny (model prog w) A (exec (.For target iter body orelse pos) env) Q E s := by
 refine wpAny_For (wpAny_mono h (fun xv s₁ h₁ => wpAny_mono h₁.out (fun it s₂ h₂ => ?_) fun _ _ e => e) fun _ _ e => e) hs
 refine hide fun Dq kq => ?_; obtain ⟨I, fp, wr, n, P, Md, St, J, rfl, W, hst, h0, stab, step, fin⟩ := h₂; refine kq ?_; clear kq Dq
 exact for_KT W J hst h0 stab step fin hE
theorem for_walkT {g : Heap} {I c : Addr} {n : Nat} {P : Nat → Value → Prop} {St : Nat → Heap → Prop} {x : Str} {px : Pos} {m₀ : Str → Option Value} {news₀ : List (Addr × Obj)} (J : Nat → (Str → Option Value) → List (Addr × Obj) → Nat → Prop) (hmono : ∀ i m news tk tk', tk ≤ tk' → J i m news tk → J i m news tk') (s₀ : Shared)
  (W : Walks prog w A I [I, c] [I] n P St) (R : Nat → Obj → Prop) (hS1 : ∀ i h, St i h → ∃ o, h.get? I = some o ∧ R i o) (hS2 : ∀ i (h : Heap) o, (∀ b o, g.get? b = some o → h.get? b = some o) → h.get? I = some o → R i o → St i h)
  (hs : E2 fun h tk => s = { s₀ with heap := h, toks := tk })
  (hst : St 0 s.heap) (F : Fr g env.locals s.heap m₀) (N : News g env.locals s.heap news₀) (hI : ∀ p ∈ news₀, p.1 ≠ I) (hLI : env.locals ≠ I) (hgI : g.get? I = none) (hj : J 0 m₀ news₀ s.toks) (hx : env.kindOf x = some .local)
  (hp : (env.scope.kind == .class || (env.scope.kind == .module && env.locals != env.globals)) = false)
  (turn : ∀ i v m news h tk oI, i < n → P i v → J i m news tk → Fr g env.locals h (fun y => if y = x then some v else m y) → News g env.locals h ((I, oI) :: news) → (∀ p ∈ news, p.1 ≠ I) →
   wpAny (model prog w) A (execs body env) (TurnT g env.locals s₀ [(I, oI)] (J (i + 1)) Q) E { s₀ with heap := h, toks := tk })
  (fin : ∀ m news h tk, J n m news tk → Fr g env.locals h m → News g env.locals h news → wpAny (model prog w) A (execs orelse env) Q E { s₀ with heap := h, toks := tk }) :
  LoopXT prog w A env (.Name x px) body orelse Q E (.ref I) s := by
 refine hide fun Dq kq => ?_; obtain ⟨h₀, tk₀, rfl⟩ := hs; refine kq ?_; clear kq Dq
 refine ⟨I, _, _, n, _, _, _, fun i => FrT g env.locals s₀ [I] (J i), rfl, KTurns.ofWalks W (by intro i v s Q E _ hq; exact wpAny_pure hq), hst, ⟨_, _, m₀, news₀, rfl, F, N, fun p hp => by simpa using hI p hp, hj⟩, ?_, ?_, ?_⟩
 ·intro i s' h' tk j hn hk
  exact j.stab (hmono i) hn (by simp [hLI]) (by intro b hb; rw [List.mem_singleton.mp hb]; exact hgI) hk
 ·rintro i v s₁ hin hP ⟨h, tk, m, news, rfl, F₁, N₁, ha, hJ⟩ hst
  refine hide fun Dq kq => ?_; obtain ⟨oI, hoI, hR⟩ := hS1 _ _ hst; refine kq ?_; clear kq Dq
  have hNI : News g env.locals h ((I, oI) :: news) := fun p hp => by
   rcases List.mem_cons.mp hp with rfl | hp
   ·exact ⟨hoI, Ne.symm hLI, hgI⟩
   ·exact N₁ p hp
  refine wpAny_tk tk (Nat.le_refl _) (wpAny_assign_Name (wpAny_storeName_local hx F₁.ns (fun h₂ hn₂ hs₂ hn₃ => ?_) hp))
  refine wpAny_mono (turn i v m news h₂ _ oI hin hP (hmono _ _ _ _ _ hn₃ hJ) (F₁.set hn₂ hs₂) (hNI.set hs₂) fun p hp => by simpa using ha p hp) (fun f s₃ h₃ => ?_) fun _ _ e => e
  have fin : (E4 fun h tk m news' => A5 (s₃ = { s₀ with heap := h, toks := tk }) (Fr g env.locals h m) (News g env.locals h ([(I, oI)] ++ news')) ((∀ p ∈ news', ∀ q ∈ [(I, oI)], p.1 ≠ q.1)) (J (i + 1) m news' tk)) →
    FrT g env.locals s₀ [I] (J (i + 1)) s₃ ∧ St (i + 1) s₃.heap := by
   rintro hJq; refine hide fun Dq kq => ?_; obtain ⟨h₄, tk₃, m₃, news₃, rfl, F₃, N₃, ha₃, hJ₃⟩ := hJq; refine kq ?_; clear kq Dq
   refine ⟨⟨h₄, tk₃, m₃, news₃, rfl, F₃, fun p hp => N₃ p (.tail _ hp), fun p hp => by simpa using ha₃ p hp _ (.head _), hJ₃⟩, hS2 _ _ oI F₃.keep (N₃ _ (.head _)).1 hR⟩
  cases f with
  | next => exact fin h₃
  | cont => exact fin h₃
  | brk => exact h₃
  | ret v => exact h₃
 ·rintro s₁ hJq; refine hide fun Dq kq => ?_; obtain ⟨h, tk, m, news, rfl, F₁, N₁, ha, hJ⟩ := hJq; refine kq ?_; clear kq Dq
  exact fin m news h tk hJ F₁ N₁
theorem for_baseT {g : Heap} {l : Addr} {vs : List Value} {x : Str} {px : Pos} {m₀ : Str → Option Value} {news₀ : List (Addr × Obj)} (J : Nat → (Str → Option Value) → List (Addr × Obj) → Nat → Prop) (hmono : ∀ i m news tk tk', tk ≤ tk' → J i m news tk → J i m news tk')
  (hh : A.handled = none) (hl : g.IsList l vs.toArray) (F : Fr g env.locals s.heap m₀) (N : News g env.locals s.heap news₀) (hj : J 0 m₀ news₀ s.toks) (hx : env.kindOf x = some .local)
  (hp : (env.scope.kind == .class || (env.scope.kind == .module && env.locals != env.globals)) = false)
  (turn : ∀ i v m news h tk I oI, vs[i]? = some v → J i m news tk → Fr g env.locals h (fun y => if y = x then some v else m y) → News g env.locals h ((I, oI) :: news) → (∀ p ∈ news, p.1 ≠ I) →
   wpAny (model prog w) A (execs body env) (TurnT g env.locals s [(I, oI)] (J (i + 1)) Q) E { s with heap := h, toks := tk })
  (fin : ∀ m news h tk, J vs.length m news tk → Fr g env.locals h m → News g env.locals h news → wpAny (model prog w) A (execs orelse env) Q E { s with heap := h, toks := tk }) :
  wpAny (model prog w) A (pyIter (.ref l)) (fun it s₂ => LoopXT prog w A env (.Name x px) body orelse Q E it s₂) E s := by
 have hls : s.heap.IsList l vs.toArray := hl.at fun o e => F.keep l o e
 refine hide fun Dq kq => ?_; obtain ⟨ol, hol, _⟩ := id hl; refine kq ?_; clear kq Dq
 have hlt : l < g.objs.size := Heap.lt_size hol
 have hne : l ≠ s.heap.objs.size := Nat.ne_of_lt (Nat.lt_trans (Nat.lt_of_lt_of_le hlt F.above) F.ns.lt)
 refine wpAny_pyIter_list hls ?_
 have W := Walks.list (prog := prog) (w := w) hh s.heap.objs.size l hne vs.toArray
 have hlen : vs.toArray.size = vs.length := by simp
 rw [hlen] at W
 refine hide fun Dq kq => ?_; obtain ⟨f1, f2, f3⟩ := i_facts F N; refine kq ?_; clear kq Dq
 refine for_walkT J hmono s W (fun i o => o.cls = .type "list_iterator" ∧ o.data = .fields #[.ref l, .int i 0]) (fun i h st => by obtain ⟨⟨o, a, b, c⟩, _⟩ := st; exact ⟨o, a, b, c⟩) (fun i h o k a b => ⟨⟨o, a, b.1, b.2⟩, hl.at fun o e => k l o e⟩) ⟨_, s.toks, rfl⟩
  ⟨⟨_, Heap.get?_push_size _ rfl, rfl, rfl⟩, hls.at fun o e => Heap.get?_push_of_some _ e⟩ (F.push _) (fun p hp => ⟨Heap.get?_push_of_some _ (N p hp).1, (N p hp).2⟩) f1 f2 f3 hj hx hp ?_ fin
 intro i v m news h tk oI hi hP hJ F' N' ha
 exact turn i v m news h tk _ oI (by simpa using hP) hJ F' N' ha
end

end
section
structure TkLo (n tk : Nat) : Prop where
 out : n ≤ tk
theorem TkLo.le {n a b : Nat} (h : TkLo n a) (e : a ≤ b) : TkLo n b := ⟨Nat.le_trans h.out e⟩
theorem gen_lo {α : Type} {M : Model} {A : Around} {t : Sem α} {Q : α → Shared → Prop} {E : Value → Shared → Prop} {h : Heap} {g : Array GenState} {d : Drawn} {X n : Nat} {os : OsState} (hn : TkLo n X) (k : ∀ tk, TkLo n tk → wpAny M A t Q E ⟨h, g, d, tk, os⟩) : wpAny M A t Q E ⟨h, g, d, X, os⟩ := k X hn

end
section
section
variable {prog : Program} {w : World} {A : Around} {E : Value → Shared → Prop} {s : Shared} {env : Env} {target : Expr} {body orelse : List Stmt} {Q : Flow → Shared → Prop}
theorem for_walkL {g : Heap} {I c : Addr} {n : Nat} {P : Nat → Value → Prop} {St : Nat → Heap → Prop} {x : Str} {px : Pos} {m₀ : Str → Option Value} {news₀ : List (Addr × Obj)} (J : Nat → (Str → Option Value) → List (Addr × Obj) → Prop) (s₀ : Shared)
  (W : Walks prog w A I [I, c] [I] n P St) (R : Nat → Obj → Prop) (hS1 : ∀ i h, St i h → ∃ o, h.get? I = some o ∧ R i o) (hS2 : ∀ i (h : Heap) o m news, J i m news → (∀ b o, g.get? b = some o → h.get? b = some o) → News g env.locals h news → h.get? I = some o → R i o → St i h)
  (hs : E2 fun h tk => s = { s₀ with heap := h, toks := tk })
  (hst : St 0 s.heap) (F : Fr g env.locals s.heap m₀) (N : News g env.locals s.heap news₀) (hI : ∀ p ∈ news₀, p.1 ≠ I) (hLI : env.locals ≠ I) (hgI : g.get? I = none) (hj : J 0 m₀ news₀) (hx : env.kindOf x = some .local)
  (hp : (env.scope.kind == .class || (env.scope.kind == .module && env.locals != env.globals)) = false)
  (turn : ∀ i v m news h tk oI, i < n → P i v → J i m news → Fr g env.locals h (fun y => if y = x then some v else m y) → News g env.locals h ((I, oI) :: news) → (∀ p ∈ news, p.1 ≠ I) →
   wpAny (model prog w) A (execs body env) (TurnB g env.locals s₀ [(I, oI)] (J (i + 1)) Q) E { s₀ with heap := h, toks := tk })
  (fin : ∀ m news h tk, J n m news → Fr g env.locals h m → News g env.locals h news → wpAny (model prog w) A (execs orelse env) Q E { s₀ with heap := h, toks := tk }) :
  LoopX prog w A env (.Name x px) body orelse Q E (.ref I) s := by
 refine hide fun Dq kq => ?_; obtain ⟨h₀, tk₀, rfl⟩ := hs; refine kq ?_; clear kq Dq
 refine ⟨I, _, _, n, _, _, _, fun i => FrJ g env.locals s₀ [I] (J i), rfl, KTurns.ofWalks W (by intro i v s Q E _ hq; exact wpAny_pure hq), hst, ⟨_, _, m₀, news₀, rfl, F, N, fun p hp => by simpa using hI p hp, hj⟩, ?_, ?_, ?_⟩
 ·intro i s' h' tk j hk
  exact j.stab (by simp [hLI]) (by intro b hb; rw [List.mem_singleton.mp hb]; exact hgI) hk
 ·rintro i v s₁ hin hP ⟨h, tk, m, news, rfl, F₁, N₁, ha, hJ⟩ hst
  refine hide fun Dq kq => ?_; obtain ⟨oI, hoI, hR⟩ := hS1 _ _ hst; refine kq ?_; clear kq Dq
  have hNI : News g env.locals h ((I, oI) :: news) := fun p hp => by
   rcases List.mem_cons.mp hp with rfl | hp
   ·exact ⟨hoI, Ne.symm hLI, hgI⟩
   ·exact N₁ p hp
  refine wpAny_assign_Name (wpAny_storeName_local hx F₁.ns (fun h₂ hn₂ hs₂ => ?_) hp)
  refine wpAny_mono (turn i v m news h₂ _ oI hin hP hJ (F₁.set hn₂ hs₂) (hNI.set hs₂) fun p hp => by simpa using ha p hp) (fun f s₃ h₃ => ?_) fun _ _ e => e
  have fin : (E4 fun h tk m news' => A5 (s₃ = { s₀ with heap := h, toks := tk }) (Fr g env.locals h m) (News g env.locals h ([(I, oI)] ++ news')) ((∀ p ∈ news', ∀ q ∈ [(I, oI)], p.1 ≠ q.1)) (J (i + 1) m news')) →
    FrJ g env.locals s₀ [I] (J (i + 1)) s₃ ∧ St (i + 1) s₃.heap := by
   rintro hJq; refine hide fun Dq kq => ?_; obtain ⟨h₄, tk₃, m₃, news₃, rfl, F₃, N₃, ha₃, hJ₃⟩ := hJq; refine kq ?_; clear kq Dq
   refine ⟨⟨h₄, tk₃, m₃, news₃, rfl, F₃, fun p hp => N₃ p (.tail _ hp), fun p hp => by simpa using ha₃ p hp _ (.head _), hJ₃⟩, hS2 _ _ oI m₃ news₃ hJ₃ F₃.keep (fun p hp => N₃ p (.tail _ hp)) (N₃ _ (.head _)).1 hR⟩
  cases f with
  | next => exact fin h₃
  | cont => exact fin h₃
  | brk => exact h₃
  | ret v => exact h₃
 ·rintro s₁ hJq; refine hide fun Dq kq => ?_; obtain ⟨h, tk, m, news, rfl, F₁, N₁, ha, hJ⟩ := hJq; refine kq ?_; clear kq Dq
  exact fin m news h tk hJ F₁ N₁
theorem for_tup {g : Heap} {T : Addr} {vs : List Value} {x : Str} {px : Pos} {m₀ : Str → Option Value} {news₀ : List (Addr × Obj)} (J : Nat → (Str → Option Value) → List (Addr × Obj) → Prop)
  (hh : A.handled = none) (hT : ∀ i m news, J i m news → (T, tupOf vs) ∈ news) (F : Fr g env.locals s.heap m₀) (N : News g env.locals s.heap news₀) (hj : J 0 m₀ news₀) (hx : env.kindOf x = some .local)
  (hp : (env.scope.kind == .class || (env.scope.kind == .module && env.locals != env.globals)) = false)
  (turn : ∀ i v m news h tk I oI, vs[i]? = some v → J i m news → Fr g env.locals h (fun y => if y = x then some v else m y) → News g env.locals h ((I, oI) :: news) → (∀ p ∈ news, p.1 ≠ I) →
   wpAny (model prog w) A (execs body env) (TurnB g env.locals s [(I, oI)] (J (i + 1)) Q) E { s with heap := h, toks := tk })
  (fin : ∀ m news h tk, J vs.length m news → Fr g env.locals h m → News g env.locals h news → wpAny (model prog w) A (execs orelse env) Q E { s with heap := h, toks := tk }) :
  wpAny (model prog w) A (pyIter (.ref T)) (fun it s₂ => LoopX prog w A env (.Name x px) body orelse Q E it s₂) E s := by
 have hls : s.heap.IsTuple T vs.toArray := ⟨_, (N _ (hT _ _ _ hj)).1, rfl, 0, rfl⟩
 have hne : T ≠ s.heap.objs.size := Nat.ne_of_lt (Heap.lt_size (N _ (hT _ _ _ hj)).1)
 refine wpAny_pyIter_tuple hls ?_
 have W := Walks.tuple (prog := prog) (w := w) hh s.heap.objs.size T hne vs.toArray
 have hlen : vs.toArray.size = vs.length := by simp
 rw [hlen] at W
 refine hide fun Dq kq => ?_; obtain ⟨f1, f2, f3⟩ := i_facts F N; refine kq ?_; clear kq Dq
 refine for_walkL J s W (fun i o => ∀ h : Heap, h.get? s.heap.objs.size = some o → h.IsTupleIter s.heap.objs.size T i) (fun i h st => ?_) (fun i h o m news hJ k N' a b => ⟨b h a, ⟨_, (N' _ (hT _ _ _ hJ)).1, rfl, 0, rfl⟩⟩) ⟨_, s.toks, rfl⟩
  ⟨⟨_, Heap.get?_push_size _ rfl, rfl, rfl⟩, hls.push _⟩ (F.push _) (fun p hp => ⟨Heap.get?_push_of_some _ (N p hp).1, (N p hp).2⟩) f1 f2 f3 hj hx hp ?_ fin
 ·refine hide fun Dq kq => ?_; obtain ⟨⟨o, a, b⟩, _⟩ := st; refine kq ?_; clear kq Dq
  exact ⟨o, a, fun h' e => ⟨o, e, b⟩⟩
 ·intro i v m news h tk oI hi hP hJ F' N' ha
  exact turn i v m news h tk _ oI (by simpa using hP) hJ F' N' ha
end

end
section
structure Flown (h : Heap) (e T : Addr) (cls : Value) : Prop where
 exc : E2 fun o vs => A4 (h.get? e = some o) (o.cls = cls) (o.data = .fields vs) (vs[1]? = some (.ref T))
 tb : E2 fun o ts => A4 (h.get? T = some o) (o.data = .fields ts) (3 < ts.size) (ts[3]? = some .none)
 ne : T ≠ e
section
variable {M : Model} {A : Around} {E : Value → Shared → Prop} {s : Shared}
theorem flight_end {S : List Addr} {h₀ : Heap} {e T : Addr} {cls : Value} {Q : Unit → Shared → Prop} (N : Noted S h₀ s.heap e T cls) (h : ∀ h', Noted S h₀ h' e T cls → Flown h' e T cls → Q () { s with heap := h' }) : wpAny M A (setFlight (.ref e) none) Q E s := by
 refine hide fun Dq kq => ?_; obtain ⟨k, sl, ⟨oe, vs, he, hc, hd, h1⟩, ⟨oT, ts, hT, hdT, hz⟩, hn, hne⟩ := N; refine kq ?_; clear kq Dq
 unfold setFlight
 refine wpAny_bind (wpAny_field he hd h1 ?_)
 rw [if_pos (show (Value.ref T != Value.none) = true from by simp)]
 have nT : ∀ b o, h₀.get? b = some o → b ≠ T := fun b o q z => by rw [z, hn] at q; cases q
 have hdT' := Obj.data_mapFields hdT (·.setIfInBounds 3 ((none : Option Addr).elim Value.none fun f => rawInt f))
 have he' : (s.heap.update T (Obj.mapFields (·.setIfInBounds 3 ((none : Option Addr).elim Value.none fun f => rawInt f)))).get? e = some oe := by rw [Heap.get?_update_other _ _ hne]; exact he
 have hT' := Heap.get?_update_self (Obj.mapFields (·.setIfInBounds 3 ((none : Option Addr).elim Value.none fun f => rawInt f))) hT (Obj.isFreed_of_fields hdT')
 refine wpAny_setField hT hdT hz (h _ ⟨fun b o hbe hbS hb => ?_, fun b o hbe hb => ?_, ⟨oe, vs, he', hc, hd, h1⟩, ⟨_, _, hT', hdT', by simpa using hz⟩, hn, hne⟩ ⟨⟨oe, vs, he', hc, hd, h1⟩, ⟨_, _, hT', hdT', by simpa using hz, by simp [hz]⟩, hne⟩)
 ·rw [Heap.get?_update_other _ _ (Ne.symm (nT b o hb))]; exact k b o hbe hbS hb
 ·obtain ⟨l, q⟩ := sl b o hbe hb
  exact ⟨l, by rw [Heap.get?_update_other _ _ (Ne.symm (nT b o hb))]; exact q⟩
theorem note_more {base : Heap} {env : Env} {fr : List Env} {L e T : Addr} {cls : Value} {Q : Unit → Shared → Prop}
  (hfr : A.frames = some (env :: fr)) (hl : s.heap.FunFrames base (env :: fr)) (hf : env.frame = some L) (X : Flown s.heap e T cls)
  (h : ∀ h₁ h' T', (∀ b o, b ≠ T → s.heap.get? b = some o → h₁.get? b = some o) → h₁.objs.size = s.heap.objs.size → Noted ((env :: fr).filterMap (·.frame)) h₁ h' e T' cls → Q () { s with heap := h' }) : wpAny M A (noteFrame (.ref e) env) Q E s := by
 refine hide fun Dq kq => ?_; obtain ⟨⟨oe, vs, he, hc, hd, h1⟩, ⟨oT, ts, hT, hdT, hz, h3⟩, hne⟩ := X; refine kq ?_; clear kq Dq
 have hsz : 1 < vs.size := (Array.getElem?_eq_some_iff.mp h1).1
 unfold noteFrame
 simp only [hf]
 refine wpAny_bind (wpAny_field he hd h1 ?_)
 rw [if_pos (show (Value.ref T != Value.none) = true from by simp)]
 refine wpAny_bind (wpAny_field hT hdT h3 ?_)
 rw [if_neg (by simp [rawInt])]
 have hdT' := Obj.data_mapFields hdT (·.setIfInBounds 3 Value.none)
 refine wpAny_bind (wpAny_setField hT hdT hz ?_)
 have hTn : T ∉ (env :: fr).filterMap (·.frame) := fun hm => by
  refine hide fun Dq kq => ?_; obtain ⟨_, o, ho, hnf⟩ := hl.mem hm; refine kq ?_; clear kq Dq
  rw [hT] at ho; injection ho with ho; subst ho; exact hnf ts hdT
 have hoth : ∀ b, b ≠ T → (s.heap.update T (Obj.mapFields (·.setIfInBounds 3 Value.none))).get? b = s.heap.get? b := fun b hb => Heap.get?_update_other _ _ (Ne.symm hb)
 have hl' : (s.heap.update T (Obj.mapFields (·.setIfInBounds 3 Value.none))).FunFrames base (env :: fr) := hl.of_keeps fun b o q hb => ⟨o, by rw [hoth b fun z => hb ts (by rw [z, hT] at q; cases q; exact hdT)]; exact q, rfl⟩
 have heu := (hoth e (Ne.symm hne)).trans he
 have hsu : (s.heap.update T (Obj.mapFields (·.setIfInBounds 3 Value.none))).objs.size = s.heap.objs.size := Heap.size_update ..
 have hk1 : ∀ b o, b ≠ T → s.heap.get? b = some o → (s.heap.update T (Obj.mapFields (·.setIfInBounds 3 Value.none))).get? b = some o := fun b o hb q => (hoth b hb).trans q
 generalize s.heap.update T (Obj.mapFields (·.setIfInBounds 3 Value.none)) = h₀ at *
 have hene : e ∉ (env :: fr).filterMap (·.frame) := fun hm => by
  refine hide fun Dq kq => ?_; obtain ⟨_, o, ho, hnf⟩ := hl.mem hm; refine kq ?_; clear kq Dq
  rw [he] at ho; injection ho with ho; subst ho; exact hnf vs hd
 refine wpAny_bind (wpAny_frameOf_fun (s := { s with heap := h₀ }) hfr hl' hf fun h₁ hs₁ => ?_)
 refine wpAny_bind (wpAny_entryPlaceOf fun pl hpl => ?_)
 unfold EntryCells.newEntry newFields
 refine wpAny_bind (wpAny_newObj_type ?_ (hpl.sizeOk5 _ _ _ _ _))
 have he₁ : h₁.get? e = some oe := (hs₁.2.1 e hene).trans heu
 have he₂ := Heap.get?_push_of_some (h := h₁) { cls := .type "traceback", dict := none, data := .fields ([Value.ref T, .ref L, .none, rawInt L, .none] ++ (if pl.isEmpty then List.replicate 6 Value.none else pl)).toArray } he₁
 refine wpAny_setField he₂ hd hsz ?_
 have hTe : h₁.objs.size ≠ e := Nat.ne_of_gt (Heap.lt_size he₁)
 have hd₃ := Obj.data_mapFields hd (·.setIfInBounds 1 (Value.ref h₁.objs.size))
 refine h h₀ _ h₁.objs.size hk1 hsu ⟨fun b o hbe hbS hb => ?_, fun b o hbe hb => ?_, ⟨_, _, Heap.get?_update_self _ he₂ (Obj.isFreed_of_fields hd₃), (Obj.cls_mapFields ..).trans hc, hd₃, by simp [hsz]⟩, ?_, ?_, hTe⟩
 ·rw [Heap.get?_update_other _ _ (Ne.symm hbe)]
  exact Heap.get?_push_of_some _ ((hs₁.2.1 b hbS).trans hb)
 ·obtain ⟨sl, q⟩ := hs₁.2.2 b o hb
  exact ⟨sl, by rw [Heap.get?_update_other _ _ (Ne.symm hbe)]; exact Heap.get?_push_of_some _ q⟩
 ·refine ⟨_, _, by rw [Heap.get?_update_other _ _ (Ne.symm hTe)]; exact Heap.get?_push_size h₁ rfl, rfl, ?_⟩
  simp only [List.size_toArray, List.length_append, List.length_cons, List.length_nil]; omega
 ·rw [hs₁.1]; exact Heap.get?_none_of_le (Nat.le_refl _)
theorem leave_X {base : Heap} {env : Env} {fr : List Env} {L e : Addr} {oe : Obj} {vs : Array Value} {Q : Unit → Shared → Prop}
  (hfr : A.frames = some (env :: fr)) (hl : s.heap.FunFrames base (env :: fr)) (hf : env.frame = some L)
  (he : s.heap.get? e = some oe) (hd : oe.data = .fields vs) (h1 : vs[1]? = some .none)
  (h : ∀ h' T, Noted ((env :: fr).filterMap (·.frame)) s.heap h' e T oe.cls → Flown h' e T oe.cls → Q () { s with heap := h' }) : wpAny M A (leaving env (.ref e)) Q E s := by
 unfold leaving
 refine wpAny_bind (note_new hfr hl hf he hd h1 fun h₁ T z => ?_)
 exact flight_end (s := { s with heap := h₁ }) z fun h₂ z₂ f => h h₂ T z₂ f
end
section
variable {prog : Program} {w : World} {A : Around} {E : Value → Shared → Prop} {s : Shared}
theorem caught_FR {X T : String} {g base : Heap} {env : Env} {fr : List Env} {L e Tb : Addr} {m : Str → Option Value} {news frs : List (Addr × Obj)} {t : Expr} {b₀ : Stmt} {suite : List Stmt} {pos : Pos} {rest : List ExceptHandler} {Q : Flow → Shared → Prop}
  (hfr : A.frames = some (env :: fr)) (hf : env.frame = some L) (hk : env.scope.kind = .function) (F : Fr g L s.heap m) (N : News g L s.heap (news ++ frs)) (hF : Frs base fr frs) (st : base.StaysIn g) (hap : ∀ p ∈ news, ∀ q ∈ frs, q.1 ≠ p.1) (hx : Flown s.heap e Tb (.type X))
  (hen : ∀ b ∈ [e, Tb], g.get? b = none ∧ b ≠ L ∧ ∀ p ∈ news ++ frs, p.1 ≠ b)
  (hexc : isSubtype (.type T) (.type "BaseException") = pure true) (hnt : isSubtype (.type ((Manifest.find? T).elim "type" fun x => x.metatype)) (.type "tuple") = pure false) (hsub : isSubtype (.type X) (.type T) = pure true)
  (ht : ∀ (s' : Shared) (Q' : Value → Shared → Prop) (E' : Value → Shared → Prop), Fr g L s'.heap m → Q' (.type T) s' → wpAny (model prog w) (A.mark (some (.ref e))) (eval t env) Q' E' s')
  (k : ∀ h' frs', Fr g L h' m → News g L h' (news ++ frs') → SlR frs frs' → wpAny (model prog w) (A.mark (some (.ref e))) (execs (b₀ :: suite) env) Q (fun _ _ => False) { s with heap := h' }) :
  wpAny (model prog w) A (noteFrame (.ref e) env) (fun _ s₂ => wpAny (model prog w) A (setFlight (.ref e) none) (fun _ s₃ => wpAny (model prog w) A (handleBy (.ref e) env (.ExceptHandler (some t) none (b₀ :: suite) pos :: rest)) Q E s₃) E s₂) E s := by
 have hLb : base.get? L = none := by
  cases q : base.get? L with
  | none => rfl
  | some o => exact absurd (Heap.lt_size (st L o q)) (Nat.not_lt.mpr F.above)
 have hfun : s.heap.FunFrames base (env :: fr) := by
  refine ⟨by rw [hk]; decide, ?_, hF.funFrames fun p hp => (N p (List.mem_append_right _ hp)).1⟩
  refine hide fun Dq kq => ?_; obtain ⟨oL, es, ep, hL, hdL, _⟩ := F.ns; refine kq ?_; clear kq Dq
  exact ⟨L, oL, hf, hLb, hL, fun vs q => by rw [hdL] at q; cases q⟩
 have he := hen e (by k_mem)
 have hT := hen Tb (by k_mem)
 have hSin : ∀ b, b ∈ (env :: fr).filterMap (·.frame) → b = L ∨ ∃ p ∈ frs, p.1 = b := fun b hb => by
  rw [List.filterMap_cons, hf] at hb
  rcases List.mem_cons.mp hb with rfl | hb
  ·exact .inl rfl
  ·exact .inr (hF.key hb)
 refine note_more hfr hfun hf hx fun h₁ h₂ T' hk₁ hs₁ z₁ => ?_
 have Fs : Fr g L h₁ m := ⟨F.ns.at' fun o q => hk₁ _ o (Ne.symm hT.2.1) q, fun b o q => hk₁ b o (fun z => by rw [z, hT.1] at q; cases q) (F.keep b o q), F.above⟩
 have Ns : News g L h₁ (news ++ frs) := fun p hp => ⟨hk₁ _ _ (hT.2.2 p hp) (N p hp).1, (N p hp).2⟩
 have done : ∀ h' T', Noted ((env :: fr).filterMap (·.frame)) h₁ h' e T' (.type X) → ∃ frs', A3 (Fr g L h' m) (News g L h' (news ++ frs')) (SlR frs frs') := fun h' T' z => by
  refine hide fun Dq kq => ?_; obtain ⟨frs', x, q⟩ := slR_of (h' := h') (fun p hp => (Ns p (List.mem_append_right _ hp)).1) (fun p hp o ho => z.slots p.1 o (he.2.2 p (List.mem_append_right _ hp)) ho); refine kq ?_; clear kq Dq
  refine ⟨frs', ⟨?_, fun b o q' => z.keep b o (fun y => by rw [y, he.1] at q'; cases q') (fun hb => ?_) (Fs.keep b o q'), F.above⟩, fun p hp => ?_, x⟩
  ·refine hide fun Dq kq => ?_; obtain ⟨oL, es, ep, hL, hdL, r⟩ := Fs.ns; refine kq ?_; clear kq Dq
   obtain ⟨sl, q'⟩ := z.slots L oL (Ne.symm he.2.1) hL
   exact ⟨_, es, ep, q', hdL, r⟩
  ·rcases hSin b hb with rfl | ⟨p, hp, rfl⟩
   ·exact absurd (Heap.lt_size q') (Nat.not_lt.mpr F.above)
   ·rw [(N p (List.mem_append_right _ hp)).2.2] at q'; cases q'
  ·rcases List.mem_append.mp hp with hp | hp
   ·refine ⟨z.keep p.1 p.2 (he.2.2 p (List.mem_append_left _ hp)) (fun hb => ?_) (Ns p (List.mem_append_left _ hp)).1, (N p (List.mem_append_left _ hp)).2⟩
    rcases hSin _ hb with e' | ⟨q', hq, e'⟩
    ·exact (N p (List.mem_append_left _ hp)).2.1 e'
    ·exact hap p hp q' hq e'
   ·refine ⟨q p hp, ?_⟩
    have hkk : p.1 ∈ frs.map (·.1) := by rw [← x.keys]; exact List.mem_map_of_mem hp
    refine hide fun Dq kq => ?_; obtain ⟨p', hp', e'⟩ := List.mem_map.mp hkk; refine kq ?_; clear kq Dq
    rw [← e']; exact (N p' (List.mem_append_right _ hp')).2
 refine flight_new (s := { s with heap := h₂ }) z₁ fun h₃ z₃ => ?_
 refine wpAny_handleBy_builtin (b := true) hexc hnt hsub ?_
 refine hide fun Dq kq => ?_; obtain ⟨frs₂, F₂, N₂, x₂⟩ := done h₃ T' z₃; refine kq ?_; clear kq Dq
 refine ht _ _ _ F₂ ⟨rfl, ?_, ?_⟩
 ·refine hide fun Dq kq => ?_; obtain ⟨o, vs, a, b, _⟩ := z₃.exc; refine kq ?_; clear kq Dq
  exact ⟨o, a, b⟩
 ·rw [if_pos rfl]
  refine flight_new (s := { s with heap := h₃ }) z₃ fun h₄ z₄ => ?_
  refine hide fun Dq kq => ?_; obtain ⟨frs₃, F₃, N₃, x₃⟩ := done h₄ T' z₄; refine kq ?_; clear kq Dq
  exact wpAny_E (k h₄ frs₃ F₃ N₃ x₃)
end

end
section
section
variable {prog : Program} {w : World} {A : Around} {E : Value → Shared → Prop} {s : Shared} {env : Env} {target : Expr} {body orelse : List Stmt} {Q : Flow → Shared → Prop}
theorem for_walkR {g : Heap} {I : Addr} {fp : List Addr} {n : Nat} {P : Nat → Value → Prop} {St : Nat → Heap → Prop} {x : Str} {px : Pos} {m₀ : Str → Option Value} {news₀ : List (Addr × Obj)} (J : Nat → (Str → Option Value) → List (Addr × Obj) → Prop) (s₀ : Shared)
  (W : Walks prog w A I fp [I] n P St) (R : Nat → Obj → Prop) (hS1 : ∀ i h, St i h → ∃ o, h.get? I = some o ∧ R i o) (hS2 : ∀ i (h : Heap) o, (∀ b o, g.get? b = some o → h.get? b = some o) → h.get? I = some o → R i o → St i h)
  (hs : E2 fun h tk => s = { s₀ with heap := h, toks := tk })
  (hst : St 0 s.heap) (F : Fr g env.locals s.heap m₀) (N : News g env.locals s.heap news₀) (hI : ∀ p ∈ news₀, p.1 ≠ I) (hLI : env.locals ≠ I) (hgI : g.get? I = none) (hj : J 0 m₀ news₀) (hx : env.kindOf x = some .local)
  (hp : (env.scope.kind == .class || (env.scope.kind == .module && env.locals != env.globals)) = false)
  (turn : ∀ i v m news h tk oI, i < n → P i v → J i m news → Fr g env.locals h (fun y => if y = x then some v else m y) → News g env.locals h ((I, oI) :: news) → (∀ p ∈ news, p.1 ≠ I) →
   wpAny (model prog w) A (execs body env) (TurnB g env.locals s₀ [(I, oI)] (J (i + 1)) Q) E { s₀ with heap := h, toks := tk })
  (fin : ∀ m news h tk, J n m news → Fr g env.locals h m → News g env.locals h news → wpAny (model prog w) A (execs orelse env) Q E { s₀ with heap := h, toks := tk }) :
  LoopX prog w A env (.Name x px) body orelse Q E (.ref I) s := by
 refine hide fun Dq kq => ?_; obtain ⟨h₀, tk₀, rfl⟩ := hs; refine kq ?_; clear kq Dq
 refine ⟨I, _, _, n, _, _, _, fun i => FrJ g env.locals s₀ [I] (J i), rfl, KTurns.ofWalks W (by intro i v s Q E _ hq; exact wpAny_pure hq), hst, ⟨_, _, m₀, news₀, rfl, F, N, fun p hp => by simpa using hI p hp, hj⟩, ?_, ?_, ?_⟩
 ·intro i s' h' tk j hk
  exact j.stab (by simp [hLI]) (by intro b hb; rw [List.mem_singleton.mp hb]; exact hgI) hk
 ·rintro i v s₁ hin hP ⟨h, tk, m, news, rfl, F₁, N₁, ha, hJ⟩ hst
  refine hide fun Dq kq => ?_; obtain ⟨oI, hoI, hR⟩ := hS1 _ _ hst; refine kq ?_; clear kq Dq
  have hNI : News g env.locals h ((I, oI) :: news) := fun p hp => by
   rcases List.mem_cons.mp hp with rfl | hp
   ·exact ⟨hoI, Ne.symm hLI, hgI⟩
   ·exact N₁ p hp
  refine wpAny_assign_Name (wpAny_storeName_local hx F₁.ns (fun h₂ hn₂ hs₂ => ?_) hp)
  refine wpAny_mono (turn i v m news h₂ _ oI hin hP hJ (F₁.set hn₂ hs₂) (hNI.set hs₂) fun p hp => by simpa using ha p hp) (fun f s₃ h₃ => ?_) fun _ _ e => e
  have fin : (E4 fun h tk m news' => A5 (s₃ = { s₀ with heap := h, toks := tk }) (Fr g env.locals h m) (News g env.locals h ([(I, oI)] ++ news')) ((∀ p ∈ news', ∀ q ∈ [(I, oI)], p.1 ≠ q.1)) (J (i + 1) m news')) →
    FrJ g env.locals s₀ [I] (J (i + 1)) s₃ ∧ St (i + 1) s₃.heap := by
   rintro hJq; refine hide fun Dq kq => ?_; obtain ⟨h₄, tk₃, m₃, news₃, rfl, F₃, N₃, ha₃, hJ₃⟩ := hJq; refine kq ?_; clear kq Dq
   refine ⟨⟨h₄, tk₃, m₃, news₃, rfl, F₃, fun p hp => N₃ p (.tail _ hp), fun p hp => by simpa using ha₃ p hp _ (.head _), hJ₃⟩, hS2 _ _ oI F₃.keep (N₃ _ (.head _)).1 hR⟩
  cases f with
  | next => exact fin h₃
  | cont => exact fin h₃
  | brk => exact h₃
  | ret v => exact h₃
 ·rintro s₁ hJq; refine hide fun Dq kq => ?_; obtain ⟨h, tk, m, news, rfl, F₁, N₁, ha, hJ⟩ := hJq; refine kq ?_; clear kq Dq
  exact fin m news h tk hJ F₁ N₁
theorem for_range {g : Heap} {r : Addr} {a b : Int} {t u v : Tok} {n : Nat} {x : Str} {px : Pos} {m₀ : Str → Option Value} {news₀ : List (Addr × Obj)} (J : Nat → (Str → Option Value) → List (Addr × Obj) → Prop)
  (hh : A.handled = none) (hr : IsRange s.heap r a b 1 t u v) (hsm : Builtin.Range.small a b 1 = true) (hn : Builtin.Range.rangeSize a b 1 = ((n : Nat) : Int)) (F : Fr g env.locals s.heap m₀) (N : News g env.locals s.heap news₀) (hj : J 0 m₀ news₀) (hx : env.kindOf x = some .local)
  (hp : (env.scope.kind == .class || (env.scope.kind == .module && env.locals != env.globals)) = false)
  (turn : ∀ i tv m news h tk I oI, i < n → J i m news → Fr g env.locals h (fun y => if y = x then some (.int (a + (i : Nat)) tv) else m y) → News g env.locals h ((I, oI) :: news) → (∀ p ∈ news, p.1 ≠ I) →
   wpAny (model prog w) A (execs body env) (TurnB g env.locals s [(I, oI)] (J (i + 1)) Q) E { s with heap := h, toks := tk })
  (fin : ∀ m news h tk, J n m news → Fr g env.locals h m → News g env.locals h news → wpAny (model prog w) A (execs orelse env) Q E { s with heap := h, toks := tk }) :
  wpAny (model prog w) A (pyIter (.ref r)) (fun it s₂ => LoopX prog w A env (.Name x px) body orelse Q E it s₂) E s := by
 refine wpAny_pyIter_range hr hsm ?_
 have W := LCg.range_walks (prog := prog) (w := w) (A := A) (I := s.heap.objs.size) hh a n
 refine hide fun Dq kq => ?_; obtain ⟨f1, f2, f3⟩ := i_facts F N; refine kq ?_; clear kq Dq
 refine for_walkR J s W (fun i o => ∀ h : Heap, h.get? s.heap.objs.size = some o → IsRangeIter h s.heap.objs.size _ _ _) (fun i h st => ⟨_, st, fun h' e => e⟩) (fun i h o k a b => b h a) ⟨_, s.toks, rfl⟩
  ?_ (F.push _) (fun p hp => ⟨Heap.get?_push_of_some _ (N p hp).1, (N p hp).2⟩) f1 f2 f3 hj hx hp ?_ fin
 ·show IsRangeIter _ _ _ _ _
  rw [hn]; simpa using Heap.get?_push_size _ rfl
 ·rintro i v m news h tk oI hi ⟨tv, rfl⟩ hJ F' N' ha
  exact turn i tv m news h tk _ oI hi hJ F' N' ha
end

end
section
section
variable {prog : Program} {w : World} {A : Around} {E : Value → Shared → Prop} {s : Shared} {h₀ : Heap} {L : Addr} {m : Str → Option Value} {env : Env}
def CompJ (prog : Program) (w : World) (A : Around) (h₀ : Heap) (L : Addr) (m : Str → Option Value) (env : Env) (elt : Expr) (x : Str) (scope : Scope) (cl : List (Str × Addr)) (Q : Value → Shared → Prop) (s₂ : Shared) (S : List (Addr × Obj) → Prop) (P : Nat → Value → Prop) (n : Nat) (news : List (Addr × Obj)) : Prop :=
 ∃ J : Nat → List Value → List (Addr × Obj) → Nat → Prop, A4 ((∀ i ys nw tk tk', tk ≤ tk' → J i ys nw tk → J i ys nw tk')) (J 0 [] news s₂.toks) ((∀ i ys nw v I oI C oC D m₂ h tk (E' : Value → Shared → Prop), i < n → J i ys nw tk → P i v → LCg.NsObj oC m₂ → m₂ x = some v → Fr h₀ L h m → News h₀ L h ((I, oI) :: (C, oC) :: (D, LCg.lst ys) :: nw) → LCg.Off3 I C D nw → ((@Ne Nat I C) ∧ (@Ne Nat I D) ∧ (@Ne Nat C D)) →
   wpAny (model prog w) A (eval elt (compEnvC scope cl C env)) (fun y s₄ => E3 fun h' tk' nw' => A6 (s₄ = { s₂ with heap := h', toks := tk' }) (Fr h₀ L h' m) (News h₀ L h' ((I, oI) :: (C, oC) :: (D, LCg.lst ys) :: nw')) (LCg.Off3 I C D nw') (S nw') (J (i + 1) (ys ++ [y]) nw' tk')) E' { s₂ with heap := h, toks := tk })) ((∀ ys nw tk, J n ys nw tk → ∀ D h, Fr h₀ L h m → News h₀ L h ((D, LCg.lst ys) :: nw) → LCg.Off1 D nw → Q (.ref D) { s₂ with heap := h, toks := tk }))
theorem block_J {elt iter : Expr} {x : Str} {px : Pos} {scope : Scope} {cl : List (Str × Addr)} {pos : Pos} {s₂ : Shared} {I : Addr} {fp : List Addr} {n : Nat} {P : Nat → Value → Prop} {St : Nat → Heap → Prop} {S : List (Addr × Obj) → Prop} {news : List (Addr × Obj)}
  {RR : Value → Addr → Result → Shared → Prop} (J : Nat → List Value → List (Addr × Obj) → Nat → Prop) (hmono : ∀ i ys nw tk tk', tk ≤ tk' → J i ys nw tk → J i ys nw tk')
  (W : Walks prog w A I fp [I] n P St) (hsz : n ≤ sizeLine) (hIo : ∀ i h, St i h → ∃ o, h.get? I = some o)
  (hSt : ∀ i h h' o nw, St i h → h.get? I = some o → h'.get? I = some o → (∀ b o, h₀.get? b = some o → h'.get? b = some o) → News h₀ L h' nw → S nw → St i h')
  (hcell : ∀ y ∈ scope.names, y.2 ≠ .cell) (hkind : scope.kind = .function) (hx : scope.names.lookup x = some .local) (hst : St 0 s₂.heap) (hfp : ∀ b ∈ fp, b < s₂.heap.objs.size)
  (F : Fr h₀ L s₂.heap m) (N : News h₀ L s₂.heap news) (hIL : L ≠ I) (hI₀ : h₀.get? I = none) (off : ∀ p ∈ news, p.1 ≠ I) (hS : S news) (hJ : J 0 [] news s₂.toks)
  (turn : ∀ i ys nw v I oI C oC D m₂ h tk (E' : Value → Shared → Prop), i < n → J i ys nw tk → P i v → LCg.NsObj oC m₂ → m₂ x = some v → Fr h₀ L h m → News h₀ L h ((I, oI) :: (C, oC) :: (D, LCg.lst ys) :: nw) → LCg.Off3 I C D nw → ((@Ne Nat I C) ∧ (@Ne Nat I D) ∧ (@Ne Nat C D)) →
   wpAny (model prog w) A (eval elt (compEnvC scope cl C env)) (fun y s₄ => E3 fun h' tk' nw' => A6 (s₄ = { s₂ with heap := h', toks := tk' }) (Fr h₀ L h' m) (News h₀ L h' ((I, oI) :: (C, oC) :: (D, LCg.lst ys) :: nw')) (LCg.Off3 I C D nw') (S nw') (J (i + 1) (ys ++ [y]) nw' tk')) E' { s₂ with heap := h, toks := tk })
  (hRR : ∀ D C h tk m' ys news', Fr h₀ L h m → News h₀ L h ((D, LCg.lst ys) :: news') → LCg.Off1 D news' → h.Ns C m' → h₀.get? C = none → C ≠ L → C ≠ D → (∀ p ∈ news', p.1 ≠ C) → J n ys news' tk → RR (.ref D) C (.ok .next) { s₂ with heap := h, toks := tk }) :
  wpAny (model prog w) A (newList []) (fun acc s₃ => wpAny (model prog w) A (newFunctionEnv scope env.globals cl [] env.qual none .none (some env)) (fun cenv s₄ =>
   codeAny (model prog w) A (.compStart (.ListComp elt [⟨.Name x px, iter, [], 0⟩] scope pos) 0 (.ref I) acc { cenv with scope := relabel scope env }) (RR acc cenv.locals) s₄) E s₃) E s₂ := by
 revert prog w A E h₀ L m env elt iter x px scope cl pos s₂ I fp n P St S news RR J
 refine @(pk25 ((((Pg, (w00, Ar 0 0 [])), δ), δ), ((δ, (s00, δ)), δ)) ?_)
 generalize z25 _ _ = Z; generalize Z.1.1.1.1 = prog, Z.1.1.1.2.1 = w, Z.1.1.1.2.2 = A, Z.1.1.2.1 = E, Z.1.1.2.2.1 = h₀, Z.1.1.2.2.2 = L, Z.1.2.1.1 = m, Z.1.2.1.2.1 = env, Z.1.2.1.2.2 = elt, Z.1.2.2.1 = iter, Z.1.2.2.2.1 = x, Z.1.2.2.2.2 = px, Z.2.1.1.1 = scope, Z.2.1.1.2.1 = cl, Z.2.1.1.2.2 = pos, Z.2.1.2.1 = s₂, Z.2.1.2.2.1 = I, Z.2.1.2.2.2 = fp, Z.2.2.1.1 = n, Z.2.2.1.2.1 = P, Z.2.2.1.2.2 = St, Z.2.2.2.1.1 = S, Z.2.2.2.1.2 = news, Z.2.2.2.2.1 = RR, Z.2.2.2.2.2 = J
 intro hmono W hsz hIo hSt hcell hkind hx hst hfp F N hIL hI₀ off hS hJ turn hRR
 refine wpAny_newObj_type (wpAny_newFunctionEnv hcell (by intro y hy; simp at hy) (fun h₁ hns₁ hsb₁ => ?_) hkind)
 dsimp only at hns₁ hsb₁ ⊢
 generalize hH2 : s₂.heap.push { cls := .type "list", dict := none, data := .seq ([] : List Value).toArray } = H2 at hns₁ hsb₁ ⊢
 have hC : H2.objs.size = s₂.heap.objs.size + 1 := by rw [← hH2, Heap.size_push]
 have hDC : s₂.heap.objs.size ≠ H2.objs.size := by rw [hC]; exact Nat.ne_of_lt (Nat.lt_succ_self _)
 have below : ∀ b, b < s₂.heap.objs.size → b ≠ H2.objs.size ∧ b ≠ s₂.heap.objs.size := fun b hb => ⟨by rw [hC]; exact Nat.ne_of_lt (Nat.lt_succ_of_lt hb), Nat.ne_of_lt hb⟩
 have hDf : s₂.heap.objs.size ∉ fp := fun hm => Nat.lt_irrefl _ (hfp _ hm)
 have hCf : H2.objs.size ∉ fp := fun hm => by have := hfp _ hm; rw [hC] at this; exact Nat.lt_irrefl _ (Nat.lt_of_succ_lt this)
 have hIlt : I < s₂.heap.objs.size := hfp I (W.sub I (List.mem_singleton.mpr rfl))
 have old : ∀ b o, s₂.heap.get? b = some o → h₁.get? b = some o := fun b o e => hsb₁.extBut b o (below b (Heap.lt_size e)).1 (Heap.get?_push_of_some _ (hH2 ▸ Heap.get?_push_of_some _ e))
 have hacc : h₁.get? s₂.heap.objs.size = some (LCg.lst []) := hsb₁.extBut _ _ hDC (Heap.get?_push_of_some _ (hH2 ▸ Heap.get?_push_size _ rfl))
 have hst₁ : St 0 h₁ := W.frame _ _ _ hst fun b _ o e => old b o e
 have fresh₀ : ∀ a, s₂.heap.objs.size ≤ a → h₀.get? a = none := fun a ha => by
  cases e : h₀.get? a with
  | none => rfl
  | some o' => exact absurd (Heap.lt_size (F.keep a o' e)) (Nat.not_lt.mpr ha)
 have hD₀ : h₀.get? s₂.heap.objs.size = none := fresh₀ _ (Nat.le_refl _)
 have hC₀ : h₀.get? H2.objs.size = none := fresh₀ _ (by rw [hC]; exact Nat.le_succ _)
 have hDL : s₂.heap.objs.size ≠ L := Ne.symm (below L F.ns.lt).2
 have hCL : H2.objs.size ≠ L := Ne.symm (below L F.ns.lt).1
 have hCI : I ≠ H2.objs.size := (below I hIlt).1
 have hDI : I ≠ s₂.heap.objs.size := (below I hIlt).2
 have off₀ : LCg.Off3 I H2.objs.size s₂.heap.objs.size news := LCg.Off3.of fun p hp => ⟨off p hp, (below _ (Heap.lt_size (N p hp).1)).1, (below _ (Heap.lt_size (N p hp).1)).2⟩
 have loop : ∀ s₃ : Shared, s₃ = { s₂ with heap := h₁, toks := s₂.toks + ([] : List (Str × Value)).length } →
   codeAny (model prog w) A (.compLoop (.ListComp elt [⟨.Name x px, iter, [], 0⟩] scope pos) 0 (.ref I) (.ref s₂.heap.objs.size) (compEnvC scope cl H2.objs.size env)) (RR (.ref s₂.heap.objs.size) H2.objs.size) s₃ := by
  rintro s₃ rfl
  refine codeAny_compLoop_tests
   (fun k s' => E6 fun h' tk i ys m' news' => A11 (s' = { s₂ with heap := h', toks := tk }) (i ≤ n) (k = n + 1 - i) (ys.length = i) (St i h') (Fr h₀ L h' m) (h'.Ns H2.objs.size m') (News h₀ L h' ((s₂.heap.objs.size, LCg.lst ys) :: news')) (LCg.Off3 I H2.objs.size s₂.heap.objs.size news') (S news') (J i ys news' tk)) ?_ (n + 1)
   ⟨h₁, _, 0, [], _, news, rfl, Nat.zero_le _, rfl, rfl, hst₁, F.keeps old, hns₁, fun p hp => ?_, off₀, hS, hJ⟩
  ·rintro k s' hJq; refine hide fun Dq kq => ?_; obtain ⟨h', tk, i, ys, m', news', rfl, hi, rfl, hyl, hst', F', hn', N', off', hS', J'⟩ := hJq; refine kq ?_; clear kq Dq
   have off3 := off'.mem
   by_cases hlt : i < n
   ·refine wpAny_tk tk (Nat.le_refl _) (W.item i _ _ _ hlt hst' fun v h₂ tk₂ hPv hst₂ hk₂ hn₂ => ?_)
    refine wpAny_tk tk hn₂ (wpAny_assign_Name (wpAny_storeName_local (lookup_relabel_local hx) (hn'.at' fun o e => hk₂ _ o (by simpa using Ne.symm hCI) e) (fun h₃ hn₃ hs₃ hn₄ => ?_) (by simp [compEnvC, relabel, hkind])))
    refine wpAny_tests_nil ?_
    simp only [if_true]
    have hst₃ : St (i + 1) h₃ := W.frame _ _ _ hst₂ fun b hb o e => hs₃.extBut b o (fun q => hCf (by have q' : b = H2.objs.size := q; rw [← q']; exact hb)) e
    obtain ⟨oI, heI⟩ := hIo _ _ hst₃
    refine hide fun Dq kq => ?_; obtain ⟨oC, heC, hoC⟩ := LCg.ns_obj hn₃; refine kq ?_; clear kq Dq
    have F₃ : Fr h₀ L h₃ m := (LCg.fr_but F' hk₂ hIL hI₀).change hs₃ hCL hC₀
    have N₂ : News h₀ L h₂ ((s₂.heap.objs.size, LCg.lst ys) :: news') := LCg.news_but N' hk₂ fun p hp => by
     rcases List.mem_cons.mp hp with rfl | hp
     ·exact Ne.symm hDI
     ·exact (off3 p hp).1
    have N₃ : News h₀ L h₃ ((I, oI) :: (H2.objs.size, oC) :: (s₂.heap.objs.size, LCg.lst ys) :: news') := fun p hp => by
     rcases List.mem_cons.mp hp with rfl | hp
     ·exact ⟨heI, Ne.symm hIL, hI₀⟩
     ·rcases List.mem_cons.mp hp with rfl | hp
      ·exact ⟨heC, hCL, hC₀⟩
      ·have z := N₂ p hp
       refine ⟨hs₃.extBut _ _ ?_ z.1, z.2⟩
       rcases List.mem_cons.mp hp with rfl | hp
       ·exact hDC
       ·exact (off3 p hp).2.1
    refine wpAny_mono (turn i ys news' v I oI H2.objs.size oC s₂.heap.objs.size _ h₃ _ _ hlt (hmono _ _ _ _ _ hn₄ J') hPv hoC (by simp) F₃ N₃ off' ⟨hCI, hDI, Ne.symm hDC⟩) (fun y s₄ h₄ => ?_) fun _ _ e => e
    refine hide fun Dq kq => ?_; obtain ⟨h₄, tk₄, news₄, rfl, F₄, N₄, off₄, hS₄, J₄⟩ := h₄; refine kq ?_; clear kq Dq
    have zI := (N₄ (I, oI) (.head _)).1
    have zC := (N₄ (H2.objs.size, oC) (.tail _ (.head _))).1
    have zD := (N₄ (s₂.heap.objs.size, LCg.lst ys) (.tail _ (.tail _ (.head _)))).1
    have N₄' : News h₀ L h₄ news₄ := fun p hp => N₄ p (.tail _ (.tail _ (.tail _ hp)))
    have hst₄ : St (i + 1) h₄ := hSt _ _ _ _ _ hst₃ heI zI F₄.keep N₄' hS₄
    refine append_at (hsz := by show ys.toArray.size ≤ sizeLine; rw [List.size_toArray, hyl]; exact Nat.le_trans hi hsz) zD fun h₅ hs₅ hD₅ => ?_
    have off4 := off₄.mem
    refine ⟨n + 1 - (i + 1), by omega, h₅, tk₄, i + 1, ys ++ [y], _, news₄, rfl, hlt, rfl, by rw [List.length_append, List.length_singleton, hyl], W.frame _ _ _ hst₄ fun b hb o e => hs₅.extBut b o (fun q => hDf (q ▸ hb)) e, F₄.change hs₅ hDL hD₀,
     (hoC.ns zC).sameBut hs₅ (Ne.symm hDC), fun p hp => ?_, off₄, hS₄, J₄⟩
    rcases List.mem_cons.mp hp with rfl | hp
    ·exact ⟨hD₅.trans (congrArg some (LCg.lst_snoc ys y)), hDL, hD₀⟩
    ·exact ⟨hs₅.extBut _ _ (off4 p hp).2.2 (N₄' p hp).1, (N₄' p hp).2⟩
   ·obtain rfl : i = n := Nat.le_antisymm hi (Nat.not_lt.mp hlt)
    refine wpAny_tk tk (Nat.le_refl _) (W.done _ _ _ hst' fun h₂ tk₂ hk₂ hn₂ => ?_)
    exact hRR _ _ h₂ tk₂ _ ys news' (LCg.fr_but F' hk₂ hIL hI₀) (LCg.news_but N' hk₂ fun p hp => by
     rcases List.mem_cons.mp hp with rfl | hp
     ·exact Ne.symm hDI
     ·exact (off3 p hp).1) off'.one (hn'.at' fun o e => hk₂ _ o (by simpa using Ne.symm hCI) e) hC₀ hCL (Ne.symm hDC) (fun p hp => (off3 p hp).2.1) (hmono _ _ _ _ _ hn₂ J')
  ·rcases List.mem_cons.mp hp with rfl | hp
   ·exact ⟨hacc, hDL, hD₀⟩
   ·exact ⟨old _ _ (N p hp).1, (N p hp).2⟩
 exact codeAny_compStart_list (loop _ rfl) (W.self 0 _ _ _ hst₁ (loop _ rfl))
theorem ListComp_J {elt iter : Expr} {x : Str} {px : Pos} {scope : Scope} {cl : List (Str × Addr)} {pos : Pos} {Q : Value → Shared → Prop} (_F₀ : Fr h₀ L s.heap m)
  (hclos : closureFor scope env = pure cl) (hcell : ∀ y ∈ scope.names, y.2 ≠ .cell) (hkind : scope.kind = .function)
  (hnames : ∀ y ∈ scope.names, y.2 = .local → scope.names.lookup y.1 = some .local) (hx : scope.names.lookup x = some .local)
  (h : wpAny (model prog w) A (eval iter env) (fun xv s₁ => wpAny (model prog w) A (pyIter xv) (SrcX prog w A h₀ L m (CompJ prog w A h₀ L m env elt x scope cl Q)) E s₁) E s)
  (hs : ∀ x, foldedSetIterable iter env x = pure x := by intro _; rfl) :
  wpAny (model prog w) A (eval (.ListComp elt [⟨.Name x px, iter, [], 0⟩] scope pos) env) Q E s := by
 rw [eval_ListComp]
 refine wpAny_comprehension_free (use := none) rfl hs hclos hkind hnames (wpAny_mono h (fun xv s₁ h₁ => wpAny_mono h₁ (fun it s₂ h₂ => ?_) fun _ _ e => e) fun _ _ e => e)
 refine hide fun Dq kq => ?_; obtain ⟨I, fp, n, P, St, S, news, rfl, W, hsz, hIo, hSt, hst, hfp, F, N, hIL, hI₀, off, hS, J, hmono, hJ, turn, fin⟩ := h₂; refine kq ?_; clear kq Dq
 refine block_J J hmono W hsz hIo hSt hcell hkind hx hst hfp F N hIL hI₀ off hS hJ turn ?_
 intro D C h tk m' ys news' F' N' o1 hn hC₀ hCL hCD offC j
 refine ⟨m', hn, fun h'' hs'' => fin ys news' tk j D h'' (F'.change hs'' hCL hC₀) (fun p hp => ?_) o1⟩
 refine ⟨hs''.extBut _ _ ?_ (N' p hp).1, (N' p hp).2⟩
 rcases List.mem_cons.mp hp with rfl | hp
 ·exact Ne.symm hCD
 ·exact offC p hp
end

end
section
section
variable {prog : Program} {w : World} {A : Around} {E : Value → Shared → Prop} {s : Shared} {h₀ : Heap} {L : Addr} {m : Str → Option Value} {env : Env}
def OneCell (x : Str) (names : List (Str × NameKind)) : Prop := (∀ n cl, cellsFrom n names cl = (x, n) :: cl) ∧ ∀ h, pushCells h names = h.push { cls := .type "cell", data := .cell none }
theorem blockEnv_cell {scope : Scope} {cl : List (Str × Addr)} {x : Str} {globals : Addr} {qual : Str} {outer : Env} {Q : Env → Shared → Prop} (hc : OneCell x scope.names)
  (hQ : ∀ h', h' = (s.heap.push { cls := .type "dict", data := .dict #[] }).push { cls := .type "cell", data := .cell none } →
   Q { scope := scope, locals := s.heap.objs.size, globals := globals, cells := (x, s.heap.objs.size + 1) :: cl, qual := qual, func := none, code := outer.code, frame := outer.frame, builtins := outer.builtins } { s with heap := h' }) :
  wpAny (model prog w) A (newFunctionEnv scope globals cl [] qual none .none (some outer)) Q E s := by
 simp only [newFunctionEnv, Option.isSome_some, if_true]
 refine wpAny_bind (wpAny_alloc ?_)
 refine wpAny_bind (wpAny_layCells _ (fun name kind cells => by cases hkc : kind == NameKind.cell <;> simp) _ _ _ _ ?_)
 rw [show ({ s with heap := s.heap.push { cls := .type "dict", data := .dict #[] } } : Shared).heap.objs.size = s.heap.objs.size + 1 from Heap.size_push .., hc.1]
 refine wpAny_bind (wpAny_pure (wpAny_pure ?_))
 exact hQ _ (hc.2 _)
def CompC (prog : Program) (w : World) (A : Around) (h₀ : Heap) (L : Addr) (m : Str → Option Value) (env : Env) (ct elt : Expr) (x : Str) (scope : Scope) (cl : List (Str × Addr)) (Fin : Shared → List Value → List (Addr × Obj) → Prop) (s₂ : Shared) (S : List (Addr × Obj) → Prop) (P : Nat → Value → Prop) (n : Nat) (news : List (Addr × Obj)) : Prop :=
 ∃ J : Nat → List Value → List (Addr × Obj) → Prop, A3 (J 0 [] news) ((∀ i ys nw v I oI C oC D K oK m₂ h tk (E' : Value → Shared → Prop), i < n → J i ys nw → P i v → LCg.NsObj oC m₂ → oK.data = .cell (some v) → Fr h₀ L h m → News h₀ L h ((I, oI) :: (C, oC) :: (D, LCg.lst ys) :: (K, oK) :: nw) → LCg.Off3 I C D nw → LCg.Off1 K nw → ((@Ne Nat I C) ∧ (@Ne Nat I D) ∧ (@Ne Nat C D) ∧ (@Ne Nat K I) ∧ (@Ne Nat K C) ∧ (@Ne Nat K D)) →
   wpAny (model prog w) A (isTrue ct (compEnvC scope ((x, K) :: cl) C env) (eval ct (compEnvC scope ((x, K) :: cl) C env))) (fun ok s' => if ok = true then
    wpAny (model prog w) A (eval elt (compEnvC scope ((x, K) :: cl) C env)) (fun y s₄ => Hold (E3 fun h' tk' nw' => A7 (s₄ = { s₂ with heap := h', toks := tk' }) (Fr h₀ L h' m) (News h₀ L h' ((I, oI) :: (C, oC) :: (D, LCg.lst ys) :: (K, oK) :: nw')) (LCg.Off3 I C D nw') (LCg.Off1 K nw') (S nw') (J (i + 1) (ys ++ [y]) nw'))) E' s'
    else Hold (E3 fun h' tk' nw' => A7 (s' = { s₂ with heap := h', toks := tk' }) (Fr h₀ L h' m) (News h₀ L h' ((I, oI) :: (C, oC) :: (D, LCg.lst ys) :: (K, oK) :: nw')) (LCg.Off3 I C D nw') (LCg.Off1 K nw') (S nw') (J (i + 1) ys nw'))) E' { s₂ with heap := h, toks := tk })) ((∀ ys nw, J n ys nw → Fin s₂ ys nw))
theorem offK_mem {D : Addr} : ∀ {l : List (Addr × Obj)}, LCg.Off1 D l → ∀ p ∈ l, p.1 ≠ D
 | [], _, _, h => nomatch h
 | _ :: _, x, p, h => by
  rcases List.mem_cons.mp h with rfl | h
  ·exact x.1
  ·exact offK_mem x.2 p h
theorem offK_of {D : Addr} : ∀ {l : List (Addr × Obj)}, (∀ p ∈ l, p.1 ≠ D) → LCg.Off1 D l
 | [], _ => trivial
 | _ :: _, h => ⟨h _ List.mem_cons_self, offK_of fun p hp => h p (List.mem_cons_of_mem _ hp)⟩
theorem block_C {ct elt iter : Expr} {x : Str} {px : Pos} {scope : Scope} {cl : List (Str × Addr)} {pos : Pos} {s₂ : Shared} {I : Addr} {fp : List Addr} {n : Nat} {P : Nat → Value → Prop} {St : Nat → Heap → Prop} {S : List (Addr × Obj) → Prop} {news : List (Addr × Obj)}
  {Fin : Shared → List Value → List (Addr × Obj) → Prop} {RR : Value → Addr → Result → Shared → Prop}
  (W : Walks prog w A I fp [I] n P St) (hsz : n ≤ sizeLine) (hIo : ∀ i h, St i h → ∃ o, h.get? I = some o)
  (hSt : ∀ i h h' o nw, St i h → h.get? I = some o → h'.get? I = some o → (∀ b o, h₀.get? b = some o → h'.get? b = some o) → News h₀ L h' nw → S nw → St i h')
  (hcell : OneCell x scope.names) (hkind : scope.kind = .function) (hx : (relabel scope env).names.lookup x = some .cell) (hst : St 0 s₂.heap) (hfp : ∀ b ∈ fp, b < s₂.heap.objs.size)
  (F : Fr h₀ L s₂.heap m) (N : News h₀ L s₂.heap news) (hIL : L ≠ I) (hI₀ : h₀.get? I = none) (off : ∀ p ∈ news, p.1 ≠ I) (hS : S news)
  (R : CompC prog w A h₀ L m env ct elt x scope cl Fin s₂ S P n news)
  (hRR : ∀ D C h tk m' ys news', Fr h₀ L h m → News h₀ L h ((D, LCg.lst ys) :: news') → LCg.Off1 D news' → h.Ns C m' → h₀.get? C = none → h₀.get? D = none → C ≠ L → D ≠ L → C ≠ D → (∀ p ∈ news', p.1 ≠ C) → Fin s₂ ys news' → RR (.ref D) C (.ok .next) { s₂ with heap := h, toks := tk }) :
  wpAny (model prog w) A (newList []) (fun acc s₃ => wpAny (model prog w) A (newFunctionEnv scope env.globals cl [] env.qual none .none (some env)) (fun cenv s₄ =>
   codeAny (model prog w) A (.compStart (.ListComp elt [⟨.Name x px, iter, [ct], 0⟩] scope pos) 0 (.ref I) acc { cenv with scope := relabel scope env }) (RR acc cenv.locals) s₄) E s₃) E s₂ := by
 revert prog w A E h₀ L m env ct elt iter x px scope cl pos s₂ I fp n P St S news Fin RR
 refine @(pk26 ((((Pg, (w00, Ar 0 0 [])), δ), δ), ((δ, (s00, δ)), δ)) ?_)
 generalize z26 _ _ = Z; generalize Z.1.1.1.1 = prog, Z.1.1.1.2.1 = w, Z.1.1.1.2.2 = A, Z.1.1.2.1 = E, Z.1.1.2.2.1 = h₀, Z.1.1.2.2.2 = L, Z.1.2.1.1 = m, Z.1.2.1.2.1 = env, Z.1.2.1.2.2 = ct, Z.1.2.2.1.1 = elt, Z.1.2.2.1.2 = iter, Z.1.2.2.2.1 = x, Z.1.2.2.2.2 = px, Z.2.1.1.1 = scope, Z.2.1.1.2.1 = cl, Z.2.1.1.2.2 = pos, Z.2.1.2.1 = s₂, Z.2.1.2.2.1 = I, Z.2.1.2.2.2 = fp, Z.2.2.1.1 = n, Z.2.2.1.2.1 = P, Z.2.2.1.2.2 = St, Z.2.2.2.1.1 = S, Z.2.2.2.1.2 = news, Z.2.2.2.2.1 = Fin, Z.2.2.2.2.2 = RR
 intro W hsz hIo hSt hcell hkind hx hst hfp F N hIL hI₀ off hS R hRR
 refine hide fun Dq kq => ?_; obtain ⟨J, hJ, turn, fin⟩ := R; refine kq ?_; clear kq Dq
 refine wpAny_newObj_type (blockEnv_cell hcell fun h₁ e₁ => ?_)
 dsimp only at e₁ ⊢
 generalize hH2 : s₂.heap.push { cls := .type "list", dict := none, data := .seq ([] : List Value).toArray } = H2 at e₁ ⊢
 have hC : H2.objs.size = s₂.heap.objs.size + 1 := by rw [← hH2, Heap.size_push]
 have hDC : s₂.heap.objs.size ≠ H2.objs.size := by rw [hC]; exact Nat.ne_of_lt (Nat.lt_succ_self _)
 have hDK : s₂.heap.objs.size ≠ H2.objs.size + 1 := by rw [hC]; exact Nat.ne_of_lt (Nat.lt_succ_of_lt (Nat.lt_succ_self _))
 have hCK : H2.objs.size ≠ H2.objs.size + 1 := Nat.ne_of_lt (Nat.lt_succ_self _)
 have below : ∀ b, b < s₂.heap.objs.size → b ≠ H2.objs.size ∧ b ≠ s₂.heap.objs.size ∧ b ≠ H2.objs.size + 1 := fun b hb => ⟨by rw [hC]; exact Nat.ne_of_lt (Nat.lt_succ_of_lt hb), Nat.ne_of_lt hb, by rw [hC]; exact Nat.ne_of_lt (Nat.lt_succ_of_lt (Nat.lt_succ_of_lt hb))⟩
 have hDf : s₂.heap.objs.size ∉ fp := fun hm => Nat.lt_irrefl _ (hfp _ hm)
 have hCf : H2.objs.size ∉ fp := fun hm => by have := hfp _ hm; rw [hC] at this; exact Nat.lt_irrefl _ (Nat.lt_of_succ_lt this)
 have hKf : H2.objs.size + 1 ∉ fp := fun hm => by have := hfp _ hm; rw [hC] at this; exact Nat.lt_irrefl _ (Nat.lt_of_succ_lt (Nat.lt_of_succ_lt this))
 have hIf : I ∈ fp := W.sub I (List.mem_singleton.mpr rfl)
 have hIlt : I < s₂.heap.objs.size := hfp I hIf
 have up2 : ∀ b o, H2.get? b = some o → h₁.get? b = some o := fun b o e => by rw [e₁]; exact Heap.get?_push_of_some _ (Heap.get?_push_of_some _ e)
 have old : ∀ b o, s₂.heap.get? b = some o → h₁.get? b = some o := fun b o e => up2 b o (hH2 ▸ Heap.get?_push_of_some _ e)
 have hacc : h₁.get? s₂.heap.objs.size = some (LCg.lst []) := up2 _ _ (hH2 ▸ Heap.get?_push_size _ rfl)
 have hns₁ : h₁.Ns H2.objs.size (fun _ => none) := by rw [e₁]; exact (Heap.Ns.new H2 (.type "dict")).keeps fun b o e => Heap.get?_push_of_some _ e
 have hK₁ : h₁.get? (H2.objs.size + 1) = some { cls := .type "cell", data := .cell none } := by
  rw [e₁, show H2.objs.size + 1 = (H2.push { cls := .type "dict", data := .dict #[] }).objs.size from (Heap.size_push ..).symm]
  exact Heap.get?_push_size _ rfl
 clear e₁
 have hst₁ : St 0 h₁ := W.frame _ _ _ hst fun b _ o e => old b o e
 have fresh₀ : ∀ a, s₂.heap.objs.size ≤ a → h₀.get? a = none := fun a ha => by
  cases e : h₀.get? a with
  | none => rfl
  | some o' => exact absurd (Heap.lt_size (F.keep a o' e)) (Nat.not_lt.mpr ha)
 have hD₀ : h₀.get? s₂.heap.objs.size = none := fresh₀ _ (Nat.le_refl _)
 have hC₀ : h₀.get? H2.objs.size = none := fresh₀ _ (by rw [hC]; exact Nat.le_succ _)
 have hK₀ : h₀.get? (H2.objs.size + 1) = none := fresh₀ _ (by rw [hC]; exact Nat.le_trans (Nat.le_succ _) (Nat.le_succ _))
 have hLlt : L < s₂.heap.objs.size := F.ns.lt
 have hDL : s₂.heap.objs.size ≠ L := Ne.symm (below L hLlt).2.1
 have hCL : H2.objs.size ≠ L := Ne.symm (below L hLlt).1
 have hKL : H2.objs.size + 1 ≠ L := Ne.symm (below L hLlt).2.2
 have hCI : I ≠ H2.objs.size := (below I hIlt).1
 have hDI : I ≠ s₂.heap.objs.size := (below I hIlt).2.1
 have hKI : H2.objs.size + 1 ≠ I := Ne.symm (below I hIlt).2.2
 have off₀ : LCg.Off3 I H2.objs.size s₂.heap.objs.size news := LCg.Off3.of fun p hp => ⟨off p hp, (below _ (Heap.lt_size (N p hp).1)).1, (below _ (Heap.lt_size (N p hp).1)).2.1⟩
 have offK₀ : LCg.Off1 (H2.objs.size + 1) news := offK_of fun p hp => (below _ (Heap.lt_size (N p hp).1)).2.2
 have loop : ∀ s₃ : Shared, s₃ = { s₂ with heap := h₁ } →
   codeAny (model prog w) A (.compLoop (.ListComp elt [⟨.Name x px, iter, [ct], 0⟩] scope pos) 0 (.ref I) (.ref s₂.heap.objs.size) (compEnvC scope ((x, H2.objs.size + 1) :: cl) H2.objs.size env))
    (RR (.ref s₂.heap.objs.size) H2.objs.size) s₃ := by
  rintro s₃ rfl
  refine codeAny_compLoop_tests
   (fun k s' => E7 fun h' tk i ys m' v₀ news' => A13 (s' = { s₂ with heap := h', toks := tk }) (i ≤ n) (k = n + 1 - i) (ys.length ≤ i) (St i h') (Fr h₀ L h' m) (h'.Ns H2.objs.size m') (h'.IsCell (H2.objs.size + 1) v₀) (News h₀ L h' ((s₂.heap.objs.size, LCg.lst ys) :: news')) (LCg.Off3 I H2.objs.size s₂.heap.objs.size news') (LCg.Off1 (H2.objs.size + 1) news') (S news') (J i ys news')) ?_ (n + 1)
   ⟨h₁, _, 0, [], _, none, news, rfl, Nat.zero_le _, rfl, Nat.le_refl _, hst₁, F.keeps old, hns₁, ⟨_, hK₁, rfl⟩, fun p hp => ?_, off₀, offK₀, hS, hJ⟩
  ·rintro k s' hJq; refine hide fun Dq kq => ?_; obtain ⟨h', tk, i, ys, m', v₀, news', rfl, hi, rfl, hyl, hst', F', hn', hk', N', off', offK', hS', R'⟩ := hJq; refine kq ?_; clear kq Dq
   have off3 := off'.mem
   have offk := offK_mem offK'
   by_cases hlt : i < n
   ·refine W.item i _ _ _ hlt hst' fun v h₂ tk₂ hPv hst₂ hk₂ => ?_
    refine wpAny_assign_Name (wpAny_storeName_cell (c := H2.objs.size + 1) hkind hx (by simp [compEnvC]) (v₀ := v₀) (by obtain ⟨o, a, b⟩ := hk'; exact ⟨o, hk₂ _ o (by simpa using hKI) a, b⟩) fun h₃ hv₃ hs₃ => ?_)
    refine wpAny_tests_one ?_
    have hst₃ : St (i + 1) h₃ := W.frame _ _ _ hst₂ fun b hb o e => hs₃.extBut b o (fun q => hKf (by have q' : b = H2.objs.size + 1 := q; rw [← q']; exact hb)) e
    obtain ⟨oI, heI⟩ := hIo _ _ hst₃
    refine hide fun Dq kq => ?_; obtain ⟨oC, heC, hoC⟩ := LCg.ns_obj ((hn'.at' fun o e => hk₂ _ o (by simpa using Ne.symm hCI) e).sameBut hs₃ hCK); refine kq ?_; clear kq Dq
    refine hide fun Dq kq => ?_; obtain ⟨oK, heK, hoK⟩ := id hv₃; refine kq ?_; clear kq Dq
    have F₃ : Fr h₀ L h₃ m := (LCg.fr_but F' hk₂ hIL hI₀).change hs₃ hKL hK₀
    have N₂ : News h₀ L h₂ ((s₂.heap.objs.size, LCg.lst ys) :: news') := LCg.news_but N' hk₂ fun p hp => by
     rcases List.mem_cons.mp hp with rfl | hp
     ·exact Ne.symm hDI
     ·exact (off3 p hp).1
    have N₃ : News h₀ L h₃ ((I, oI) :: (H2.objs.size, oC) :: (s₂.heap.objs.size, LCg.lst ys) :: (H2.objs.size + 1, oK) :: news') := fun p hp => by
     rcases List.mem_cons.mp hp with rfl | hp
     ·exact ⟨heI, Ne.symm hIL, hI₀⟩
     ·rcases List.mem_cons.mp hp with rfl | hp
      ·exact ⟨heC, hCL, hC₀⟩
      ·rcases List.mem_cons.mp hp with rfl | hp
       ·have z := N₂ _ (.head _)
        exact ⟨hs₃.extBut _ _ hDK z.1, z.2⟩
       ·rcases List.mem_cons.mp hp with rfl | hp
        ·exact ⟨heK, hKL, hK₀⟩
        ·have z := N₂ p (.tail _ hp)
         exact ⟨hs₃.extBut _ _ (offk p hp) z.1, z.2⟩
    refine wpAny_mono (turn i ys news' v I oI H2.objs.size oC s₂.heap.objs.size _ oK _ h₃ _ _ hlt R' hPv hoC hoK F₃ N₃ off' offK' ⟨hCI, hDI, Ne.symm hDC, hKI, Ne.symm hCK, Ne.symm hDK⟩) (fun ok s₄ h₄ => ?_) fun _ _ e => e
    cases ok with
    | true =>
     simp only [if_true] at h₄ ⊢
     refine wpAny_mono h₄ (fun y s₅ h₅ => ?_) fun _ _ e => e
     refine hide fun Dq kq => ?_; obtain ⟨h₄, tk₄, news₄, rfl, F₄, N₄, off₄, offK₄, hS₄, R₄⟩ := h₅; refine kq ?_; clear kq Dq
     have zI := (N₄ (I, oI) (.head _)).1
     have zC := (N₄ (H2.objs.size, oC) (.tail _ (.head _))).1
     have zD := (N₄ (s₂.heap.objs.size, LCg.lst ys) (.tail _ (.tail _ (.head _)))).1
     have zK := (N₄ (H2.objs.size + 1, oK) (.tail _ (.tail _ (.tail _ (.head _))))).1
     have N₄' : News h₀ L h₄ news₄ := fun p hp => N₄ p (.tail _ (.tail _ (.tail _ (.tail _ hp))))
     have hst₄ : St (i + 1) h₄ := hSt _ _ _ _ _ hst₃ heI zI F₄.keep N₄' hS₄
     refine append_at (hsz := by show ys.toArray.size ≤ sizeLine; rw [List.size_toArray]; exact Nat.le_trans (Nat.le_trans hyl hi) hsz) zD fun h₅ hs₅ hD₅ => ?_
     have off4 := off₄.mem
     refine ⟨n + 1 - (i + 1), by omega, h₅, tk₄, i + 1, ys ++ [y], _, some v, news₄, rfl, hlt, rfl, by rw [List.length_append, List.length_singleton]; exact Nat.succ_le_succ hyl, W.frame _ _ _ hst₄ fun b hb o e => hs₅.extBut b o (fun q => hDf (q ▸ hb)) e, F₄.change hs₅ hDL hD₀,
      (hoC.ns zC).sameBut hs₅ (Ne.symm hDC), Heap.IsCell.sameBut ⟨oK, zK, hoK⟩ hs₅ (Ne.symm hDK), fun p hp => ?_, off₄, offK₄, hS₄, R₄⟩
     rcases List.mem_cons.mp hp with rfl | hp
     ·exact ⟨hD₅.trans (congrArg some (LCg.lst_snoc ys y)), hDL, hD₀⟩
     ·exact ⟨hs₅.extBut _ _ (off4 p hp).2.2 (N₄' p hp).1, (N₄' p hp).2⟩
    | false =>
     simp only [Bool.false_eq_true, if_false] at h₄ ⊢
     refine hide fun Dq kq => ?_; obtain ⟨h₅, tk₄, news₄, rfl, F₄, N₄, off₄, offK₄, hS₄, R₄⟩ := h₄; refine kq ?_; clear kq Dq
     have zI := (N₄ (I, oI) (.head _)).1
     have zC := (N₄ (H2.objs.size, oC) (.tail _ (.head _))).1
     have zK := (N₄ (H2.objs.size + 1, oK) (.tail _ (.tail _ (.tail _ (.head _))))).1
     have N₄' : News h₀ L h₅ news₄ := fun p hp => N₄ p (.tail _ (.tail _ (.tail _ (.tail _ hp))))
     have hst₄ : St (i + 1) h₅ := hSt _ _ _ _ _ hst₃ heI zI F₄.keep N₄' hS₄
     refine ⟨n + 1 - (i + 1), by omega, h₅, tk₄, i + 1, ys, _, some v, news₄, rfl, hlt, rfl, Nat.le_succ_of_le hyl, hst₄, F₄, hoC.ns zC, ⟨oK, zK, hoK⟩, fun p hp => ?_, off₄, offK₄, hS₄, R₄⟩
     rcases List.mem_cons.mp hp with rfl | hp
     ·exact N₄ _ (.tail _ (.tail _ (.head _)))
     ·exact N₄' p hp
   ·obtain rfl : i = n := Nat.le_antisymm hi (Nat.not_lt.mp hlt)
    refine W.done _ _ _ hst' fun h₂ tk₂ hk₂ => ?_
    exact hRR _ _ h₂ tk₂ _ ys news' (LCg.fr_but F' hk₂ hIL hI₀) (LCg.news_but N' hk₂ fun p hp => by
     rcases List.mem_cons.mp hp with rfl | hp
     ·exact Ne.symm hDI
     ·exact (off3 p hp).1) off'.one (hn'.at' fun o e => hk₂ _ o (by simpa using Ne.symm hCI) e) hC₀ hD₀ hCL hDL (Ne.symm hDC) (fun p hp => (off3 p hp).2.1) (fin _ _ R')
  ·rcases List.mem_cons.mp hp with rfl | hp
   ·exact ⟨hacc, hDL, hD₀⟩
   ·exact ⟨old _ _ (N p hp).1, (N p hp).2⟩
 exact codeAny_compStart_list (loop _ rfl) (W.self 0 _ _ _ hst₁ (loop _ rfl))
theorem Assign_CX {ct elt iter : Expr} {x y : Str} {px py : Pos} {scope : Scope} {cl : List (Str × Addr)} {pos spos : Pos} {Q : Flow → Shared → Prop} (_F₀ : Fr h₀ L s.heap m) (hLe : env.locals = L)
  (hsw : swapsWith (.ListComp elt [⟨.Name x px, iter, [ct], 0⟩] scope pos) (some (.Name y py)) spos.line env = pure true)
  (hclos : closureFor scope env = pure cl) (hcell : OneCell x scope.names) (hkind : scope.kind = .function)
  (hnames : ∀ z ∈ scope.names, z.2 = .local → scope.names.lookup z.1 = some .local) (hx : (relabel scope env).names.lookup x = some .cell)
  (hy : env.kindOf y = some .local) (hp : (env.scope.kind == .class || (env.scope.kind == .module && env.locals != env.globals)) = false)
  (h : wpAny (model prog w) A (eval iter env) (fun xv s₁ => wpAny (model prog w) A (pyIter xv) (SrcX prog w A h₀ L m fun s₂ S P n news => CompC prog w A h₀ L m env ct elt x scope cl (fun s₂ => LCg.FinA h₀ L m s₂ y Q) s₂ S P n news) E s₁) E s)
  (hs : ∀ x, foldedSetIterable iter env x = pure x := by intro _; rfl) :
  wpAny (model prog w) A (exec (.Assign [.Name y py] (.ListComp elt [⟨.Name x px, iter, [ct], 0⟩] scope pos) spos) env) Q E s := by
 subst hLe
 rw [exec_Assign_Name_used _ _ _ _ hsw]
 refine wpAny_bind (wpAny_standAt (wpAny_bind ?_))
 show wpAny _ A (do let _ ← comprehension (.ListComp elt [⟨.Name x px, iter, [ct], 0⟩] scope pos) scope env _ (newList []) false (eval iter env) (some (assign (.Name y py) env))) _ _ s
 refine wpAny_bind (wpAny_mono (wpAny_comprehension_free (use := some (assign (.Name y py) env)) (Q := fun _ s' => Q .next s') rfl hs hclos hkind hnames
  (wpAny_mono h (fun xv s₁ h₁ => wpAny_mono h₁ (fun it s₂ h₂ => ?_) fun _ _ e => e) fun _ _ e => e)) (fun _ s' hq => wpAny_pure (wpAny_pure hq)) fun _ _ e => e)
 refine hide fun Dq kq => ?_; obtain ⟨I, fp, n, P, St, S, news, rfl, W, hsz, hIo, hSt, hst, hfp, F, N, hIL, hI₀, off, hS, R⟩ := h₂; refine kq ?_; clear kq Dq
 refine block_C W hsz hIo hSt hcell hkind hx hst hfp F N hIL hI₀ off hS R ?_
 intro D C h tk m' ys news' F' N' o1 hn hC₀ hD₀ hCL hDL hCD offC fin
 exact assign_done hy hp F' N' o1 hn hC₀ hCL hCD offC fin
end

end
section
theorem carried_strs {vs : List Value} {xs : List Str} (h : StrsAre vs xs) : CarriedAll vs (xs.map .str) := by
 induction h with
 | nil => exact .nil
 | cons y t _ ih => exact .cons (.str _ t) ih
theorem eqv_strs : ∀ xs ys : List Str, PyData.eqvAll (xs.map PyData.str) (ys.map PyData.str) = decide (xs = ys)
 | [], [] => by simp [PyData.eqvAll]
 | [], _ :: _ => by simp [PyData.eqvAll]
 | _ :: _, [] => by simp [PyData.eqvAll]
 | a :: r, b :: t => by
  simp only [List.map_cons, PyData.eqvAll, PyData.eqv, eqv_strs r t]
  by_cases h : a = b <;> by_cases h' : r = t <;> simp [h, h']
abbrev rowD (r : List Str) : PyData := .list (r.map PyData.str)
theorem eqv_rows : ∀ a b : List (List Str), PyData.eqvAll (a.map rowD) (b.map rowD) = decide (a = b)
 | [], [] => by simp [PyData.eqvAll]
 | [], _ :: _ => by simp [PyData.eqvAll]
 | _ :: _, [] => by simp [PyData.eqvAll]
 | a :: r, b :: t => by
  simp only [List.map_cons, PyData.eqvAll, PyData.eqv, eqv_rows r t, eqv_strs]
  by_cases h : a = b <;> by_cases h' : r = t <;> simp [h, h']
theorem lay_strs : ∀ xs : List Str, (∀ x ∈ xs, PyData.strOk x = true) → PyData.canLayAll0 (xs.map PyData.str) = true
 | [], _ => rfl
 | x :: r, h => by simp [PyData.canLayAll0, PyData.canLay0, h x (.head _), lay_strs r fun y hy => h y (.tail _ hy)]
theorem depth_strs : ∀ xs : List Str, PyData.depthAll (xs.map PyData.str) = 0
 | [] => rfl
 | _ :: r => by simp [PyData.depthAll, PyData.depth, depth_strs r]
theorem shaped_row {xs : List Str} (h : ∀ x ∈ xs, PyData.strOk x = true) : SeqAt.shaped (rowD xs) = true := by
 simp [SeqAt.shaped, PyData.canLay0, PyData.depth, lay_strs xs h, depth_strs]
theorem lay_rows : ∀ a : List (List Str), (∀ r ∈ a, ∀ x ∈ r, PyData.strOk x = true) → PyData.canLayAll0 (a.map rowD) = true
 | [], _ => rfl
 | x :: r, h => by simp [PyData.canLayAll0, PyData.canLay0, lay_strs x (h x (.head _)), lay_rows r fun y hy => h y (.tail _ hy)]
theorem depth_rows : ∀ a : List (List Str), PyData.depthAll (a.map rowD) ≤ 1
 | [] => Nat.zero_le _
 | x :: r => by
  have := depth_rows r
  simp only [List.map_cons, PyData.depthAll, PyData.depth, depth_strs]
  omega
theorem shaped_rows {a : List (List Str)} (h : ∀ r ∈ a, ∀ x ∈ r, PyData.strOk x = true) : SeqAt.shaped (.list (a.map rowD)) = true := by
 have := depth_rows a
 simp only [SeqAt.shaped, PyData.canLay0, PyData.depth, lay_rows a h, Bool.true_and]
 exact decide_eq_true (Nat.le_trans (Nat.succ_le_succ this) (by decide))
inductive RowsAre (h : Heap) : List Value → List (List Str) → Prop where
 | nil : RowsAre h [] []
 | cons {a : Addr} {rv : List Value} {n : Nat} {r : List Str} {vs : List Value} {rows : List (List Str)} (ho : h.get? a = some (listOf rv.toArray n)) (hr : StrsAre rv r) (t : RowsAre h vs rows) : RowsAre h (.ref a :: vs) (r :: rows)
theorem RowsAre.length {h : Heap} {vs : List Value} {rows : List (List Str)} (x : RowsAre h vs rows) : vs.length = rows.length := by
 induction x with
 | nil => rfl
 | cons _ _ _ ih => rw [List.length_cons, List.length_cons, ih]
theorem RowsAre.append {h : Heap} {vs us : List Value} {rows rows' : List (List Str)} (x : RowsAre h vs rows) (y : RowsAre h us rows') : RowsAre h (vs ++ us) (rows ++ rows') := by
 induction x with
 | nil => exact y
 | cons ho hr _ ih => exact .cons ho hr ih
theorem RowsAre.keep {h h' : Heap} {vs : List Value} {rows : List (List Str)} (x : RowsAre h vs rows) (k : ∀ a o, (.ref a) ∈ vs → h.get? a = some o → h'.get? a = some o) : RowsAre h' vs rows := by
 induction x with
 | nil => exact .nil
 | cons ho hr _ ih => exact .cons (k _ _ (.head _) ho) hr (ih fun a o hm => k a o (.tail _ hm))
theorem RowsAre.at {h : Heap} {vs : List Value} {rows : List (List Str)} (x : RowsAre h vs rows) : ∀ {i : Nat} {v : Value}, vs[i]? = some v → E4 fun a rv n r => A4 (v = .ref a) (h.get? a = some (listOf rv.toArray n)) (rows[i]? = some r) (StrsAre rv r) := by
 induction x with
 | nil => intro i v e; simp at e
 | @cons a rv n r vs rows ho hr t ih =>
  intro i v e
  cases i with
  | zero => simp at e; exact ⟨a, rv, n, r, e.symm, ho, by simp, hr⟩
  | succ i => simp at e; obtain ⟨a', rv', n', r', q1, q2, q3, q4⟩ := ih e; exact ⟨a', rv', n', r', q1, q2, by simpa using q3, q4⟩
theorem RowsAre.reads {h : Heap} {vs : List Value} {rows : List (List Str)} (x : RowsAre h vs rows) : ∃ as, ReadsAll h vs (rows.map rowD) as := by
 induction x with
 | nil => exact ⟨_, .nil⟩
 | cons ho hr _ ih =>
  obtain ⟨as, ih⟩ := ih
  exact ⟨_, .cons (reads_newData (PySem.IsL.isList ho) (carried_strs hr)) ih⟩
section
variable {prog : Program} {w : World} {A : Around} {E : Value → Shared → Prop} {s : Shared} {a b : Addr} {vs us : List Value} {xs ys : List Str} {n k : Nat} {Q : Value → Shared → Prop}
theorem eq_strs (ha : s.heap.IsList a vs.toArray) (hb : s.heap.IsList b us.toArray) (hx : StrsAre vs xs) (hy : StrsAre us ys) (ox : ∀ x ∈ xs, PyData.strOk x = true) (oy : ∀ x ∈ ys, PyData.strOk x = true) (hu : A.units + 64 < cLine) (h : Q (.bool (decide (xs = ys))) s) :
  wpAny (model prog w) A (compareOp .Eq (.ref a) (.ref b)) Q E s :=
 eq_dataH (reads_newData ha (carried_strs hx)) (reads_newData hb (carried_strs hy)) (shaped_row ox) (shaped_row oy) hu (by rw [PyData.eqv, eqv_strs]; exact h)
theorem ne_rows {R R' : List (List Str)} (ha : s.heap.IsList a vs.toArray) (hb : s.heap.IsList b us.toArray) (hx : RowsAre s.heap vs R) (hy : RowsAre s.heap us R') (ox : ∀ r ∈ R, ∀ x ∈ r, PyData.strOk x = true) (oy : ∀ r ∈ R', ∀ x ∈ r, PyData.strOk x = true) (hu : A.units + 64 < cLine) (h : Q (.bool (!decide (R = R'))) s) :
  wpAny (model prog w) A (compareOp .NotEq (.ref a) (.ref b)) Q E s := by
 refine hide fun Dq kq => ?_; obtain ⟨oa, ea, ca, na, da⟩ := ha; refine kq ?_; clear kq Dq
 refine hide fun Dq kq => ?_; obtain ⟨ob, eb, cb, nb, db⟩ := hb; refine kq ?_; clear kq Dq
 obtain ⟨as, ra⟩ := hx.reads
 obtain ⟨bs, rb⟩ := hy.reads
 exact ne_dataH (reads_list_at ea ca da ra) (reads_list_at eb cb db rb) (shaped_rows ox) (shaped_rows oy) hu (by rw [PyData.eqv, eqv_rows]; exact h)
end

end
section
def Apt (y : Str) (ty : Tok) (v : Value) : Prop := ∀ x t, v = .str x t → t ≠ 0 ∧ (t = ty → x = y)
section
local macro_rules | `(tactic| walk_at "call type:enumerate") => `(tactic| (refine Hold.out ?_))
theorem indexOf_spec {w : World} {dp un : Nat} {fr : List Env} {s : Shared} {Q E : Value → Shared → Prop} {l : Addr} {ty : Tok} {y : Str} {vs : List Value} {xs : List Str}
 (C : Cx w fr s.heap []) (hd : dp + 10 < recursionLimit) (hu : un + 200 < cLine)
 (hl : s.heap.IsList l vs.toArray) (hx : StrsAre vs xs) (hy : y ∈ xs) (hty : ty ≠ 0) (hts : ∀ v ∈ vs, Apt y ty v)
 (hret : ∀ (t : Tok) (h' : Heap) (tk' : Nat), Keep s.heap h' [] → Q (.int ((xs.idxOf y : Nat) : Int) t) { s with heap := h', toks := tk' }) :
 wpAny (model Pg w) (Ar dp un fr) (call (.ref 42) [.ref l, .str y ty]) Q E s := by
 revert w dp un fr s Q E l ty y vs xs
 refine @(pk12 (((w00, δ), (δ, (s00, δ))), δ) ?_)
 generalize z12 _ _ = Z; generalize Z.1.1.1 = w, Z.1.1.2.1 = dp, Z.1.1.2.2 = un, Z.1.2.1 = fr, Z.1.2.2.1 = s, Z.1.2.2.2 = Q, Z.2.1.1 = E, Z.2.1.2.1 = l, Z.2.1.2.2 = ty, Z.2.2.1 = y, Z.2.2.2.1 = vs, Z.2.2.2.2 = xs
 intro C hd hu hl hx hy hty hts hret
 k_dflt (refine' enter (binds := [(Str.ofString "a", .ref l), (Str.ofString "b", .str y ty)]) ?C ?N ?k6 ?k7 ?k8 ?k9 ?kB ?_ ?c2 ?c3 ?c4 ?c5; walk_at "m_in")
 refine @(pk9 δ ?_); generalize z9 _ _ = Z; generalize Z.1.1.1 = g, Z.1.1.2 = L', Z.1.2.1 = h₁, Z.1.2.2 = base, Z.2.1.1 = p, Z.2.1.2 = loose, Z.2.2.1 = mean, Z.2.2.2.1 = mg, Z.2.2.2.2 = mb; intro BO F N B X T S hlt hL
 have hlg : g.IsList l vs.toArray := hl.at fun o e => S.out _ _ e nN
 k_steps
 refine For_K ?_
 k_steps
 refine Hold.mk ?_
 refine enum_base (g := g) (fun i m _ => (∀ j < i, xs[j]? ≠ some y) ∧ E2 fun a b => m = (fun z => if z = Str.ofString "j" then a else if z = Str.ofString "i" then b else List.lookup z [(Str.ofString "b", .str y ty), (Str.ofString "a", .ref l)])) rfl hlg (by assumption) (by assumption) ⟨fun _ h => absurd h (Nat.not_lt_zero _), none, none, ?_⟩ rfl rfl rfl ?_ ?_
 ·funext z
  by_cases h1 : z = Str.ofString "j"
  ·subst h1; rfl
  ·by_cases h2 : z = Str.ofString "i"
   ·subst h2; rfl
   ·simp only [h1, h2, if_false]
 ·intro i v t m news h tk e oe it oit hv hJ F' N' hap
  refine hide fun Dq kq => ?_; obtain ⟨x, tx, hxi, rfl⟩ := strs_at hx hv; refine kq ?_; clear kq Dq
  refine hide fun Dq kq => ?_; obtain ⟨hJ, a, b, rfl⟩ := hJ; refine kq ?_; clear kq Dq
  clear F N
  have hap2 := hts _ (List.mem_of_getElem? hv) x tx rfl
  k_steps
  refine is_str (w := w) (X.keeps F'.keep) hap2.1 hty hap2.2 ?_
  intro c hc
  cases c
  ·k_steps
   ·rename_i heq
    have heq' : x = y := by simpa using heq
    subst heq'
    show Q (.int (i : Nat) _) _
    rw [← idx_at hxi hJ]
    exact hret _ _ _ (S.keep (by assumption))
   ·rename_i heq
    have hne : x ≠ y := by simpa using heq
    refine ⟨_, _, _, news, rfl, by assumption, by assumption, ?_, ?_, some (.str x tx), some (.int (i : Nat) t), ?_⟩
    ·intro p hp q hq
     simp only [List.mem_cons, List.not_mem_nil, or_false] at hq
     rcases hq with rfl | rfl
     ·exact (hap p hp).1
     ·exact (hap p hp).2
    ·intro j hj
     by_cases e : j = i
     ·subst e; rw [hxi]; intro q; exact hne (Option.some.inj q)
     ·exact hJ j (by omega)
    ·funext z
     by_cases h1 : z = Str.ofString "j"
     ·simp only [h1, if_true]
     ·by_cases h2 : z = Str.ofString "i"
      ·simp only [h2, if_true]
      ·simp only [h1, h2, if_false]
  ·k_steps
   have heq' : x = y := hc rfl
   subst heq'
   show Q (.int (i : Nat) _) _
   rw [← idx_at hxi hJ]
   exact hret _ _ _ (S.keep (by assumption))
 ·intro m news h tk hJ F' N'
  exact absurd hy (by
   intro hm
   refine hide fun Dq kq => ?_; obtain ⟨j, hj, e⟩ := List.getElem_of_mem hm; refine kq ?_; clear kq Dq
   exact hJ.1 j (by rw [hx.length]; exact hj) (by rw [List.getElem?_eq_getElem hj, e]))
end

end
section
theorem ints_at {vs : List Value} {xs : List Int} (h : IntsAre vs xs) : ∀ {i : Nat} {v : Value}, vs[i]? = some v → E2 fun x t => xs[i]? = some x ∧ v = .int x t := by
 induction h with
 | nil => intro i v e; simp at e
 | cons y t _ ih =>
  intro i v e
  cases i with
  | zero => simp at e; exact ⟨y, t, by simp, e.symm⟩
  | succ i => simp at e; obtain ⟨x, u, a, b⟩ := ih e; exact ⟨x, u, by simpa using a, b⟩
def AptI (y : Int) (ty : Tok) (v : Value) : Prop := ∀ x t, v = .int x t → t ≠ 0 ∧ (t = ty → x = y)
abbrev cmap (l : Addr) (b c : Value) (u : Option Value) : Str → Option Value := fun z => if z = Str.ofString "i" then u else if z = Str.ofString "count" then some c else List.lookup z [(Str.ofString "b", b), (Str.ofString "a", Value.ref l)]
theorem cmap0 {l : Addr} {b c : Value} : (fun z => if z = Str.ofString "count" then some c else List.lookup z [(Str.ofString "b", b), (Str.ofString "a", Value.ref l)]) = cmap l b c none := by
 funext z
 by_cases h : z = Str.ofString "i"
 ·subst h; rfl
 ·simp only [cmap, if_neg h]
theorem cmap_set {l : Addr} {b c v : Value} {u : Option Value} : (fun z => if z = Str.ofString "i" then some v else cmap l b c u z) = cmap l b c (some v) := by
 funext z
 by_cases h : z = Str.ofString "i"
 ·subst h; rfl
 ·simp only [cmap, if_neg h]
theorem cmap_cnt {l : Addr} {b c c' : Value} {u : Option Value} : (fun z => if z = Str.ofString "count" then some c' else cmap l b c u z) = cmap l b c' u := by
 funext z
 by_cases h : z = Str.ofString "count"
 ·subst h; rfl
 ·simp only [cmap, if_neg h]
section
local macro_rules | `(tactic| walk_at "exec For Name Name cons nil") => `(tactic| (refine Hold.out ?_))
local macro_rules | `(tactic| walk_at "pyIter ref") => `(tactic| (refine Hold.out ?_))
theorem countOf_spec {w : World} {dp un : Nat} {fr : List Env} {s : Shared} {Q E : Value → Shared → Prop} {l : Addr} {ty : Tok} {y : Int} {vs : List Value} {xs : List Int}
 (C : Cx w fr s.heap []) (hd : dp + 10 < recursionLimit) (hu : un + 200 < cLine)
 (hl : s.heap.IsList l vs.toArray) (hx : IntsAre vs xs) (hty : ty ≠ 0) (hts : ∀ v ∈ vs, AptI y ty v)
 (hret : ∀ (t : Tok) (h' : Heap) (tk' : Nat), Keep s.heap h' [] → Q (.int ((xs.count y : Nat) : Int) t) { s with heap := h', toks := tk' }) :
 wpAny (model Pg w) (Ar dp un fr) (call (.ref 28) [.ref l, .int y ty]) Q E s := by
 revert w dp un fr s Q E l ty y vs xs
 refine @(pk12 (((w00, δ), (δ, (s00, δ))), δ) ?_)
 generalize z12 _ _ = Z; generalize Z.1.1.1 = w, Z.1.1.2.1 = dp, Z.1.1.2.2 = un, Z.1.2.1 = fr, Z.1.2.2.1 = s, Z.1.2.2.2 = Q, Z.2.1.1 = E, Z.2.1.2.1 = l, Z.2.1.2.2 = ty, Z.2.2.1 = y, Z.2.2.2.1 = vs, Z.2.2.2.2 = xs
 intro C hd hu hl hx hty hts hret
 k_dflt (refine' enter (binds := [(Str.ofString "a", .ref l), (Str.ofString "b", .int y ty)]) ?C ?N ?k6 ?k7 ?k8 ?k9 ?kB ?_ ?c2 ?c3 ?c4 ?c5; walk_at "m_in")
 refine @(pk9 δ ?_); generalize z9 _ _ = Z; generalize Z.1.1.1 = g, Z.1.1.2 = L', Z.1.2.1 = h₁, Z.1.2.2 = base, Z.2.1.1 = p, Z.2.1.2 = loose, Z.2.2.1 = mean, Z.2.2.2.1 = mg, Z.2.2.2.2 = mb; intro BO F N B X T S hlt hL
 have hlg : g.IsList l vs.toArray := hl.at fun o e => S.out _ _ e nN
 k_steps
 rename (Fr g _ _ _) => F₂
 rename (News g _ _ _) => N₂
 rw [cmap0] at F₂
 refine Hold.mk (For_K ?_ (hE := ?hE))
 k_steps
 ·refine Hold.mk ?_
  refine for_base (g := g) (fun i m news => E2 fun (t : Tok) (u : Option Value) => m = cmap l (.int y ty) (.int (((xs.take i).count y : Nat) : Int) t) u ∧ news = []) rfl hlg F₂ N₂ ⟨_, none, rfl, rfl⟩ rfl rfl ?_ ?_
  ·rintro i v m news h tk I oI hv ⟨t, u, rfl, rfl⟩ F' N' hap
   refine hide fun Dq kq => ?_; obtain ⟨x, tx, hxi, rfl⟩ := ints_at hx hv; refine kq ?_; clear kq Dq
   clear F₂ N₂
   rw [cmap_set] at F'
   have hap2 := hts _ (List.mem_of_getElem? hv) x tx rfl
   have hi : i < xs.length := by
    rcases Nat.lt_or_ge i xs.length with z | z
    ·exact z
    ·rw [List.getElem?_eq_none z] at hxi; cases hxi
   have htk : xs.take (i + 1) = xs.take i ++ [x] := by
    rw [List.take_add_one, hxi]; rfl
   k_steps
   refine is_int (w := w) (X.keeps F'.keep) hap2.1 hty hap2.2 ?_
   intro c hc
   cases c
   ·k_steps
    ·rename (x = y) => hxy
     rename (Fr g L' _ _) => FX
     rename (News g L' _ _) => NX
     rw [cmap_cnt, show (((xs.take i).count y : Nat) : Int) + 1 = (((xs.take (i + 1)).count y : Nat) : Int) from by rw [htk, List.count_append]; simp [hxy]] at FX
     exact ⟨_, _, _, [], rfl, FX, NX, (fun _ h => nomatch h), _, _, rfl, rfl⟩
    ·rename (¬ x = y) => hxy
     rw [show (((xs.take i).count y : Nat) : Int) = (((xs.take (i + 1)).count y : Nat) : Int) from by rw [htk, List.count_append]; simp [hxy]] at F'
     exact ⟨_, _, _, [], rfl, F', N', (fun _ h => nomatch h), _, _, rfl, rfl⟩
   ·have hxy : x = y := hc rfl
    k_steps
    ·rename (Fr g L' _ _) => FX
     rename (News g L' _ _) => NX
     rw [cmap_cnt, show (((xs.take i).count y : Nat) : Int) + 1 = (((xs.take (i + 1)).count y : Nat) : Int) from by rw [htk, List.count_append]; simp [hxy]] at FX
     exact ⟨_, _, _, [], rfl, FX, NX, (fun _ h => nomatch h), _, _, rfl, rfl⟩
  ·rintro m news h tk ⟨t, u, rfl, rfl⟩ F' N'
   have hlen : vs.length = xs.length := hx.length
   rw [hlen, List.take_length] at F'
   clear F₂ N₂
   k_steps
   exact hret _ _ _ (S.keep F')
end

end
section
local macro_rules | `(tactic| walk_at "execs cons") => `(tactic| (k_here; (with_reducible show wpAny _ _ _ _ _ (Shared.mk _ _ _ (HAdd.hAdd _ _) _)); k_dflt (refine gen_lo (TkLo.le (by assumption) (by omega)) ?_); intro tk hlo'))
local macro_rules | `(tactic| walk_at "execs nil") => `(tactic| (k_here; (with_reducible show wpAny _ _ _ _ _ (Shared.mk _ _ _ (HAdd.hAdd _ _) _)); k_dflt (refine gen_lo (TkLo.le (by assumption) (by omega)) ?_); intro tk hlo'))
local macro_rules | `(tactic| walk_at "execs cons") => `(tactic| (k_here; dsimp only))
local macro_rules | `(tactic| walk_at "execs nil") => `(tactic| (k_here; dsimp only))
section
def cmpP (a b : Int) : Int := if b < a then 1 else if a < b then -1 else 0
theorem cmp_b2i (x y : Int) : b2i (decide (y < x)) - b2i (decide (x < y)) = cmpP x y := by
 unfold cmpP
 by_cases h : y < x
 ·have : ¬ x < y := by omega
  simp [h, this, b2i]
 ·by_cases h' : x < y <;> simp [h, h', b2i]
theorem cmp_spec {w : World} {dp un : Nat} {fr : List Env} {s : Shared} {Q E : Value → Shared → Prop} {x y : Int} {tx ty : Tok}
 (C : Cx w fr s.heap []) (hd : dp + 10 < recursionLimit) (hu : un + 200 < cLine)
 (hret : ∀ (t : Tok) (h' : Heap) (tk' : Nat), Keep s.heap h' [] → s.toks ≤ t → t < tk' → Q (.int (cmpP x y) t) { s with heap := h', toks := tk' }) :
 wpAny (model Pg w) (Ar dp un fr) (call (.ref 183) [.int x tx, .int y ty]) Q E s := by
 k_dflt (refine' enter (binds := [(Str.ofString "x", .int x tx), (Str.ofString "y", .int y ty)]) ?C ?N ?k6 ?k7 ?k8 ?k9 ?kB ?_ ?c2 ?c3 ?c4 ?c5; walk_at "m_in")
 refine @(pk9 δ ?_); generalize z9 _ _ = Z; generalize Z.1.1.1 = g, Z.1.1.2 = L', Z.1.2.1 = h₁, Z.1.2.2 = base, Z.2.1.1 = p, Z.2.1.2 = loose, Z.2.2.1 = mean, Z.2.2.2.1 = mg, Z.2.2.2.2 = mb; intro BO F N B X T S hlt hL
 have hlo₀ : TkLo s.toks s.toks := ⟨Nat.le_refl _⟩
 repeat' first | (k_unfold; try dsimp only) | walk1 | (dsimp only; walk1)
 rename_i tk hlo
 show Q (.int (b2i (decide (y < x)) - b2i (decide (x < y))) _) _
 rw [cmp_b2i]
 exact hret tk _ _ (S.keep F) hlo.out (Nat.lt_succ_self _)

end
end
section
local macro_rules | `(tactic| walk_at "call ref") => `(tactic| (k_here; (with_reducible show wpAny _ _ (call (Value.ref 108) _) _ _ _); k_dflt (refine' getinfo_spec ?C ?hd ?hu ?hx ?hdx ?hD ?hd1 ?hk ?_; (case C => exact cx_of (by k_asm) (by k_asm) (by assumption) (by k_asm) no_mu); (case hd => ktr_room); (case hu => ktr_units); (case hx => walk_at "m_get"); (case hdx => walk_at "m_get"); (case hD => exact bd_lift (by k_asm) (by assumption)); (case hd1 => assumption); (case hk => assumption)); intro h' tk' hK'; (have F' := fr_keep0 (by k_asm) hK'); (have N' := news_keep0 (by k_asm) hK'); (try k_sweep)))
section
structure Nd where
 k : Str
 a : Addr
 v : Value
 c : Int
 ct : Tok
 sa : Addr
 da : Addr
 sv : List Value
 ss : List Str
 sn : Nat
structure NdAt (h : Heap) (n : Nd) : Prop where
 node : h.get? n.a = some (nodeObj n.v n.c n.ct n.sa n.da)
 dict : h.get? n.da = some (dictOf [] 0)
 succ : h.get? n.sa = some (listOf n.sv.toArray n.sn)
 sare : StrsAre n.sv n.ss
 small : n.ss.length < 100
abbrev kvsOf (ns : List Nd) : List (Str × Value) := ns.map fun n => (n.k, .ref n.a)
abbrev rank (ns : List Nd) (y : Str) : Nat := (ns.map (·.k)).idxOf y
structure Fm where
 k : Str
 t : Tok
 q : Addr
 i : Addr
 j : Nat
 nd : Nd
 c : Value
abbrev fobj (f : Fm) : List (Addr × Obj) := [(f.q, nxObj f.i), (f.i, itObj f.nd.sa f.j)]
abbrev fobjs (fs : List Fm) : List (Addr × Obj) := fs.flatMap fobj
abbrev fmap (x d st it sn nd : Addr) (u : Option Value) : Str → Option Value := fun y =>
 if y = Str.ofString "node" then u else if y = Str.ofString "node2stacki" then some (Value.ref nd) else if y = Str.ofString "seen" then some (Value.ref sn) else if y = Str.ofString "itstack" then some (Value.ref it)
 else if y = Str.ofString "stack" then some (Value.ref st) else if y = Str.ofString "n2i" then some (Value.ref d) else List.lookup y [(Str.ofString "self", Value.ref x)]
structure FI (w : World) (ns : List Nd) (fs : List Fm) (od os : Obj) (S : Str → Bool) (kn : Nat) : Prop where
 dict : od.IsDictOf (PySem.strKind Pg w) (fs.map fun f => (f.k, f.c))
 set : os.SetObjOf (PySem.strKind Pg w) S kn
 cnt : kn = (ns.map (·.k)).countP S
 sub : ∀ y, S y = true → y ∈ ns.map (·.k)
 inS : ∀ f ∈ fs, S f.k = true
 sorted : fs.Pairwise fun f f' => rank ns f.k < rank ns f'.k
 its : ∀ f ∈ fs, f.nd ∈ ns ∧ f.nd.k = f.k ∧ f.j ≤ f.nd.ss.length
 len : fs.length ≤ kn
abbrev remOf (fs : List Fm) : Nat := (fs.map fun f => f.nd.ss.length - f.j).sum
abbrev measOf (ns : List Nd) (fs : List Fm) (kn : Nat) : Nat := (ns.length - kn) * 200 + remOf fs
noncomputable def fnB (w : World) (f : Addr) : List Stmt := match (Mine.hd.heap_39 w.params).lookup f with | some ⟨_, _, .func fd, _⟩ => (match fd.body with | .stmts b => b | _ => []) | _ => []
noncomputable def fnS (w : World) (f : Addr) : Scope := match (Mine.hd.heap_39 w.params).lookup f with | some ⟨_, _, .func fd, _⟩ => fd.scope | _ => default
def stB (n : Nat) (l : List Stmt) : List Stmt := match l[n]? with | some (.For _ _ b _ _) => b | some (.While _ b _ _) => b | some (.If _ b _ _) => b | _ => []
section
variable {prog : Program} {w : World} {A : Around} {E : Value → Shared → Prop} {s : Shared} {g : Heap} {L : Addr} {m : Str → Option Value} {news news' : List (Addr × Obj)}
theorem iter_base {l : Addr} {vs : Array Value} {Q : Value → Shared → Prop} (F : Fr g L s.heap m) (N : News g L s.heap news) (hl : g.IsList l vs)
  (h : ∀ I h', Fr g L h' m → News g L h' ((I, itObj l 0) :: news) → (∀ p ∈ news, p.1 < I) → Q (.ref I) { s with heap := h' }) : wpAny (model prog w) A (call (.builtin "iter") [.ref l]) Q E s := by
 refine call_function_entry (by decide +kernel) (by decide +kernel) kdk_entry_iter (kdk_args_iter _) ?_
 unfold Builtin.«iter»
 refine wpAny_bind (m := someArgs "iter" 1 2 _) (wpAny_of_eq (a := [Value.ref l]) (by first | rfl | kernel_rfl!) ?_)
 show wpAny _ _ (pyIter (.ref l) >>= _) _ _ _
 refine wpAny_bind (wpAny_pyIter_list (hl.at fun o e => F.keep _ _ e) ?_)
 exact wpAny_pure ⟨_, rfl, h _ _ (F.push _) (News.push F N _ rfl) (fun q hq => Heap.lt_size (N q hq).1)⟩
theorem nxt_attr {I l : Addr} {i : Nat} {Q : Value → Shared → Prop} (F : Fr g L s.heap m) (N : News g L s.heap news) (hm : (I, itObj l i) ∈ news)
  (h : ∀ q h', Fr g L h' m → News g L h' ((q, nxObj I) :: news) → (∀ p ∈ news, p.1 < q) → Q (.ref q) { s with heap := h', toks := s.toks + 1 }) : wpAny (model prog w) A (getAttr (.ref I) "__next__" true) Q E s := by
 refine hide fun Dq kq => ?_; obtain ⟨hh, gg, d, t, os⟩ := s; refine kq ?_; clear kq Dq
 exact nx_attr (N _ hm).1 (h _ _ (F.push _) (News.push F N _ rfl) (fun q hq => Heap.lt_size (N q hq).1))
theorem nxt_item {q I l : Addr} {i : Nat} {vs : List Value} {v : Value} {Q : Value → Shared → Prop} (F : Fr g L s.heap m) (N : News g L s.heap news) (hq : (q, nxObj I) ∈ news) (U : Upd I (itObj l i) (itObj l (i + 1)) news news') (hl : g.IsList l vs.toArray) (hx : vs[i]? = some v)
  (h : ∀ h', Fr g L h' m → News g L h' news' → Q v { s with heap := h' }) : wpAny (model prog w) A (call (.ref q) []) Q E s := by
 refine hide fun Dq kq => ?_; obtain ⟨pre, post, rfl, rfl, a, b⟩ := U.split; refine kq ?_; clear kq Dq
 have z := N (I, itObj l i) (List.mem_append.mpr (.inr (.head _)))
 refine nx_item (n := 0) (N _ hq).1 z.1 (hl.at fun o e => F.keep _ _ e) hx fun h' e hs => h h' (F.change hs z.2.1 z.2.2) ?_
 exact N.setIn a b hs e
theorem truthy_cat {l : Addr} {vs : List Value} {v : Value} {n : Nat} {Q : Bool → Shared → Prop} (N : News g L s.heap news) (hm : (l, listOf (vs ++ [v]).toArray n) ∈ news) (hz : vs.length < 1000) (h : ∀ tk, Q true { s with toks := tk }) : wpAny (model prog w) A (truthy (.ref l)) Q E s := by
 refine wpAny_truthy_list (PySem.IsL.isList (n := n) (N _ hm).1) (by simp; omega) ?_
 have e : (!(vs ++ [v]).toArray.isEmpty) = true := by simp
 rw [e]; exact h _
theorem last_cat {value slice : PySem.Expr} {l : Addr} {vs : List Value} {v : Value} {n : Nat} {t : Tok} {Q : Value → Shared → Prop} (N : News g L s.heap news) (hm : (l, listOf (vs ++ [v]).toArray n) ∈ news) (h : Q v s)
  (hs : subscripted slice false (.ref l) (.int (-1) t) = operate [.ref l, .int (-1) t] (getItem (.ref l) (.int (-1) t)) := by with_unfolding_all rfl) : wpAny (model prog w) A (subscriptTail value slice (.ref l) (.int (-1) t)) Q E s := by
 have hl := PySem.IsL.isList (n := n) (N _ hm).1
 refine tail_any hl.typeIs slot_list_getitem.lookup (wpAny_getItem_list_neg hl (by decide) (by simp; omega) (by decide) ?_ h) hs
 have e : ((-1 : Int) + ((vs ++ [v]).toArray.size : Nat)).toNat = vs.length := by simp; omega
 rw [e]; simp
theorem last_of : ∀ (vs : List Value) (v : Value), kl_last (vs ++ [v]) = some (vs, v)
 | [], v => rfl
 | [x], v => rfl
 | x :: y :: r, v => by
  have := last_of (y :: r) v
  simp only [List.cons_append] at this ⊢
  unfold kl_last
  rw [this]
theorem pop_cat {l : Addr} {vs : List Value} {v : Value} {n : Nat} {Q : Value → Shared → Prop} (F : Fr g L s.heap m) (N : News g L s.heap news) (U : Upd l (listOf (vs ++ [v]).toArray n) (listOf vs.toArray (n + 1)) news news') (hz : vs.length < 1000)
  (h : ∀ h', Fr g L h' m → News g L h' news' → Q v { s with heap := h' }) : wpAny (model prog w) A (call (.builtin "list.pop") [.ref l]) Q E s := by
 refine kl_pop (p := vs) (y := v) F N (by simpa using last_of vs v) U ?_ h
 rw [sizeLine_eq]; simp; omega
theorem callWith_nx {M : Model} {env : Env} {pos : Pos} {q I : Addr} {Q : Value → Shared → Prop} (ho : s.heap.get? q = some (nxObj I)) (h : wpAny M A (call (.ref q) []) Q E s) : wpAny M A (callWith pos (.ref q) [] (backTo pos (starEach [] env)) []) Q E s :=
 callWith_of (P := fun h => h.get? q = some (nxObj I)) rfl (fun h e => ⟨.machine, .inr (.inl rfl), (Looks.ld (part := none) e).andThen .now⟩) (evalArgs_nil3 ⟨ho, h⟩)
theorem del_K {d : Addr} {o : Obj} {kvs : List (Str × Value)} {u : Obj → List (Addr × Obj)} {k : Str} {tk : Tok} {Q : Unit → Shared → Prop} (F : Fr g L s.heap m) (N : News g L s.heap news) (U : UpdF d o news u) (hd : o.IsDictOf (PySem.strKind prog w) kvs) (hl : (valueAt kvs k).isSome = true) (hz : kvs.length < 1000)
  (h : ∀ h' o', Fr g L h' m → News g L h' (u o') → o'.IsDictOf (PySem.strKind prog w) (without kvs k) → Q () { s with heap := h', toks := s.toks + 1 }) : wpAny (model prog w) A (delItem (.ref d) (.str k tk)) Q E s := by
 refine hide fun Dq kq => ?_; obtain ⟨pre, post, rfl, hg, a, b⟩ := U.split; refine kq ?_; clear kq Dq
 have hm := N (d, o) (List.mem_append_right _ (.head _))
 have hD : s.heap.DictOf (PySem.strKind prog w) d kvs := Heap.dictOf_iff.mpr ⟨o, hm.1, hd⟩
 unfold delItem
 refine wpAny_holding ?_
 refine wpAny_bind (wpAny_sequenceKey hD.typeIs (by decide) ?_)
 refine wpAny_bind (wpAny_callSpecial?_slot (name := Str.ofString "__delitem__") hD.typeIs PySem.F.slot_dict_delitem
  (call_meetsIn PySem.F.slot_dict_delitem hD.typeIs PySem.F.entry_dict_delitem (PySem.F.args_dict_delitem_2 _ _) (meets_dict_delitem_pairs (PySem.strKind prog w) d (strKind_is _ _ _ _)) ⟨kvs, hD, (by rw [sizeLine_eq]; omega), hl, fun h' hmm hs => ?_⟩))
 refine hide fun Dq kq => ?_; obtain ⟨o', ho', hd'⟩ := Heap.dictOf_iff.mp hmm; refine kq ?_; clear kq Dq
 exact wpAny_pure (h h' o' (F.change hs hm.2.1 hm.2.2) (hg o' ▸ N.setIn a b hs ho') hd')
theorem app_cat {l : Addr} {vs : List Value} {v : Value} {n : Nat} {Q : Value → Shared → Prop} (F : Fr g L s.heap m) (N : News g L s.heap news) (U : Upd l (listOf vs.toArray n) (listOf (vs ++ [v]).toArray (n + 1)) news news') (hz : vs.length < 1000)
  (h : ∀ h', Fr g L h' m → News g L h' news' → Q .none { s with heap := h' }) : wpAny (model prog w) A (call (.builtin "list.append") [.ref l, v]) Q E s := by
 refine append_K (its := vs.toArray) (n := n) F N ?_ h (by rw [sizeLine_eq, List.size_toArray]; omega)
 have e : vs.toArray.push v = (vs ++ [v]).toArray := by simp
 rw [e]; exact U
theorem len_cat {l : Addr} {vs : List Value} {n : Nat} {Q : Value → Shared → Prop} (N : News g L s.heap news) (hm : (l, listOf vs.toArray n) ∈ news) (hz : vs.length < 1000) (h : Q (.int vs.length (s.toks + 1)) { s with toks := s.toks + 1 + 1 }) : wpAny (model prog w) A (call (.builtin "len") [.ref l]) Q E s :=
 kun_lenL (PySem.IsL.isList (n := n) (N _ hm).1) (by simp) (by omega) h
theorem setI_K {d : Addr} {o : Obj} {kvs : List (Str × Value)} {u : Obj → List (Addr × Obj)} {k : Str} {tk : Tok} {v : Value} {Q : Unit → Shared → Prop} (F : Fr g L s.heap m) (N : News g L s.heap news) (U : UpdF d o news u) (hd : o.IsDictOf (PySem.strKind prog w) kvs) (hz : kvs.length < 1000)
  (h : ∀ h' o', Fr g L h' m → News g L h' (u o') → o'.IsDictOf (PySem.strKind prog w) (stored kvs k v) → Q () { s with heap := h', toks := s.toks + 1 }) : wpAny (model prog w) A (setItem (.ref d) (.str k tk) v) Q E s := by
 refine hide fun Dq kq => ?_; obtain ⟨pre, post, rfl, hg, a, b⟩ := U.split; refine kq ?_; clear kq Dq
 have hm := N (d, o) (List.mem_append_right _ (.head _))
 refine wpAny_setItem_pairs (hsz := by rw [sizeLine_eq]; omega) (strKind_is _ _ _ _) (Heap.dictOf_iff.mpr ⟨o, hm.1, hd⟩) fun h' hmm hs => ?_
 refine hide fun Dq kq => ?_; obtain ⟨o', ho', hd'⟩ := Heap.dictOf_iff.mp hmm; refine kq ?_; clear kq Dq
 exact h h' o' (F.change hs hm.2.1 hm.2.2) (hg o' ▸ N.setIn a b hs ho') hd'
def dk : List Addr → List Addr
 | [] => []
 | a :: l => if a ∈ dk l then dk l else a :: dk l
theorem mem_dk {a : Addr} : ∀ {l : List Addr}, a ∈ dk l ↔ a ∈ l
 | [] => Iff.rfl
 | b :: l => by
  unfold dk
  split
  ·rename_i hb
   rw [mem_dk, List.mem_cons]
   exact ⟨.inr, fun h => h.elim (fun e => e ▸ mem_dk.mp hb) id⟩
  ·rw [List.mem_cons, List.mem_cons, mem_dk]
theorem dk_nodup : ∀ (l : List Addr), (dk l).Nodup
 | [] => List.nodup_nil
 | b :: l => by
  unfold dk
  split
  ·exact dk_nodup l
  ·exact List.nodup_cons.mpr ⟨by assumption, dk_nodup l⟩
theorem off_tail {T T' : List (Addr × Obj)} {a : Addr} (h : a ∉ T.map (·.1) ++ dk (T'.map (·.1))) : ∀ p ∈ T ++ T', p.1 ≠ a := fun p hp e => by
 rcases List.mem_append.mp hp with hp | hp
 ·exact h (List.mem_append_left _ (e ▸ List.mem_map_of_mem hp))
 ·exact h (List.mem_append_right _ (mem_dk.mpr (e ▸ List.mem_map_of_mem hp)))
end
theorem fmap_set {x d st it sn nd : Addr} {u : Option Value} {v : Value} : (fun y => if y = Str.ofString "node" then some v else fmap x d st it sn nd u y) = fmap x d st it sn nd (some v) := by
 funext y
 by_cases h : y = Str.ofString "node"
 ·subst h; rfl
 ·simp only [fmap, if_neg h]
theorem FI.step {w : World} {ns : List Nd} {fs : List Fm} {f : Fm} {od os : Obj} {S : Str → Bool} {kn : Nat} (I : FI w ns (fs ++ [f]) od os S kn) (hj : f.j < f.nd.ss.length) : FI w ns (fs ++ [{ f with j := f.j + 1 }]) od os S kn where
 dict := by simpa using I.dict
 set := I.set
 cnt := I.cnt
 sub := I.sub
 inS := fun y hy => by
  rcases List.mem_append.mp hy with hy | hy
  ·exact I.inS y (List.mem_append_left _ hy)
  ·rw [List.mem_singleton.mp hy]; exact I.inS f (by simp)
 sorted := by
  have := I.sorted
  rw [List.pairwise_append] at this ⊢
  exact ⟨this.1, List.pairwise_singleton .., fun a ha b hb => by rw [List.mem_singleton.mp hb]; exact this.2.2 a ha f (by k_mem)⟩
 its := fun y hy => by
  rcases List.mem_append.mp hy with hy | hy
  ·exact I.its y (List.mem_append_left _ hy)
  ·rw [List.mem_singleton.mp hy]
   have := I.its f (by simp)
   exact ⟨this.1, this.2.1, hj⟩
 len := by simpa using I.len
theorem FI.below {w : World} {ns : List Nd} {fs : List Fm} {f : Fm} {od os : Obj} {S : Str → Bool} {kn : Nat} (I : FI w ns (fs ++ [f]) od os S kn) : ∀ f' ∈ fs, rank ns f'.k < rank ns f.k := fun f' hf => by
 have := I.sorted
 rw [List.pairwise_append] at this
 exact this.2.2 f' hf f (by k_mem)
theorem FI.small {w : World} {ns : List Nd} {fs : List Fm} {od os : Obj} {S : Str → Bool} {kn : Nat} (I : FI w ns fs od os S kn) (hlen : ns.length < 100) : kn < 100 ∧ fs.length < 100 := by
 have h1 : kn ≤ ns.length := by rw [I.cnt]; exact Nat.le_trans List.countP_le_length (by simp)
 have := I.len
 exact ⟨by omega, by omega⟩
theorem FI.fresh {w : World} {ns : List Nd} {fs : List Fm} {f : Fm} {od os : Obj} {S : Str → Bool} {kn : Nat} (I : FI w ns (fs ++ [f]) od os S kn) : ∀ f' ∈ fs, f'.k ≠ f.k := fun f' hf e => by
 have := I.below f' hf
 rw [e] at this
 exact Nat.lt_irrefl _ this
theorem FI.has {w : World} {ns : List Nd} {fs : List Fm} {f : Fm} {od os : Obj} {S : Str → Bool} {kn : Nat} (I : FI w ns (fs ++ [f]) od os S kn) : (valueAt ((fs ++ [f]).map fun f => (f.k, f.c)) f.k).isSome = true := by
 unfold valueAt
 rw [Option.isSome_map, List.find?_isSome]
 exact ⟨(f.k, f.c), by simp, by simp⟩
theorem FI.gone {w : World} {ns : List Nd} {fs : List Fm} {f : Fm} {od os : Obj} {S : Str → Bool} {kn : Nat} (I : FI w ns (fs ++ [f]) od os S kn) : without ((fs ++ [f]).map fun f => (f.k, f.c)) f.k = fs.map fun f => (f.k, f.c) := by
 unfold without
 rw [List.map_append, List.filter_append]
 simp only [List.map_cons, List.map_nil, List.filter_cons, List.filter_nil, ne_eq, not_true_eq_false, decide_false, Bool.false_eq_true, if_false, List.append_nil]
 refine List.filter_eq_self.mpr fun a ha => ?_
 refine hide fun Dq kq => ?_; obtain ⟨f', hf', rfl⟩ := List.mem_map.mp ha; refine kq ?_; clear kq Dq
 exact decide_eq_true (I.fresh f' hf')
theorem FI.pop {w : World} {ns : List Nd} {fs : List Fm} {f : Fm} {od od' os : Obj} {S : Str → Bool} {kn : Nat} (I : FI w ns (fs ++ [f]) od os S kn) (hd : od'.IsDictOf (PySem.strKind Pg w) (fs.map fun f => (f.k, f.c))) : FI w ns fs od' os S kn where
 dict := hd
 set := I.set
 cnt := I.cnt
 sub := I.sub
 inS := fun y hy => I.inS y (List.mem_append_left _ hy)
 sorted := (List.pairwise_append.mp I.sorted).1
 its := fun y hy => I.its y (List.mem_append_left _ hy)
 len := by have := I.len; simp at this; omega
theorem off_sl {fs : List Fm} {frs frs' : List (Addr × Obj)} (hs : SlR frs frs') {a : Addr} (h : ∀ p ∈ fobjs fs ++ frs, p.1 ≠ a) : ∀ p ∈ fobjs fs ++ frs', p.1 ≠ a := fun p hp => by
 rcases List.mem_append.mp hp with hp | hp
 ·exact h p (List.mem_append_left _ hp)
 ·have hkk : p.1 ∈ frs.map (·.1) := by rw [← hs.keys]; exact List.mem_map_of_mem hp
  refine hide fun Dq kq => ?_; obtain ⟨p', hp', e'⟩ := List.mem_map.mp hkk; refine kq ?_; clear kq Dq
  rw [← e']; exact h p' (List.mem_append_right _ hp')

end
section
section
variable {prog : Program} {w : World} {A : Around} {E : Value → Shared → Prop} {s : Shared} {g : Heap} {L d : Addr} {m : Str → Option Value} {kvs : List (Str × Value)} {news : List (Addr × Obj)} {o : Obj} {k : Str} {t : Tok}
theorem ld_get0 {Q : Value → Shared → Prop} (N : News g L s.heap news) (hm : (d, o) ∈ news) (hd : o.IsDictOf (PySem.strKind prog w) kvs) (lo : (d == sysModules) = false) (hl : valueAt kvs k = none) (h : Q .none { s with toks := s.toks + 1 }) :
  wpAny (model prog w) A (call (.builtin "dict.get") [.ref d, .str k t]) Q E s :=
 have hD : s.heap.DictOf (PySem.strKind prog w) d kvs := Heap.dictOf_iff.mpr ⟨o, (N _ hm).1, hd⟩
 call_meetsIn PySem.F.slot_dict_get hD.typeIs PySem.F.entry_dict_get (PySem.F.args_dict_get_2 _ _) (meets_dict_get (PySem.strKind prog w) d (strKind_is _ _ _ _) lo) ⟨_, hD.mapOf, by rw [hl]; exact h⟩
end

end
section
local macro_rules | `(tactic| walk_at "truthy ref") => `(tactic| (k_here; k_dflt (refine truthy_cat (by k_asm) (by k_mem) (by assumption) ?_); intro tkT))
local macro_rules | `(tactic| walk_at "subscriptTail") => `(tactic| (k_here; (with_reducible show wpAny _ _ (subscriptTail _ _ (Value.ref _) (Value.int _ _)) _ _ _); k_dflt (refine last_cat (by k_asm) (by k_mem) ?_)))
local macro_rules | `(tactic| walk_at "call builtin:list.pop") => `(tactic| (k_here; k_dflt (refine' pop_cat ?F ?N ?U ?z ?_; (case F => k_asm); (case N => k_asm); (case U => k_upd); (case z => assumption)); intro h' F' N'; (try k_sweep)))
local macro_rules | `(tactic| walk_at "call builtin:iter") => `(tactic| (k_here; k_dflt (refine' iter_base ?F ?N ?l ?_; (case F => k_asm); (case N => k_asm); (case l => assumption)); intro D' h' F' N' l1; (have l2 := l1); (try k_lt l1)))
local macro_rules | `(tactic| walk_at "getAttr ref") => `(tactic| (k_here; (with_reducible show wpAny _ _ (getAttr (Value.ref _) (PySem.Str.ofString "__next__") _) _ _ _); k_dflt (refine' nxt_attr ?F ?N ?m ?_; (case F => k_asm); (case N => k_asm); (case m => k_mem)); intro D' h' F' N' l1; (have l2 := l1); (try k_lt l1)))
local macro_rules | `(tactic| walk_at "callWith ref nil nil") => `(tactic| (k_here; (with_reducible show wpAny _ _ (callWith _ (Value.ref _) [] (backTo _ (starEach [] _)) []) _ _ _); k_dflt (refine callWith_nx (News.get (by k_asm) (by k_mem)) ?_)))
local macro_rules | `(tactic| walk_at "call ref") => `(tactic| (k_here; (with_reducible show wpAny _ _ (call (Value.ref _) []) _ _ _); k_dflt (refine' nxt_item ?F ?N ?q ?U ?l ?x ?_; (case F => k_asm); (case N => k_asm); (case q => k_mem); (case U => k_upd); (case l => assumption); (case x => assumption)); intro h' F' N'; (try k_sweep)))
local macro_rules | `(tactic| walk_at "delItem ref str") => `(tactic| (k_here; k_dflt (refine' del_K ?F ?N ?U ?d ?l ?z ?_; (case F => k_asm); (case N => k_asm); (case U => k_updF); (case d => assumption); (case l => assumption); (case z => assumption)); intro h' o' F' N' hd'; (try dsimp only at N'); (try k_sweep)))
local macro_rules | `(tactic| walk_at "call builtin:list.append") => `(tactic| (k_here; (with_reducible show wpAny _ _ (call (Value.builtin _) [Value.ref _, _]) _ _ _); k_dflt (refine' app_cat ?k1 ?k2 ?k3 ?z ?_; (case k1 => k_asm); (case k2 => k_asm); (case k3 => k_upd); (case z => assumption); k_whole); intro h' F' N'; (try k_sweep)))
local macro_rules | `(tactic| walk_at "call builtin:len") => `(tactic| (k_here; k_dflt (refine len_cat (by k_asm) (by k_mem) (by assumption) ?_)))
local macro_rules | `(tactic| walk_at "setItem ref str int") => `(tactic| (k_here; k_dflt (refine' setI_K ?F ?N ?U ?d ?z ?_; (case F => k_asm); (case N => k_asm); (case U => k_updF); (case d => assumption); (case z => assumption)); intro h' o' F' N' hd'; (try dsimp only at N'); (try k_sweep)))
section
theorem eq_snoc {α : Type} (l : List α) : l = [] ∨ E2 fun k a => l = k ++ [a] := by
 rcases List.eq_nil_or_concat l with h | ⟨k, a, h⟩
 ·exact .inl h
 ·exact .inr ⟨k, a, by rw [h]; simp⟩
theorem fobjs_snoc (fs : List Fm) (f : Fm) : fobjs (fs ++ [f]) = fobjs fs ++ [(f.q, nxObj f.i), (f.i, itObj f.nd.sa f.j)] := by simp [fobjs]
theorem fkeys_snoc (fs : List Fm) (f : Fm) : (fobjs (fs ++ [f])).map (·.1) = (fobjs fs).map (·.1) ++ [f.q, f.i] := by rw [fobjs_snoc, List.map_append]; rfl
theorem mem_in {α : Type} {p a b : α} {X F R : List α} (h : p ∈ a :: b :: (X ++ (F ++ R))) : p ∈ X ++ ((F ++ [a, b]) ++ R) := by
 simp only [List.mem_cons, List.mem_append, List.not_mem_nil, or_false] at h ⊢
 rcases h with h | h | h | h | h <;> simp [h]
theorem mem_out {α : Type} {p a b : α} {X F R : List α} (h : p ∈ X ++ ((F ++ [a, b]) ++ R)) : p ∈ a :: b :: (X ++ (F ++ R)) := by
 simp only [List.mem_cons, List.mem_append, List.not_mem_nil, or_false] at h ⊢
 rcases h with h | (h | h | h) | h <;> simp [h]
theorem nd_io {a b : Addr} {X F R : List Addr} : (X ++ ((F ++ [a, b]) ++ R)).Nodup ↔ (a :: b :: (X ++ (F ++ R))).Nodup := by
 refine List.Perm.nodup_iff (List.perm_iff_count.mpr fun z => ?_)
 simp only [List.count_append, List.count_cons, List.count_nil]; omega
inductive ND5 (a b c d e : Addr) (T : List (Addr × Obj)) : Prop
 | mk (c1 : a ≠ b) (c2 : a ≠ c) (c3 : a ≠ d) (c4 : a ≠ e) (c5 : ∀ p ∈ T, p.1 ≠ a) (e1 : b ≠ c) (e2 : b ≠ d) (e3 : b ≠ e) (e4 : ∀ p ∈ T, p.1 ≠ b) (f1 : c ≠ d) (f2 : c ≠ e) (f3 : ∀ p ∈ T, p.1 ≠ c) (g1 : d ≠ e) (g2 : ∀ p ∈ T, p.1 ≠ d) (k1 : ∀ p ∈ T, p.1 ≠ e)
theorem nd5 {a b c d e : Addr} {F R : List (Addr × Obj)} (h : ([a, b, c, d, e] ++ (F.map (·.1) ++ dk (R.map (·.1)))).Nodup) : ND5 a b c d e (F ++ R) := by
 simp only [List.cons_append, List.nil_append, List.nodup_cons, List.mem_cons, not_or] at h
 refine hide fun Dq kq => ?_; obtain ⟨⟨c1, c2, c3, c4, c5⟩, ⟨e1, e2, e3, e4⟩, ⟨f1, f2, f3⟩, ⟨g1, g2⟩, k1, hT⟩ := h; refine kq ?_; clear kq Dq
 exact ⟨c1, c2, c3, c4, off_tail c5, e1, e2, e3, off_tail e4, f1, f2, off_tail f3, g1, off_tail g2, off_tail k1⟩
inductive ND7 (q i a b c d e : Addr) (T : List (Addr × Obj)) : Prop
 | mk (a1 : q ≠ i) (a2 : q ≠ a) (a3 : q ≠ b) (a4 : q ≠ c) (a5 : q ≠ d) (a6 : q ≠ e) (a7 : ∀ p ∈ T, p.1 ≠ q) (b1 : i ≠ a) (b2 : i ≠ b) (b3 : i ≠ c) (b4 : i ≠ d) (b5 : i ≠ e) (b6 : ∀ p ∈ T, p.1 ≠ i) (r : ND5 a b c d e T)
theorem nd7 {fs : List Fm} {f : Fm} {a b c d e : Addr} {R : List (Addr × Obj)} (h : ([a, b, c, d, e] ++ ((fobjs (fs ++ [f])).map (·.1) ++ dk (R.map (·.1)))).Nodup) : ND7 f.q f.i a b c d e (fobjs fs ++ R) := by
 rw [fkeys_snoc] at h
 have h1 := List.nodup_cons.mp (nd_io.mp h)
 have h2 := List.nodup_cons.mp h1.2
 have h3 := h1.1
 have h4 := h2.1
 simp only [List.cons_append, List.nil_append, List.mem_cons, not_or] at h3 h4
 refine hide fun Dq kq => ?_; obtain ⟨a1, a2, a3, a4, a5, a6, a7⟩ := h3; refine kq ?_; clear kq Dq
 refine hide fun Dq kq => ?_; obtain ⟨b1, b2, b3, b4, b5, b6⟩ := h4; refine kq ?_; clear kq Dq
 exact ⟨a1, a2, a3, a4, a5, a6, off_tail a7, b1, b2, b3, b4, b5, off_tail b6, nd5 h2.2⟩
theorem nd_sep {X : List Addr} {F R : List (Addr × Obj)} (h : (X ++ (F.map (·.1) ++ dk (R.map (·.1)))).Nodup) : ∀ p ∈ F, ∀ r ∈ R, r.1 ≠ p.1 := fun p hp r hr e =>
 (List.nodup_append.mp (List.nodup_append.mp h).2.1).2.2 p.1 (List.mem_map_of_mem hp) r.1 (mem_dk.mpr (List.mem_map_of_mem hr)) e.symm
theorem sep7 {q i a b c d e : Addr} {o1 o2 o3 o4 o5 o6 o7 : Obj} {F R : List (Addr × Obj)} (h : ND7 q i a b c d e (F ++ R)) (k : ∀ p ∈ F, ∀ r ∈ R, r.1 ≠ p.1) : ∀ p ∈ (q, o1) :: (i, o2) :: (a, o3) :: (b, o4) :: (c, o5) :: (d, o6) :: (e, o7) :: F, ∀ r ∈ R, r.1 ≠ p.1 := by
 refine hide fun Dq kq => ?_; obtain ⟨a1, a2, a3, a4, a5, a6, a7, b1, b2, b3, b4, b5, b6, ⟨c1, c2, c3, c4, c5, e1, e2, e3, e4, f1, f2, f3, g1, g2, k1⟩⟩ := h; refine kq ?_; clear kq Dq
 have z : ∀ {y : Addr}, (∀ p ∈ F ++ R, p.1 ≠ y) → ∀ r ∈ R, r.1 ≠ y := fun h r hr => h r (List.mem_append_right _ hr)
 exact all_cons (z a7) (all_cons (z b6) (all_cons (z c5) (all_cons (z e4) (all_cons (z f3) (all_cons (z g2) (all_cons (z k1) k))))))
theorem News.assoc {g h : Heap} {L : Addr} {A B C : List (Addr × Obj)} : News g L h (A ++ B ++ C) ↔ News g L h (A ++ (B ++ C)) := by rw [List.append_assoc]
theorem pre_small {α : Type} {fs : List Fm} {f : Fm} {k : Fm → α} (h : (fs ++ [f]).length < 100) : (fs.map k).length < 1000 := by
 rw [List.length_append] at h; rw [List.length_map]; omega
theorem all_small {α : Type} {fs : List Fm} {k : Fm → α} (h : fs.length < 100) : (fs.map k).length < 1000 := by rw [List.length_map]; omega
structure FSt (w : World) (ns : List Nd) (g : Heap) (L x d st it sn nd Ii : Addr) (oI : Obj) (frs0 : List (Addr × Obj)) (u : Option Value) (fs : List Fm) (od os : Obj) (S : Str → Bool) (kn n1 n2 : Nat) (frs : List (Addr × Obj)) (h : Heap) : Prop where
 F : Fr g L h (fmap x d st it sn nd u)
 N : News g L h ((Ii, oI) :: (nd, od) :: (sn, os) :: (it, listOf (fs.map fun f => Value.ref f.q).toArray n1) :: (st, listOf (fs.map fun f => Value.str f.k f.t).toArray n2) :: (fobjs fs ++ frs))
 I : FI w ns fs od os S kn
 nodup : ([Ii, nd, sn, it, st] ++ ((fobjs fs).map (·.1) ++ dk (frs.map (·.1)))).Nodup
 sl : SlR frs0 frs
abbrev frontL (w : World) (st it sn nd Ii : Addr) (oI : Obj) (fs : List Fm) (f : Fm) (od os : Obj) (n1 n2 : Nat) (frs : List (Addr × Obj)) : List (Addr × Obj) :=
 (f.q, nxObj f.i) :: (f.i, itObj f.nd.sa f.j) :: (Ii, oI) :: (nd, od) :: (sn, os) :: (it, listOf ((fs.map fun f => Value.ref f.q) ++ [Value.ref f.q]).toArray n1) :: (st, listOf ((fs.map fun f => Value.str f.k f.t) ++ [Value.str f.k f.t]).toArray n2) :: (fobjs fs ++ frs)
theorem FSt.front {w : World} {ns : List Nd} {g : Heap} {L x d st it sn nd Ii : Addr} {oI : Obj} {frs0 : List (Addr × Obj)} {u : Option Value} {fs : List Fm} {f : Fm} {od os : Obj} {S : Str → Bool} {kn n1 n2 : Nat} {frs : List (Addr × Obj)} {h : Heap}
  (z : FSt w ns g L x d st it sn nd Ii oI frs0 u (fs ++ [f]) od os S kn n1 n2 frs h) : News g L h (frontL w st it sn nd Ii oI fs f od os n1 n2 frs) := by
 have N := z.N
 rw [fobjs_snoc, List.map_append, List.map_append] at N
 exact fun p hp => N p (mem_in (X := [_, _, _, _, _]) hp)
theorem FSt.snoc {w : World} {ns : List Nd} {g : Heap} {L x d st it sn nd Ii : Addr} {oI : Obj} {frs0 : List (Addr × Obj)} {u : Option Value} {fs : List Fm} {f : Fm} {od os : Obj} {S : Str → Bool} {kn n1 n2 : Nat} {frs : List (Addr × Obj)} {h : Heap}
  (F : Fr g L h (fmap x d st it sn nd u)) (N : News g L h (frontL w st it sn nd Ii oI fs f od os n1 n2 frs)) (I : FI w ns (fs ++ [f]) od os S kn)
  (nodup : (f.q :: f.i :: ([Ii, nd, sn, it, st] ++ ((fobjs fs).map (·.1) ++ dk (frs.map (·.1))))).Nodup) (sl : SlR frs0 frs) : FSt w ns g L x d st it sn nd Ii oI frs0 u (fs ++ [f]) od os S kn n1 n2 frs h := by
 refine ⟨F, ?_, I, by rw [fkeys_snoc]; exact nd_io.mpr nodup, sl⟩
 rw [fobjs_snoc, List.map_append, List.map_append]
 exact fun p hp => N p (mem_out (X := [_, _, _, _, _]) hp)
noncomputable abbrev fcEnv (w : World) (L : Addr) : Env := envOf (Str.ofString "TopologicalSorter._find_cycle") (fnS w 155) L 155 (.ref 154)
noncomputable abbrev fcFor (w : World) : List Stmt := stB 5 (fnB w 155)
noncomputable abbrev fcWh (w : World) : List Stmt := stB 1 (fcFor w)
noncomputable def fcW2 (w : World) : Stmt := ((fcWh w)[1]?).getD default
section
local macro_rules | `(tactic| walk_at "exec While") => `(tactic| (refine Hold.out ?_))
local macro_rules | `(tactic| walk_at "exec Try") => `(tactic| (refine Hold.out ?_))
theorem fc_W2 {w : World} {dp un : Nat} {fr : List Env} {base g : Heap} {L x d st it sn nd Ii : Addr} {oI : Obj} {frs0 : List (Addr × Obj)} {ns : List Nd} {S : Str → Bool} {kn M : Nat} {os : Obj} {s : Shared} {Q : Flow → Shared → Prop} {p : Program} {loose : List Str} {mean : ExcName → Option Value} {mg mb : Str → Option Value}
  (X : (Mine.hd.heap_39 w.params).In g) (T : Top p loose mean mg mb g) (hF0 : Frs base fr frs0) (stb : base.StaysIn g) (hlo : (nd == sysModules) = false)
  (hns : ∀ n ∈ ns, NdAt g n) (hrank : ∀ n ∈ ns, ∀ y ∈ n.ss, y ∈ ns.map (·.k) ∧ rank ns n.k < rank ns y) (hlen : ns.length < 100)
  {u : Option Value} {fs : List Fm} {od : Obj} {n1 n2 : Nat} {frs : List (Addr × Obj)} (hst : FSt w ns g L x d st it sn nd Ii oI frs0 u fs od os S kn n1 n2 frs s.heap) (hM : measOf ns fs kn ≤ M)
  (hnext : ∀ h' tk' fs' y ty od' n1' n2' frs', FSt w ns g L x d st it sn nd Ii oI frs0 (some (.str y ty)) fs' od' os S kn n1' n2' frs' h' → measOf ns fs' kn < M → y ∈ ns.map (·.k) → (∀ f ∈ fs', rank ns f.k < rank ns y) → Q .next { s with heap := h', toks := tk' })
  (hbrk : ∀ h' tk' u' od' n1' n2' frs', FSt w ns g L x d st it sn nd Ii oI frs0 u' [] od' os S kn n1' n2' frs' h' → Q .brk { s with heap := h', toks := tk' }) : wpAny (model Pg w) ((Ar dp un fr).deeper (fcEnv w L)) (exec (fcW2 w) (fcEnv w L)) Q (fun _ _ => False) s := by
 revert X T hF0 stb hlo hns hrank hlen hst hM hnext hbrk
 revert w dp un fr base g L x d st it sn nd Ii oI frs0 ns S kn M os s Q p loose mean mg mb u fs od n1 n2 frs
 refine @(pk34 (((((w00, δ), δ), δ), δ), ((δ, ((s00, δ), (Pg, δ))), δ)) ?_)
 generalize z34 _ _ = Z; generalize Z.1.1.1.1.1 = w, Z.1.1.1.1.2 = dp, Z.1.1.1.2.1 = un, Z.1.1.1.2.2 = fr, Z.1.1.2.1.1 = base, Z.1.1.2.1.2 = g, Z.1.1.2.2.1 = L, Z.1.1.2.2.2 = x, Z.1.2.1.1.1 = d, Z.1.2.1.1.2 = st, Z.1.2.1.2.1 = it, Z.1.2.1.2.2 = sn, Z.1.2.2.1.1 = nd, Z.1.2.2.1.2 = Ii, Z.1.2.2.2.1 = oI, Z.1.2.2.2.2.1 = frs0, Z.1.2.2.2.2.2 = ns, Z.2.1.1.1.1 = S, Z.2.1.1.1.2 = kn, Z.2.1.1.2.1 = M, Z.2.1.1.2.2 = os, Z.2.1.2.1.1 = s, Z.2.1.2.1.2 = Q, Z.2.1.2.2.1 = p, Z.2.1.2.2.2 = loose, Z.2.2.1.1.1 = mean, Z.2.2.1.1.2 = mg, Z.2.2.1.2.1 = mb, Z.2.2.1.2.2 = u, Z.2.2.2.1.1 = fs, Z.2.2.2.1.2 = od, Z.2.2.2.2.1 = n1, Z.2.2.2.2.2.1 = n2, Z.2.2.2.2.2.2 = frs
 intro X T hF0 stb hlo hns hrank hlen hst hM hnext hbrk
 with_unfolding_all show wpAny _ ((Ar dp un fr).deeper (envOf _ (Scope.mk _ _ _ _ _) _ _ _)) (exec (Stmt.While _ _ _ _) (envOf _ (Scope.mk _ _ _ _ _) _ _ _)) _ _ _
 refine While_K (fun n s' => E8 fun h' tk' u fs od n1 n2 frs => A4 (s' = { s with heap := h', toks := tk' }) (FSt w ns g L x d st it sn nd Ii oI frs0 u fs od os S kn n1 n2 frs h') (n = fs.length) (measOf ns fs kn ≤ M)) fs.length ⟨s.heap, s.toks, u, fs, od, n1, n2, frs, rfl, hst, rfl, hM⟩ ?_ PassesOwn.never
 clear hst hM
 rintro n s' hJq; refine hide fun Dq kq => ?_; obtain ⟨h', tk', u, fs, od, n1, n2, frs, rfl, hst, rfl, hM⟩ := hJq; refine kq ?_; clear kq Dq
 rcases eq_snoc fs with rfl | ⟨fs, f, rfl⟩
 ·have F' := hst.F
  have N' := hst.N
  dsimp only [List.map_nil, List.flatMap_nil, fobjs] at N'
  k_steps
  exact hbrk h' _ u od n1 n2 frs hst
 ·have F' := hst.F
  have hsm := hst.I.small hlen
  have N2 := hst.front
  have H7 := nd7 hst.nodup
  refine hide fun Dq kq => ?_; obtain ⟨a1, a2, a3, a4, a5, a6, a7, b1, b2, b3, b4, b5, b6, ⟨c1, c2, c3, c4, c5, e1, e2, e3, e4, f1, f2, f3, g1, g2, k1⟩⟩ := id H7; refine kq ?_; clear kq Dq
  have hz : (fs.map fun f => Value.ref f.q).length < 1000 := pre_small hsm.2
  have hz2 : (fs.map fun f => Value.str f.k f.t).length < 1000 := pre_small hsm.2
  have hfin := hst.I.its f (List.mem_append_right _ (.head _))
  have NA := hns f.nd hfin.1
  have hsl : g.IsList f.nd.sa f.nd.sv.toArray := PySem.IsL.isList (n := f.nd.sn) NA.succ
  k_steps
  refine Hold.mk ?_
  refine wpAny_Try_except ?_
  by_cases hj : f.j < f.nd.ss.length
  ·obtain ⟨ty, hv⟩ := NA.sare.get f.j _ (List.getElem?_eq_getElem hj)
   have hy := hrank f.nd hfin.1 _ (List.getElem_mem hj)
   k_steps
   rename_i hX FX NX
   rw [fmap_set] at FX
   refine hnext _ _ (fs ++ [{ f with j := f.j + 1 }]) _ ty od n1 n2 frs (FSt.snoc FX NX (hst.I.step hj) (nd_io.mp (by have := hst.nodup; rw [fkeys_snoc] at this; exact this)) hst.sl) ?_ hy.1 ?_
   ·refine Nat.lt_of_lt_of_le ?_ hM
    simp only [measOf, remOf, List.map_append, List.map_cons, List.map_nil, List.sum_append, List.sum_cons, List.sum_nil]
    omega
   ·intro f' hf'
    have e := hfin.2.1
    rcases List.mem_append.mp hf' with hf' | hf'
    ·have := hst.I.below f' hf'
     exact Nat.lt_trans (by rw [e]; exact this) hy.2
    ·rw [List.mem_singleton.mp hf']
     show rank ns f.k < _
     rw [← e]; exact hy.2
  ·have hv : f.nd.sv[f.j]? = none := by rw [List.getElem?_eq_none]; rw [NA.sare.length]; omega
   k_steps
   refine nx_end rfl (News.get N2 (.head _)) (News.get N2 (.tail _ (.head _))) (li_lift F' hsl) hv ?_
   intro h₁ h₂ e o' ho' hs hx
   have z := N2 _ (.tail _ (.head _))
   have F₁ := F'.change hs z.2.1 z.2.2
   have N₁ : News g L h₁ ([(f.q, nxObj f.i), (f.i, o'), (Ii, oI), (nd, od), (sn, os), (it, listOf ((fs.map fun f => Value.ref f.q) ++ [Value.ref f.q]).toArray n1), (st, listOf ((fs.map fun f => Value.str f.k f.t) ++ [Value.str f.k f.t]).toArray n2)] ++ fobjs fs ++ frs) :=
    News.assoc.mpr (N2.setIn (own := [(f.q, nxObj f.i)]) (all_cons a1 fun _ hp => nomatch hp) (all_cons (Ne.symm b1) (all_cons (Ne.symm b2) (all_cons (Ne.symm b3) (all_cons (Ne.symm b4) (all_cons (Ne.symm b5) b6))))) hs ho')
   refine caught_F (T := "StopIteration") (base := base) rfl rfl rfl F₁ N₁ (hst.sl.frs hF0) stb ?_ hx ?_ ?_ ?_ ?_ ?_
   ·exact sep7 H7 fun p hp => nd_sep hst.nodup p (by rw [fobjs_snoc]; exact List.mem_append_left _ hp)
   ·rw [isSubtype_type]; kernel_rfl
   ·rw [isSubtype_type]; kernel_rfl
   ·rw [isSubtype_type]; kernel_rfl
   ·intro s' Q' E' F'' hQ
    k_steps
    exact hQ
   ·intro h₃ frs' F₃ N₃ hsl'
    clear N₁ N2 F₁ F'
    replace N₃ := News.assoc.mp N₃
    dsimp only [List.cons_append, List.nil_append] at N₃
    replace a7 := off_sl hsl' a7; replace b6 := off_sl hsl' b6; replace c5 := off_sl hsl' c5; replace e4 := off_sl hsl' e4; replace f3 := off_sl hsl' f3; replace g2 := off_sl hsl' g2; replace k1 := off_sl hsl' k1
    have hdI := hst.I.dict
    have hdV := hst.I.has
    have hdZ : ((fs ++ [f]).map fun f => (f.k, f.c)).length < 1000 := all_small hsm.2
    k_steps
    rename_i hX FX NX
    rename (Obj.IsDictOf _ _ (without _ _)) => hdN
    rw [hst.I.gone] at hdN
    refine ⟨fs.length, by simp, hX, _, u, fs, _, n1 + 1, n2 + 1, frs', rfl, ⟨FX, fun p hp => NX p (.tail _ (.tail _ hp)), hst.I.pop hdN, ?_, hst.sl.trans hsl'⟩, rfl, Nat.le_trans ?_ hM⟩
    ·have hd := hst.nodup
     rw [fkeys_snoc] at hd
     rw [hsl'.keys]
     exact (List.nodup_cons.mp (List.nodup_cons.mp (nd_io.mp hd)).2).2
    ·simp only [measOf, remOf, List.map_append, List.sum_append]
     omega
end

end
section
theorem of_keys {T T' : List (Addr × Obj)} {a : Addr} (h : a ∈ T.map (·.1) ++ dk (T'.map (·.1))) : ∃ p ∈ T ++ T', p.1 = a := by
 rcases List.mem_append.mp h with h | h
 ·refine hide fun Dq kq => ?_; obtain ⟨p, hp, e⟩ := List.mem_map.mp h; refine kq ?_; clear kq Dq
  exact ⟨p, List.mem_append_left _ hp, e⟩
 ·refine hide fun Dq kq => ?_; obtain ⟨p, hp, e⟩ := List.mem_map.mp (mem_dk.mp h); refine kq ?_; clear kq Dq
  exact ⟨p, List.mem_append_right _ hp, e⟩
noncomputable def fcW1 (w : World) : Stmt := ((fcFor w)[1]?).getD default
theorem nin5 {D a b c d e : Addr} {F R : List (Addr × Obj)} (h1 : D ≠ a) (h2 : D ≠ b) (h3 : D ≠ c) (h4 : D ≠ d) (h5 : D ≠ e) (h : ∀ p ∈ F ++ R, p.1 ≠ D) : D ∉ [a, b, c, d, e] ++ (F.map (·.1) ++ dk (R.map (·.1))) := fun hm => by
 rcases List.mem_append.mp hm with hm | hm
 ·simp only [List.mem_cons, List.not_mem_nil, or_false] at hm
  rcases hm with e | e | e | e | e
  ·exact h1 e
  ·exact h2 e
  ·exact h3 e
  ·exact h4 e
  ·exact h5 e
 ·refine hide fun Dq kq => ?_; obtain ⟨p, hp, e⟩ := of_keys hm; refine kq ?_; clear kq Dq
  exact h p hp e
theorem valueAt_kvs : ∀ {ns : List Nd} {nn : Nd} {k0 : Str}, (ns.map (·.k)).Nodup → nn ∈ ns → nn.k = k0 → valueAt (kvsOf ns) k0 = some (.ref nn.a)
 | [], _, _, _, h, _ => nomatch h
 | n :: ns, nn, k0, hn, h, e => by
  have hn' := List.nodup_cons.mp hn
  unfold valueAt
  rw [kvsOf, List.map_cons, List.find?_cons]
  rcases List.mem_cons.mp h with rfl | h
  ·simp [e]
  ·have : n.k ≠ k0 := fun z => hn'.1 (by show n.k ∈ _; rw [z, ← e]; exact List.mem_map_of_mem h)
   simp only [this, decide_false]
   exact valueAt_kvs hn'.2 h e
theorem count_add {S S' : Str → Bool} {k : Str} (hS : S k = false) (hS' : ∀ y, S' y = (S y || decide (y = k))) : ∀ {l : List Str}, l.Nodup → k ∈ l → l.countP S + 1 = l.countP S'
 | [], _, hm => nomatch hm
 | a :: l, hn, hm => by
  have hn' := List.nodup_cons.mp hn
  rw [List.countP_cons, List.countP_cons, hS' a]
  by_cases e : a = k
  ·subst e
   have : l.countP S' = l.countP S := List.countP_congr fun y hy => by
    rw [hS' y, Bool.or_eq_true, decide_eq_true_eq]
    exact ⟨fun h => h.elim id fun e => absurd (e ▸ hy) hn'.1, .inl⟩
   rw [this, hS]; simp
  ·have := count_add hS hS' hn'.2 ((List.mem_cons.mp hm).resolve_left fun z => e z.symm)
   rw [← this]
   simp [e]; omega
theorem FI.push {w : World} {ns : List Nd} {fs : List Fm} {f : Fm} {od od' os os' : Obj} {S S' : Str → Bool} {kn : Nat} (I : FI w ns fs od os S kn) (hS : S f.k = false) (hS' : ∀ y, S' y = (S y || decide (y = f.k)))
  (hs : os'.SetObjOf (PySem.strKind Pg w) S' (kn + 1)) (hd : od'.IsDictOf (PySem.strKind Pg w) (stored (fs.map fun f => (f.k, f.c)) f.k f.c)) (hb : ∀ f' ∈ fs, rank ns f'.k < rank ns f.k) (hn : f.nd ∈ ns) (he : f.nd.k = f.k) (hj : f.j = 0) (hnd : (ns.map (·.k)).Nodup) :
  FI w ns (fs ++ [f]) od' os' S' (kn + 1) where
 dict := by
  have e : stored (fs.map fun f => (f.k, f.c)) f.k f.c = (fs ++ [f]).map fun f => (f.k, f.c) := by
   unfold stored
   rw [if_neg]
   ·simp
   ·intro h
    refine hide fun Dq kq => ?_; obtain ⟨q, hq, e⟩ := List.any_eq_true.mp h; refine kq ?_; clear kq Dq
    refine hide fun Dq kq => ?_; obtain ⟨f', hf, rfl⟩ := List.mem_map.mp hq; refine kq ?_; clear kq Dq
    have e' : f'.k = f.k := of_decide_eq_true e
    have := I.inS f' hf
    rw [e', hS] at this; cases this
  rw [← e]; exact hd
 set := hs
 cnt := by
  rw [I.cnt]
  have hm : f.k ∈ ns.map (·.k) := he ▸ List.mem_map_of_mem hn
  exact count_add hS hS' hnd hm
 sub := fun y hy => by
  rw [hS'] at hy
  rcases Bool.or_eq_true_iff.mp hy with h | h
  ·exact I.sub y h
  ·rw [of_decide_eq_true h]; exact he ▸ List.mem_map_of_mem hn
 inS := fun y hy => by
  rw [hS']
  rcases List.mem_append.mp hy with hy | hy
  ·rw [I.inS y hy]; rfl
  ·rw [List.mem_singleton.mp hy]; simp
 sorted := by
  rw [List.pairwise_append]
  exact ⟨I.sorted, List.pairwise_singleton .., fun a ha b hb' => by rw [List.mem_singleton.mp hb']; exact hb a ha⟩
 its := fun y hy => by
  rcases List.mem_append.mp hy with hy | hy
  ·exact I.its y hy
  ·rw [List.mem_singleton.mp hy]; exact ⟨hn, he, by omega⟩
 len := by have := I.len; simp; omega
section
local macro_rules | `(tactic| walk_at "exec While") => `(tactic| (refine Hold.out ?_))
theorem fc_W1 {w : World} {dp un : Nat} {fr : List Env} {base g : Heap} {L x d st it sn nd Ii : Addr} {oI : Obj} {frs0 : List (Addr × Obj)} {ns : List Nd} {S : Str → Bool} {kn : Nat} {os : Obj} {s : Shared} {Q : Flow → Shared → Prop} {p : Program} {loose : List Str} {mean : ExcName → Option Value} {mg mb : Str → Option Value}
  (X : (Mine.hd.heap_39 w.params).In g) (T : Top p loose mean mg mb g) (hF0 : Frs base fr frs0) (stb : base.StaysIn g) (hlo : (nd == sysModules) = false)
  (hD : g.DictOf (PySem.strKind Pg w) d (kvsOf ns)) (hndp : (ns.map (·.k)).Nodup)
  (hns : ∀ n ∈ ns, NdAt g n) (hrank : ∀ n ∈ ns, ∀ y ∈ n.ss, y ∈ ns.map (·.k) ∧ rank ns n.k < rank ns y) (hlen : ns.length < 100)
  {k0 : Str} {t0 : Tok} {fs : List Fm} {od : Obj} {n1 n2 : Nat} {frs : List (Addr × Obj)} (hst : FSt w ns g L x d st it sn nd Ii oI frs0 (some (.str k0 t0)) fs od os S kn n1 n2 frs s.heap) (hk0 : k0 ∈ ns.map (·.k)) (hb0 : ∀ f ∈ fs, rank ns f.k < rank ns k0)
  (hnext : ∀ h' tk' u' od' os' S' kn' n1' n2' frs', FSt w ns g L x d st it sn nd Ii oI frs0 u' [] od' os' S' kn' n1' n2' frs' h' → Q .next { s with heap := h', toks := tk' }) : wpAny (model Pg w) ((Ar dp un fr).deeper (fcEnv w L)) (exec (fcW1 w) (fcEnv w L)) Q (fun _ _ => False) s := by
 revert X T hF0 stb hlo hD hndp hns hrank hlen hst hk0 hb0 hnext
 revert w dp un fr base g L x d st it sn nd Ii oI frs0 ns S kn os s Q p loose mean mg mb k0 t0 fs od n1 n2 frs
 refine @(pk34 (((((w00, δ), δ), δ), δ), (((δ, (δ, s00)), ((δ, Pg), δ)), δ)) ?_)
 generalize z34 _ _ = Z; generalize Z.1.1.1.1.1 = w, Z.1.1.1.1.2 = dp, Z.1.1.1.2.1 = un, Z.1.1.1.2.2 = fr, Z.1.1.2.1.1 = base, Z.1.1.2.1.2 = g, Z.1.1.2.2.1 = L, Z.1.1.2.2.2 = x, Z.1.2.1.1.1 = d, Z.1.2.1.1.2 = st, Z.1.2.1.2.1 = it, Z.1.2.1.2.2 = sn, Z.1.2.2.1.1 = nd, Z.1.2.2.1.2 = Ii, Z.1.2.2.2.1 = oI, Z.1.2.2.2.2.1 = frs0, Z.1.2.2.2.2.2 = ns, Z.2.1.1.1.1 = S, Z.2.1.1.1.2 = kn, Z.2.1.1.2.1 = os, Z.2.1.1.2.2 = s, Z.2.1.2.1.1 = Q, Z.2.1.2.1.2 = p, Z.2.1.2.2.1 = loose, Z.2.1.2.2.2 = mean, Z.2.2.1.1.1 = mg, Z.2.2.1.1.2 = mb, Z.2.2.1.2.1 = k0, Z.2.2.1.2.2 = t0, Z.2.2.2.1.1 = fs, Z.2.2.2.1.2 = od, Z.2.2.2.2.1 = n1, Z.2.2.2.2.2.1 = n2, Z.2.2.2.2.2.2 = frs
 intro X T hF0 stb hlo hD hndp hns hrank hlen hst hk0 hb0 hnext
 with_unfolding_all show wpAny _ ((Ar dp un fr).deeper (envOf _ (Scope.mk _ _ _ _ _) _ _ _)) (exec (Stmt.While _ _ _ _) (envOf _ (Scope.mk _ _ _ _ _) _ _ _)) _ _ _
 refine While_K (fun n s' => E12 fun h' tk' k0 t0 fs od os S kn n1 n2 frs => A5 (s' = { s with heap := h', toks := tk' }) (FSt w ns g L x d st it sn nd Ii oI frs0 (some (.str k0 t0)) fs od os S kn n1 n2 frs h') (k0 ∈ ns.map (·.k)) ((∀ f ∈ fs, rank ns f.k < rank ns k0)) (n = measOf ns fs kn)) (measOf ns fs kn) ⟨s.heap, s.toks, k0, t0, fs, od, os, S, kn, n1, n2, frs, rfl, hst, hk0, hb0, rfl⟩ ?_ PassesOwn.never
 clear hst hk0 hb0 kn S os od fs k0 t0 n1 n2 frs
 rintro n s' hJq; refine hide fun Dq kq => ?_; obtain ⟨h', tk', k0, t0, fs, od, os, S, kn, n1, n2, frs, rfl, hst, hk0, hb0, rfl⟩ := hJq; refine kq ?_; clear kq Dq
 have F' := hst.F
 have N' := hst.N
 have hsm := hst.I.small hlen
 refine hide fun Dq kq => ?_; obtain ⟨c1, c2, c3, c4, c5, e1, e2, e3, e4, f1, f2, f3, g1, g2, k1⟩ := nd5 hst.nodup; refine kq ?_; clear kq Dq
 have hk100 := hsm.1
 have hdI := hst.I.dict
 have hsI := hst.I.set
 refine hide fun Dq kq => ?_; obtain ⟨nn, hnn, hnk⟩ := List.mem_map.mp hk0; refine kq ?_; clear kq Dq
 have hv : valueAt (kvsOf ns) k0 = some (.ref nn.a) := valueAt_kvs hndp hnn hnk
 have NA := hns nn hnn
 have gN := NA.node; have gD := NA.dict; have gS := NA.succ
 have hsl : g.IsList nn.sa nn.sv.toArray := PySem.IsL.isList (n := nn.sn) NA.succ
 have hz : (fs.map fun f => Value.ref f.q).length < 1000 := all_small hsm.2
 have hz2 : (fs.map fun f => Value.str f.k f.t).length < 1000 := all_small hsm.2
 have hdZ : (fs.map fun f => (f.k, f.c)).length < 1000 := all_small hsm.2
 cases hS : S k0 with
 | true =>
  k_steps
  ·rename (Option.isSome _ = true) => hno
   unfold valueAt at hno
   rw [Option.isSome_map, List.find?_isSome] at hno
   refine hide fun Dq kq => ?_; obtain ⟨q, hq, e⟩ := hno; refine kq ?_; clear kq Dq
   refine hide fun Dq kq => ?_; obtain ⟨f, hf, rfl⟩ := List.mem_map.mp hq; refine kq ?_; clear kq Dq
   have := hb0 f hf
   have e' : f.k = k0 := of_decide_eq_true e
   rw [e'] at this
   exact absurd this (Nat.lt_irrefl _)
  ·refine Hold.mk ?_
   refine fc_W2 (M := measOf ns fs kn) X T hF0 stb hlo hns hrank hlen hst (Nat.le_refl _) ?_ ?_
   ·intro h₂ tk₂ fs' y ty od' n1' n2' frs' hst' hm' hy hb'
    k_steps
    exact ⟨_, hm', _, _, y, ty, fs', od', os, S, kn, n1', n2', frs', rfl, hst', hy, hb', rfl⟩
   ·intro h₂ tk₂ u' od' n1' n2' frs' hst'
    exact hnext h₂ tk₂ u' od' os S kn n1' n2' frs' hst'
 | false =>
  k_steps
  rename_i tkA hA so hs' tkB D1 hB l2 l1 D2 hC m2 m1 hD' tkC hE od' hd' tkD hF F₂ N₂
  refine Hold.mk ?_
  rw [hS, if_neg (by decide)] at hs'
  have hI : FI w ns (fs ++ [⟨k0, t0, D2, D1, 0, nn, .int (fs.map fun f => Value.str f.k f.t).length (tkC + 1)⟩]) od' so (fun k' => S k' || decide (k' = k0)) (kn + 1) := by
   refine hst.I.push hS (fun _ => rfl) hs' ?_ hb0 hnn hnk rfl hndp
   exact hd'
  have hst₂ : FSt w ns g L x d st it sn nd Ii oI frs0 (some (.str k0 t0)) (fs ++ [⟨k0, t0, D2, D1, 0, nn, .int (fs.map fun f => Value.str f.k f.t).length (tkC + 1)⟩]) od' so (fun k' => S k' || decide (k' = k0)) (kn + 1) (n1 + 1) (n2 + 1) frs hF := by
   refine FSt.snoc F₂ N₂ hI (List.nodup_cons.mpr ⟨fun hm => ?_, List.nodup_cons.mpr ⟨nin5 (Nat.ne_of_gt l1.1) (Nat.ne_of_gt l1.2.1) (Nat.ne_of_gt l1.2.2.1) (Nat.ne_of_gt l1.2.2.2.1) (Nat.ne_of_gt l1.2.2.2.2.1) fun p hp => Nat.ne_of_lt (l2 p (.tail _ (.tail _ (.tail _ (.tail _ (.tail _ hp)))))), hst.nodup⟩⟩) hst.sl
   rcases List.mem_cons.mp hm with h | h
   ·exact Nat.ne_of_gt m1.1 h
   ·exact nin5 (Nat.ne_of_gt m1.2.1) (Nat.ne_of_gt m1.2.2.1) (Nat.ne_of_gt m1.2.2.2.1) (Nat.ne_of_gt m1.2.2.2.2.1) (Nat.ne_of_gt m1.2.2.2.2.2.1) (fun p hp => Nat.ne_of_lt (m2 p (.tail _ (.tail _ (.tail _ (.tail _ (.tail _ (.tail _ hp)))))))) h
  have hle := hI.small hlen
  refine fc_W2 (M := measOf ns fs kn) X T hF0 stb hlo hns hrank hlen hst₂ ?_ ?_ ?_
  ·have h1 := NA.small
   have h2 : kn + 1 ≤ ns.length := by rw [hI.cnt]; exact Nat.le_trans List.countP_le_length (by simp)
   simp only [measOf, remOf, List.map_append, List.map_cons, List.map_nil, List.sum_append, List.sum_cons, List.sum_nil]
   omega
  ·intro h₂ tk₂ fs' y ty od' n1' n2' frs' hst' hm' hy hb'
   k_steps
   exact ⟨_, hm', _, _, y, ty, fs', od', so, _, _, n1', n2', frs', rfl, hst', hy, hb', rfl⟩
  ·intro h₂ tk₂ u' od' n1' n2' frs' hst'
   exact hnext h₂ tk₂ u' od' so _ _ n1' n2' frs' hst'
end

end
section
theorem allLt_ne {a : Addr} : ∀ {l : List (Addr × Obj)}, AllLt a l → ∀ p ∈ l, p.1 ≠ a
 | [], _, _, hp => nomatch hp
 | _ :: _, h, p, hp => by
  rcases List.mem_cons.mp hp with rfl | hp
  ·exact Nat.ne_of_lt h.1
  ·exact allLt_ne h.2 p hp
theorem keepW_F {fr : List Env} {base g h h' : Heap} {L : Addr} {m : Str → Option Value} {news frs frs' : List (Addr × Obj)} {mu : List Addr} (F : Fr g L h' m) (N : News g L h' news) (hsub : ∀ p ∈ frs', p ∈ news) (hF : Frs base fr frs) (hs : SlR frs frs')
  (hout : ∀ b o, h.get? b = some o → b ∉ mu → Off fr b → g.get? b = some o) (hfin : ∀ p ∈ frs, h.get? p.1 = some p.2) : KeepW fr h h' mu := fun b o e n => by
 by_cases f : Off fr b
 ·exact ⟨o.slots, F.keep b o (hout b o e n f), fun _ => rfl⟩
 ·have hb : b ∈ fr.filterMap (·.frame) := by
   have : ∃ ev ∈ fr, ev.frame = some b := Classical.byContradiction fun z => f fun ev hev q => z ⟨ev, hev, q⟩
   refine hide fun Dq kq => ?_; obtain ⟨ev, hev, q⟩ := this; refine kq ?_; clear kq Dq
   exact List.mem_filterMap.mpr ⟨ev, hev, q⟩
  refine hide fun Dq kq => ?_; obtain ⟨p, hp, rfl⟩ := hF.key hb; refine kq ?_; clear kq Dq
  rw [hfin p hp] at e
  obtain rfl := Option.some.inj e
  obtain ⟨sl, q⟩ := hs.at hp
  exact ⟨sl, (N _ (hsub _ q)).1, fun z => absurd z f⟩
section
local macro_rules | `(tactic| walk_at "pyIter ref") => `(tactic| (refine Hold.out ?_))
local macro_rules | `(tactic| walk_at "exec While") => `(tactic| (refine Hold.out ?_))
theorem find_cycle_spec {w : World} {dp un : Nat} {fr : List Env} {s : Shared} {Q E : Value → Shared → Prop} {x dx d : Addr} {h1 h2 h3 h4 : Int} {t1 t2 t3 t4 tp tf : Tok} {np nf : Int} {rv : Value} {en : Nat} {ns : List Nd}
 (C : Cx w fr s.heap []) (hd : dp + 10 < recursionLimit) (hu : un + 200 < cLine)
 (hx : s.heap.get? x = some (instObj 165 dx)) (hdx : s.heap.get? dx = some (dictOf (sdict h1 h2 h3 h4 t1 t2 t3 t4 d rv np nf tp tf) en))
 (ox : Off fr x) (odx : Off fr dx) (odd : Off fr d)
 (hD : s.heap.DictOf (PySem.strKind Pg w) d (kvsOf ns)) (hd1 : (d == sysModules) = false) (hlen : ns.length < 100) (hns : ∀ n ∈ ns, NdAt s.heap n) (hof : ∀ n ∈ ns, Off fr n.a ∧ Off fr n.da ∧ Off fr n.sa) (hnd : (ns.map (·.k)).Nodup) (hrank : ∀ n ∈ ns, ∀ y ∈ n.ss, y ∈ ns.map (·.k) ∧ rank ns n.k < rank ns y)
 (hret : ∀ (h' : Heap) (tk' : Nat), KeepW fr s.heap h' [] → Q .none { s with heap := h', toks := tk' }) :
 wpAny (model Pg w) (Ar dp un fr) (call (.ref 155) [.ref x]) Q E s := by
 revert w dp un fr s Q E x dx d h1 h2 h3 h4 t1 t2 t3 t4 tp tf np nf rv en ns
 refine @(pk25 ((((w00, δ), (δ, (s00, δ))), δ), δ) ?_)
 generalize z25 _ _ = Z; generalize Z.1.1.1.1 = w, Z.1.1.1.2.1 = dp, Z.1.1.1.2.2 = un, Z.1.1.2.1 = fr, Z.1.1.2.2.1 = s, Z.1.1.2.2.2 = Q, Z.1.2.1.1 = E, Z.1.2.1.2.1 = x, Z.1.2.1.2.2 = dx, Z.1.2.2.1 = d, Z.1.2.2.2.1 = h1, Z.1.2.2.2.2 = h2, Z.2.1.1.1 = h3, Z.2.1.1.2.1 = h4, Z.2.1.1.2.2 = t1, Z.2.1.2.1 = t2, Z.2.1.2.2.1 = t3, Z.2.1.2.2.2 = t4, Z.2.2.1.1 = tp, Z.2.2.1.2.1 = tf, Z.2.2.1.2.2 = np, Z.2.2.2.1.1 = nf, Z.2.2.2.1.2 = rv, Z.2.2.2.2.1 = en, Z.2.2.2.2.2 = ns
 intro C hd hu hx hdx ox odx odd hD hd1 hlen hns hof hnd hrank hret
 k_dflt (refine' enterF (news := []) (binds := [(Str.ofString "self", .ref x)]) ?C ?N ?k6 ?k7 ?k8 ?k9 ?kB ?_ ?c2 ?c3 ?c4 ?c5; walk_at "m_in")
 refine @(pk10 δ ?_); generalize z10 _ _ = Z; generalize Z.1.1.1 = g, Z.1.1.2 = L', Z.1.2.1 = h₁, Z.1.2.2.1 = base, Z.1.2.2.2 = frs, Z.2.1.1 = p, Z.2.1.2 = loose, Z.2.2.1 = mean, Z.2.2.2.1 = mg, Z.2.2.2.2 = mb; intro BO F N hF0 stb X T hout hfin hap hlt hback
 have gx := hout _ _ hx nN ox
 have gdx := hout _ _ hdx nN odx
 have hDg : g.DictOf (PySem.strKind Pg w) d (kvsOf ns) := by
  refine hide fun Dq kq => ?_; obtain ⟨o, ho, r⟩ := Heap.dictOf_iff.mp hD; refine kq ?_; clear kq Dq
  exact Heap.dictOf_iff.mpr ⟨o, hout _ _ ho nN odd, r⟩
 have hnsg : ∀ n ∈ ns, NdAt g n := fun n hn => by
  refine hide fun Dq kq => ?_; obtain ⟨a, b, c, d, e⟩ := hns n hn; refine kq ?_; clear kq Dq
  refine hide fun Dq kq => ?_; obtain ⟨o1, o2, o3⟩ := hof n hn; refine kq ?_; clear kq Dq
  exact ⟨hout _ _ a nN o1, hout _ _ b nN o2, hout _ _ c nN o3, d, e⟩
 k_steps
 rename_i hA st hB lt0 hC tkA it hD' lt1 hE sn hF led hsI hset lt2 hG nd hH od lo hdict fs' hi' fi' lt3 hh F N
 have hK : ([nd, sn, it, st] ++ dk (frs.map (·.1))).Nodup := by
  have key : ∀ {a : Addr} {l : List (Addr × Obj)}, (∀ p ∈ l, p.1 ≠ a) → a ∉ dk (l.map (·.1)) := fun h q => by
   rw [mem_dk] at q
   refine hide fun Dq kq => ?_; obtain ⟨p, hp, e⟩ := List.mem_map.mp q; refine kq ?_; clear kq Dq
   exact h p hp e
  have z0 := key (l := frs) fun p hp => Nat.ne_of_lt (lt0 p hp)
  have z1 := key (allLt_ne lt1.2)
  have z2 := key (allLt_ne lt2.2.2)
  have z3 := key (allLt_ne lt3.2.2.2)
  have a1 : nd ≠ sn := Nat.ne_of_gt lt3.1
  have a2 : nd ≠ it := Nat.ne_of_gt lt3.2.1
  have a3 : nd ≠ st := Nat.ne_of_gt lt3.2.2.1
  have a4 : sn ≠ it := Nat.ne_of_gt lt2.1
  have a5 : sn ≠ st := Nat.ne_of_gt lt2.2.1
  have a6 : it ≠ st := Nat.ne_of_gt lt1.1
  have z := dk_nodup (frs.map (·.1))
  simp only [List.cons_append, List.nil_append, List.nodup_cons, List.mem_cons, not_or]
  exact ⟨⟨a1, a2, a3, z3⟩, ⟨a4, a5, z2⟩, ⟨a6, z1⟩, z0, z⟩
 refine wpAny_E ?_
 refine For_K ?_ (hE := PassesOwn.never)
 k_steps
 refine Hold.mk ?_
 refine for_dict (g := g) (fun i m news => E8 fun (u : Option Value) (od os : Obj) (S : Str → Bool) (k n1 n2 : Nat) (frs' : List (Addr × Obj)) => A4 (m = fmap x d st it sn nd u) (news = (nd, od) :: (sn, os) :: (it, listOf #[] n1) :: (st, listOf #[] n2) :: frs') (FI w ns [] od os S k) (SlR frs frs')) rfl hd1 hDg (by assumption) (by assumption) ⟨none, od, _, _, 0, 0, 0, frs, ?_, rfl, ⟨hdict, hset, ?_, ?_, ?_, ?_, ?_, ?_⟩, SlR.rfl⟩ rfl rfl ?_ ?_
 ·funext y
  by_cases h1 : y = Str.ofString "node"
  ·subst h1; rfl
  ·simp only [fmap, if_neg h1]
 ·simp
 ·intro y hy; cases hy
 ·intro f hf; cases hf
 ·exact List.Pairwise.nil
 ·intro f hf; cases hf
 ·exact Nat.le_refl _
 ·intro i k t m news h tk Ii oI hk hJ F' N' hap
  refine hide fun Dq kq => ?_; obtain ⟨u, od', os, S, kn, n1, n2, frs', rfl, rfl, hI, hsl⟩ := hJ; refine kq ?_; clear kq Dq
  clear F N
  have hk100 := (hI.small hlen).1
  have hos := hI.set
  have q1 := hap _ (.head _); have q2 := hap _ (.tail _ (.head _)); have q3 := hap _ (.tail _ (.tail _ (.head _))); have q4 := hap _ (.tail _ (.tail _ (.tail _ (.head _))))
  rw [fmap_set] at F'
  k_steps
  ·refine ⟨_, _, _, _, rfl, F', N', ?_, _, od', os, S, kn, n1, n2, frs', rfl, rfl, hI, hsl⟩
   intro p hp q hq
   rw [List.mem_singleton.mp hq]; exact hap p hp
  ·refine Hold.mk ?_
   have hkm : k ∈ ns.map (·.k) := by
    have := List.mem_of_getElem? hk
    simpa using this
   have hst : FSt w ns g L' x d st it sn nd Ii oI frs (some (.str k t)) [] od' os S kn n1 n2 frs' h := by
    refine ⟨F', N', hI, ?_, hsl⟩
    show (Ii :: ([nd, sn, it, st] ++ dk (frs'.map (·.1)))).Nodup
    rw [hsl.keys]
    refine List.nodup_cons.mpr ⟨?_, hK⟩
    intro hm
    simp only [List.cons_append, List.nil_append, List.mem_cons] at hm
    rcases hm with e | e | e | e | e
    ·exact q1 e.symm
    ·exact q2 e.symm
    ·exact q3 e.symm
    ·exact q4 e.symm
    ·rw [mem_dk, ← hsl.keys] at e
     refine hide fun Dq kq => ?_; obtain ⟨p, hp, e⟩ := List.mem_map.mp e; refine kq ?_; clear kq Dq
     exact hap p (.tail _ (.tail _ (.tail _ (.tail _ hp)))) e
   refine fc_W1 X T hF0 stb lo hDg hnd hnsg hrank hlen hst hkm (fun _ z => nomatch z) ?_
   intro h₂ tk₂ u' od₂ os₂ S₂ kn₂ n1₂ n2₂ frs₂ hst₂
   k_steps
   refine ⟨_, _, _, _, rfl, hst₂.F, hst₂.N, ?_, _, od₂, os₂, S₂, kn₂, n1₂, n2₂, frs₂, rfl, rfl, hst₂.I, hst₂.sl⟩
   intro p hp q hq
   rw [List.mem_singleton.mp hq]
   have hno := (List.nodup_cons.mp (show (Ii :: ([nd, sn, it, st] ++ dk (frs₂.map (·.1)))).Nodup from hst₂.nodup)).1
   simp only [List.cons_append, List.nil_append, List.mem_cons, not_or] at hno
   refine hide fun Dq kq => ?_; obtain ⟨n1, n2, n3, n4, n5⟩ := hno; refine kq ?_; clear kq Dq
   simp only [List.map_nil, List.flatMap_nil, List.nil_append, List.mem_cons] at hp
   rcases hp with rfl | rfl | rfl | rfl | hp
   ·exact Ne.symm n1
   ·exact Ne.symm n2
   ·exact Ne.symm n3
   ·exact Ne.symm n4
   ·exact fun e => n5 (mem_dk.mpr (List.mem_map.mpr ⟨p, hp, e⟩))
 ·intro m news h tk hJ F' N'
  refine hide fun Dq kq => ?_; obtain ⟨u, od', os, S, kn, n1, n2, frs', rfl, rfl, hI, hsl⟩ := hJ; refine kq ?_; clear kq Dq
  k_steps
  show Q _ _
  refine hret _ _ (keepW_F F' N' (fun p hp => ?_) hF0 hsl hout hfin)
  simp [hp]
end

end
section
local macro_rules | `(tactic| k_inst) => `(tactic| (refine' inst_mix2 ?F ?N ?h1 ?h2; (case F => k_asm); (case N => k_asm); (case h1 => assumption); (case h2 => k_mem)))
local macro_rules | `(tactic| walk_at "getMethod ref") => `(tactic| (k_here; (with_reducible show wpAny _ _ (getMethod (Value.ref _) (Str.ofString "values") _) _ _ _); k_dflt (refine bd_methodV (by k_asm) (by assumption) ?_)))
local macro_rules | `(tactic| walk_at "call builtin:dict.values") => `(tactic| (k_here; k_dflt (refine' bd_values ?F ?N ?d ?l ?_; (case F => k_asm); (case N => k_asm); (case d => assumption); (case l => assumption)); intro D' h' F' N' l1; (have l2 := l1); (try k_lt l1)))
local macro_rules | `(tactic| walk_at "setAttr ref") => `(tactic| (k_here; k_dflt (first
 | ((with_reducible show wpAny _ _ (setAttr _ (Str.ofString "_ready_nodes") _) _ _ _); refine' set_rv ?k1 ?k2 ?k3 ?k4 ?k5 ?_; (case k1 => k_asm); (case k2 => k_asm); (case k3 => k_asm); (case k4 => k_inst); (case k5 => k_upd); k_whole; intro h' F' N'; (try k_sweep))
 | ((with_reducible show wpAny _ _ (setAttr _ (Str.ofString "_npassedout") _) _ _ _); refine' set_np ?k1 ?k2 ?k3 ?k4 ?k5 ?_; (case k1 => k_asm); (case k2 => k_asm); (case k3 => k_asm); (case k4 => k_inst); (case k5 => k_upd); k_whole; intro h' F' N'; (try k_sweep))
 | ((with_reducible show wpAny _ _ (setAttr _ (Str.ofString "_nfinished") _) _ _ _); refine' set_nf ?k1 ?k2 ?k3 ?k4 ?k5 ?_; (case k1 => k_asm); (case k2 => k_asm); (case k3 => k_asm); (case k4 => k_inst); (case k5 => k_upd); k_whole; intro h' F' N'; (try k_sweep)))))
section
theorem off1_mem {D : Addr} : ∀ {l : List (Addr × Obj)}, LCg.Off1 D l → ∀ p ∈ l, p.1 ≠ D
 | [], _, _, h => nomatch h
 | _ :: _, x, p, h => by
  rcases List.mem_cons.mp h with rfl | h
  ·exact x.1
  ·exact off1_mem x.2 p h
section
local macro_rules | `(tactic| walk_at "eval ListComp") => `(tactic| (refine Hold.out ?_))
local macro_rules | `(tactic| walk_at "call ref") => `(tactic| (with_reducible refine hold_call 155 ?_))
local macro_rules | `(tactic| walk_at "pyIter ref") => `(tactic| (refine Hold.out ?_))
theorem prepare_spec {w : World} {dp un : Nat} {fr : List Env} {s : Shared} {Q E : Value → Shared → Prop} {x dx d : Addr} {h1 h2 h3 h4 : Int} {t1 t2 t3 t4 tp tf : Tok} {np nf : Int} {en : Nat} {ns : List Nd}
 (C : Cx w fr s.heap [dx]) (hd : dp + 20 < recursionLimit) (hu : un + 300 < cLine)
 (hx : s.heap.get? x = some (instObj 165 dx)) (hdx : s.heap.get? dx = some (dictOf (sdict h1 h2 h3 h4 t1 t2 t3 t4 d .none np nf tp tf) en))
 (ox : Off fr x) (odd : Off fr d) (nx : x ≠ dx) (ndd : d ≠ dx) (nns : ∀ n ∈ ns, n.a ≠ dx ∧ n.da ≠ dx ∧ n.sa ≠ dx)
 (hD : s.heap.DictOf (PySem.strKind Pg w) d (kvsOf ns)) (hd1 : (d == sysModules) = false) (hlen : ns.length < 100) (hvs : ∀ n ∈ ns, ∃ t, n.v = .str n.k t) (hns : ∀ n ∈ ns, NdAt s.heap n) (hof : ∀ n ∈ ns, Off fr n.a ∧ Off fr n.da ∧ Off fr n.sa) (hnd : (ns.map (·.k)).Nodup) (hrank : ∀ n ∈ ns, ∀ y ∈ n.ss, y ∈ ns.map (·.k) ∧ rank ns n.k < rank ns y)
 (hret : ∀ (h' : Heap) (tk' : Nat) (r : Addr) (en' n' : Nat), KeepW fr s.heap h' [dx] → h'.get? dx = some (dictOf (sdict h1 h2 h3 h4 t1 t2 t3 t4 d (.ref r) np nf tp tf) en') → s.heap.get? r = none → h'.get? r = some (listOf ((ns.filter (·.c == 0)).map (·.v)).toArray n') → Q .none { s with heap := h', toks := tk' }) :
 wpAny (model Pg w) (Ar dp un fr) (call (.ref 120) [.ref x]) Q E s := by
 revert w dp un fr s Q E x dx d h1 h2 h3 h4 t1 t2 t3 t4 tp tf np nf en ns
 refine @(pk24 ((((w00, δ), (δ, (s00, δ))), δ), δ) ?_)
 generalize z24 _ _ = Z; generalize Z.1.1.1.1 = w, Z.1.1.1.2.1 = dp, Z.1.1.1.2.2 = un, Z.1.1.2.1 = fr, Z.1.1.2.2.1 = s, Z.1.1.2.2.2 = Q, Z.1.2.1.1 = E, Z.1.2.1.2.1 = x, Z.1.2.1.2.2 = dx, Z.1.2.2.1 = d, Z.1.2.2.2.1 = h1, Z.1.2.2.2.2 = h2, Z.2.1.1.1 = h3, Z.2.1.1.2.1 = h4, Z.2.1.1.2.2 = t1, Z.2.1.2.1 = t2, Z.2.1.2.2.1 = t3, Z.2.1.2.2.2 = t4, Z.2.2.1.1 = tp, Z.2.2.1.2.1 = tf, Z.2.2.1.2.2 = np, Z.2.2.2.1 = nf, Z.2.2.2.2.1 = en, Z.2.2.2.2.2 = ns
 intro C hd hu hx hdx ox odd nx ndd nns hD hd1 hlen hvs hns hof hnd hrank hret
 have hN : ∀ p ∈ [(dx, dictOf (sdict h1 h2 h3 h4 t1 t2 t3 t4 d .none np nf tp tf) en)], s.heap.get? p.1 = some p.2 := fun p hp => by rw [List.mem_singleton.mp hp]; exact hdx
 k_dflt (refine' enterF (news := [(dx, dictOf (sdict h1 h2 h3 h4 t1 t2 t3 t4 d .none np nf tp tf) en)]) (binds := [(Str.ofString "self", .ref x)]) ?C ?N ?k6 ?k7 ?k8 ?k9 ?kB ?_ ?c2 ?c3 ?c4 ?c5; walk_at "m_in")
 refine @(pk10 δ ?_); generalize z10 _ _ = Z; generalize Z.1.1.1 = g, Z.1.1.2 = L', Z.1.2.1 = h₁, Z.1.2.2.1 = base, Z.1.2.2.2 = frs, Z.2.1.1 = p, Z.2.1.2 = loose, Z.2.2.1 = mean, Z.2.2.2.1 = mg, Z.2.2.2.2 = mb; intro BO F N hF0 stb X T hout hfin hap hlt hback
 have gx := hout _ _ hx (by simpa using nx) ox
 have hDg : g.DictOf (PySem.strKind Pg w) d (kvsOf ns) := by
  refine hide fun Dq kq => ?_; obtain ⟨o, ho, r⟩ := Heap.dictOf_iff.mp hD; refine kq ?_; clear kq Dq
  exact Heap.dictOf_iff.mpr ⟨o, hout _ _ ho (by simpa using ndd) odd, r⟩
 have hnsg : ∀ n ∈ ns, NdAt g n := fun n hn => by
  refine hide fun Dq kq => ?_; obtain ⟨a, b, c, d, e⟩ := hns n hn; refine kq ?_; clear kq Dq
  refine hide fun Dq kq => ?_; obtain ⟨o1, o2, o3⟩ := hof n hn; refine kq ?_; clear kq Dq
  refine hide fun Dq kq => ?_; obtain ⟨m1, m2, m3⟩ := nns n hn; refine kq ?_; clear kq Dq
  exact ⟨hout _ _ a (by simpa using m1) o1, hout _ _ b (by simpa using m2) o2, hout _ _ c (by simpa using m3) o3, d, e⟩
 k_steps
 refine Hold.mk ?_
 k_dflt (refine' ListComp_TX ?F ?k1 ?k2 ?k3 ?k4 ?k5 ?_; (case F => k_asm); (case k1 => with_unfolding_all rfl); (case k2 => decide); (case k3 => rfl); (case k4 => decide); (case k5 => rfl))
 k_steps
 refine Hold.mk ?_
 rename_i V hV FV NV l2 l1
 refine src_values rfl FV NV (.head _) hDg (by simp; omega) ?_
 intro h₂
 refine rest_invT (n := (kvsOf ns).length) (fun i ys news => news = (V, ({ cls := .type "dict_values", data := .fields #[.ref d] } : Obj)) :: (dx, dictOf (sdict h1 h2 h3 h4 t1 t2 t3 t4 d .none np nf tp tf) en) :: frs ∧ ys = ((ns.take i).filter (·.c == 0)).map (·.v)) ?_ ?_ _ 0 [] _ (Nat.zero_add _) ⟨rfl, by simp⟩
 ·rintro i ys news v I oI C' oC D m₂ h tk E' hi ⟨rfl, rfl⟩ ⟨k, hk⟩ hC hv F₂ N₂ off ne
  have hi' : i < ns.length := by simpa using hi
  have hkn : (kvsOf ns)[i]? = some (ns[i].k, .ref ns[i].a) := by simp [hi']
  rw [hkn] at hk
  obtain ⟨rfl, rfl⟩ := Prod.mk.inj (Option.some.inj hk)
  have hmem : ns[i] ∈ ns := List.getElem_mem hi'
  have NA := hnsg _ hmem
  have gN := NA.node; have gD := NA.dict
  obtain ⟨vt, hvv⟩ := hvs _ hmem
  rw [hvv] at gN
  have htk : ns.take (i + 1) = ns.take i ++ [ns[i]] := (List.take_append_getElem hi').symm
  clear FV NV N F hN
  generalize ns[i] = nn at *
  k_steps
  ·rename (nn.c = 0) => h0
   refine ⟨h, _, _, rfl, F₂, N₂, off, trivial, rfl, ?_⟩
   rw [htk, List.filter_append, List.map_append]
   simp [h0, hvv]
  ·rename (¬ nn.c = 0) => h0
   refine ⟨h, _, _, rfl, F₂, N₂, off, trivial, rfl, ?_⟩
   rw [htk, List.filter_append, List.map_append]
   simp [h0]
 ·rintro ys news ⟨rfl, rfl⟩
  intro D h tk F₂ N₂ o1
  clear FV NV N F hN
  have q1 : V ≠ dx := Nat.ne_of_gt l1.1
  have q2 : D ≠ dx := fun e => o1.2.1 e.symm
  have q3 : ∀ p ∈ frs, p.1 ≠ dx := fun p hp => hap _ (.head _) p hp
  rw [List.take_of_length_le (by simp)] at N₂
  k_steps
  rename_i hX FX NX
  refine Hold.mk ?_
  have hapX : ∀ p ∈ [(D, LCg.lst ((ns.filter (·.c == 0)).map (·.v))), (V, ({ cls := .type "dict_values", data := .fields #[.ref d] } : Obj)), (dx, dictOf (sdict h1 h2 h3 h4 t1 t2 t3 t4 d (.ref D) np nf tp tf) en)], ∀ q ∈ frs, q.1 ≠ p.1 := by
   simp only [List.mem_cons, List.not_mem_nil, or_false]
   rintro p (rfl | rfl | rfl) q hq
   ·exact off1_mem o1 q (.tail _ (.tail _ hq))
   ·exact Nat.ne_of_lt (l2 q (.tail _ hq))
   ·exact q3 q hq
  have CX := cx_F (w := w) (mu := []) (env := envOf (Str.ofString "TopologicalSorter.prepare") (fnS w 120) L' 120 (.ref 119)) FX (show News g L' hX ([_, _, _] ++ frs) from NX) hF0 stb BO (fun p hp => hlt p (.tail _ hp)) hapX no_mu ⟨Ar dp un fr, rfl⟩
  refine find_cycle_spec (rv := .ref D) CX (by ktr_room) (by ktr_units) (FX.keep _ _ gx) (NX _ (.tail _ (.tail _ (.head _)))).1 (off_g FX (show News g L' hX ([_, _, _] ++ frs) from NX) hF0 gx) (off_n (show News g L' hX ([_, _, _] ++ frs) from NX) hF0 hapX (.tail _ (.tail _ (.head _)))) ?_ (bd_lift FX hDg) hd1 hlen ?_ ?_ hnd hrank ?_
  ·refine hide fun Dq kq => ?_; obtain ⟨o, ho, _⟩ := Heap.dictOf_iff.mp hDg; refine kq ?_; clear kq Dq
   exact off_g FX (show News g L' hX ([_, _, _] ++ frs) from NX) hF0 ho
  ·intro n hn
   have z := hnsg n hn
   exact ⟨FX.keep _ _ z.node, FX.keep _ _ z.dict, FX.keep _ _ z.succ, z.sare, z.small⟩
  ·intro n hn
   have z := hnsg n hn
   exact ⟨off_g FX (show News g L' hX ([_, _, _] ++ frs) from NX) hF0 z.node, off_g FX (show News g L' hX ([_, _, _] ++ frs) from NX) hF0 z.dict, off_g FX (show News g L' hX ([_, _, _] ++ frs) from NX) hF0 z.succ⟩
  ·intro h₃ tk₃ k₃
   refine hide fun Dq kq => ?_; obtain ⟨frs', sl, F₃, N₃, ap₃⟩ := after_W FX (show News g L' hX ([_, _, _] ++ frs) from NX) hF0 hapX no_mu k₃ (news' := [_, _, _]) (fun p hp => .inl ⟨hp, by simp⟩); refine kq ?_; clear kq Dq
   clear NX FX
   simp only [List.cons_append, List.nil_append] at N₃
   k_steps
   rename_i hY FY NY
   show Q _ _
   refine hret _ _ D en _ (keepW_F FY NY (fun p hp => ?_) hF0 sl hout hfin) (NY _ (.tail _ (.tail _ (.head _)))).1 ?_ (NY _ (.head _)).1
   ·simp [hp]
   ·exact fresh_F NY hF0 hout (.head _) (by simpa using q2) (hapX _ (.head _))
end

end
section
section
variable {prog : Program} {w : World} {A : Around} {E : Value → Shared → Prop} {s : Shared} {h₀ : Heap} {L : Addr} {m : Str → Option Value} {env : Env}
def CompA (prog : Program) (w : World) (A : Around) (h₀ : Heap) (L : Addr) (m : Str → Option Value) (env : Env) (elt : Expr) (x y : Str) (scope : Scope) (cl : List (Str × Addr)) (Q : Flow → Shared → Prop) (s₂ : Shared) (S : List (Addr × Obj) → Prop) (P : Nat → Value → Prop) (n : Nat) (news : List (Addr × Obj)) : Prop :=
 ∃ J : Nat → List Value → List (Addr × Obj) → Nat → Prop, A4 ((∀ i ys nw tk tk', tk ≤ tk' → J i ys nw tk → J i ys nw tk')) (J 0 [] news s₂.toks) ((∀ i ys nw v I oI C oC D m₂ h tk (E' : Value → Shared → Prop), i < n → J i ys nw tk → P i v → LCg.NsObj oC m₂ → m₂ x = some v → Fr h₀ L h m → News h₀ L h ((I, oI) :: (C, oC) :: (D, LCg.lst ys) :: nw) → LCg.Off3 I C D nw → ((@Ne Nat I C) ∧ (@Ne Nat I D) ∧ (@Ne Nat C D)) →
   wpAny (model prog w) A (eval elt (compEnvC scope cl C env)) (fun y s₄ => Hold (E3 fun h' tk' nw' => A6 (s₄ = { s₂ with heap := h', toks := tk' }) (Fr h₀ L h' m) (News h₀ L h' ((I, oI) :: (C, oC) :: (D, LCg.lst ys) :: nw')) (LCg.Off3 I C D nw') (S nw') (J (i + 1) (ys ++ [y]) nw' tk'))) E' { s₂ with heap := h, toks := tk })) ((∀ ys nw tk, J n ys nw tk → ∀ D h, Fr h₀ L h (fun z => if z = y then some (.ref D) else m z) → News h₀ L h ((D, LCg.lst ys) :: nw) → LCg.Off1 D nw → Q .next { s₂ with heap := h, toks := tk }))
theorem Assign_JX {elt iter : Expr} {x y : Str} {px py : Pos} {scope : Scope} {cl : List (Str × Addr)} {pos spos : Pos} {Q : Flow → Shared → Prop} (_F₀ : Fr h₀ L s.heap m) (hLe : env.locals = L)
  (hsw : swapsWith (.ListComp elt [⟨.Name x px, iter, [], 0⟩] scope pos) (some (.Name y py)) spos.line env = pure true)
  (hclos : closureFor scope env = pure cl) (hcell : ∀ z ∈ scope.names, z.2 ≠ .cell) (hkind : scope.kind = .function)
  (hnames : ∀ z ∈ scope.names, z.2 = .local → scope.names.lookup z.1 = some .local) (hx : scope.names.lookup x = some .local)
  (hy : env.kindOf y = some .local) (hp : (env.scope.kind == .class || (env.scope.kind == .module && env.locals != env.globals)) = false)
  (h : wpAny (model prog w) A (eval iter env) (fun xv s₁ => wpAny (model prog w) A (pyIter xv) (SrcX prog w A h₀ L m (CompA prog w A h₀ L m env elt x y scope cl Q)) E s₁) E s)
  (hs : ∀ x, foldedSetIterable iter env x = pure x := by intro _; rfl) :
  wpAny (model prog w) A (exec (.Assign [.Name y py] (.ListComp elt [⟨.Name x px, iter, [], 0⟩] scope pos) spos) env) Q E s := by
 subst hLe
 rw [exec_Assign_Name_used _ _ _ _ hsw]
 refine wpAny_bind (wpAny_standAt (wpAny_bind ?_))
 show wpAny _ A (do let _ ← comprehension (.ListComp elt [⟨.Name x px, iter, [], 0⟩] scope pos) scope env _ (newList []) false (eval iter env) (some (assign (.Name y py) env))) _ _ s
 refine wpAny_bind (wpAny_mono (wpAny_comprehension_free (use := some (assign (.Name y py) env)) (Q := fun _ s' => Q .next s') rfl hs hclos hkind hnames
  (wpAny_mono h (fun xv s₁ h₁ => wpAny_mono h₁ (fun it s₂ h₂ => ?_) fun _ _ e => e) fun _ _ e => e)) (fun _ s' hq => wpAny_pure (wpAny_pure hq)) fun _ _ e => e)
 refine hide fun Dq kq => ?_; obtain ⟨I, fp, n, P, St, S, news, rfl, W, hsz, hIo, hSt, hst, hfp, F, N, hIL, hI₀, off, hS, J, hmono, hJ, turn, fin⟩ := h₂; refine kq ?_; clear kq Dq
 refine block_J J hmono W hsz hIo hSt hcell hkind hx hst hfp F N hIL hI₀ off hS hJ turn ?_
 intro D C h tk m' ys news' F' N' o1 hn hC₀ hCL hCD offC j
 show wpAny _ A (assign (.Name y py) env (.ref D)) _ _ _
 refine wpAny_assign_Name (wpAny_storeName_local hy F'.ns (fun h₂ hn₂ hs₂ => ?_) hp)
 have hL₀ : h₀.get? env.locals = none := Heap.get?_none_of_le F'.above
 have F₂ : Fr h₀ env.locals h₂ (fun z => if z = y then some (.ref D) else m z) := ⟨hn₂, fun b o e => hs₂.extBut b o (fun q => by rw [q, hL₀] at e; cases e) (F'.keep b o e), F'.above⟩
 refine ⟨m', hn.sameBut hs₂ hCL, fun h'' hs'' => fin ys news' _ (hmono _ _ _ _ _ (Nat.le_succ _) j) D h'' (F₂.change hs'' hCL hC₀) (fun p hp => ?_) o1⟩
 have z : h₂.get? p.1 = some p.2 := hs₂.extBut _ _ (N' p hp).2.1 (N' p hp).1
 refine ⟨hs''.extBut _ _ ?_ z, (N' p hp).2⟩
 rcases List.mem_cons.mp hp with rfl | hp
 ·exact Ne.symm hCD
 ·exact offC p hp
end

end
section
section
variable {prog : Program} {w : World} {A : Around} {E : Value → Shared → Prop} {R : Result → Shared → Prop} {s : Shared}
theorem compTurn_two0 (elt t1 i1 t2 i2 : Expr) (scope : Scope) (pos : Pos) (it acc : Value) (env : Env) :
  compTurn (.ListComp elt [⟨t1, i1, [], 0⟩, ⟨t2, i2, [], 0⟩] scope pos) 0 it acc env = (do
   standAt i1.pos
   match ← pyNext it with
   | none => pure (.done .next)
   | some v =>
    letOwnedTupleGo t1 it v
    assign t1 env v
    let x ← eval i2 env
    standAt i2.pos
    let x ← foldedSetIterable i2 env x
    let _ ← runOwn (.compStart (.ListComp elt [⟨t1, i1, [], 0⟩, ⟨t2, i2, [], 0⟩] scope pos) 1 (← holding [x] (pyIter x)) acc env) env
    again (.compLoop (.ListComp elt [⟨t1, i1, [], 0⟩, ⟨t2, i2, [], 0⟩] scope pos) 0 it acc env)) := by rfl
theorem compTurn_two1 (elt t1 i1 t2 i2 : Expr) (scope : Scope) (pos : Pos) (it acc : Value) (env : Env) :
  compTurn (.ListComp elt [⟨t1, i1, [], 0⟩, ⟨t2, i2, [], 0⟩] scope pos) 1 it acc env = (do
   standAt i2.pos
   match ← pyNext it with
   | none => pure (.done .next)
   | some v =>
    letOwnedTupleGo t2 it v
    assign t2 env v
    (do let _ ← call (.builtin "list.append") [acc, ← eval elt env])
    again (.compLoop (.ListComp elt [⟨t1, i1, [], 0⟩, ⟨t2, i2, [], 0⟩] scope pos) 1 it acc env)) := by rfl
theorem loop_two1 {elt t1 i1 t2 i2 : Expr} {scope : Scope} {pos : Pos} {it acc : Value} {env : Env} (I : Nat → Shared → Prop)
  (turn : ∀ n s, I n s → wpAny (model prog w) A (pyNext it) (fun r s₁ => match r with
   | none => R (.ok .next) s₁
   | some v => wpAny (model prog w) A (assign t2 env v) (fun _ s₂ => wpAny (model prog w) A (eval elt env) (fun x s₃ =>
     wpAny (model prog w) A (call (.builtin "list.append") [acc, x]) (fun _ s₄ => ∃ m, m < n ∧ I m s₄) (fun _ _ => False) s₃) (fun _ _ => False) s₂) (fun _ _ => False) s₁) (fun _ _ => False) s)
  (n : Nat) (h : I n s) (ht : ∀ v, letOwnedTupleGo t2 it v = pure () := by intro _; rfl) :
  codeAny (model prog w) A (.compLoop (.ListComp elt [⟨t1, i1, [], 0⟩, ⟨t2, i2, [], 0⟩] scope pos) 1 it acc env) R s := by
 refine codeAny_loop rfl I (fun n s hI => ?_) n h
 show wpAny _ A ((compTurn (.ListComp elt [⟨t1, i1, [], 0⟩, ⟨t2, i2, [], 0⟩] scope pos) 1 it acc env).onRaise (fun x => do noteFrame x env; theTreesLotGoes x)) _ _ s
 refine wpAny_noted (wpAny_E ?_)
 rw [compTurn_two1]
 refine wpAny_bind (wpAny_standAt (wpAny_bind (wpAny_mono (turn n s hI) (fun r s₁ h₁ => ?_) fun _ _ h' => h')))
 cases r with
 | none => exact wpAny_pure h₁
 | some v =>
  refine wpAny_bind (wpAny_of_eq (ht v) ?_)
  exact wpAny_bind (wpAny_mono h₁ (fun _ s₂ h₂ => wpAny_bind (wpAny_bind (wpAny_mono h₂ (fun x s₃ h₃ => wpAny_bind (wpAny_mono h₃
   (fun _ s₄ h₄ => wpAny_pure (wpAny_pure ⟨rfl, h₄⟩)) fun _ _ h' => h')) fun _ _ h' => h'))) fun _ _ h' => h')
theorem start_two1 {elt t1 i1 t2 i2 : Expr} {scope : Scope} {pos : Pos} {it acc : Value} {env : Env}
  (h0 : codeAny (model prog w) A (.compLoop (.ListComp elt [⟨t1, i1, [], 0⟩, ⟨t2, i2, [], 0⟩] scope pos) 1 it acc env) R s)
  (h : wpAny (model prog w) A (pyIter it) (fun it' s' => codeAny (model prog w) A (.compLoop (.ListComp elt [⟨t1, i1, [], 0⟩, ⟨t2, i2, [], 0⟩] scope pos) 1 it' acc env) R s') (fun _ _ => False) s) :
  codeAny (model prog w) A (.compStart (.ListComp elt [⟨t1, i1, [], 0⟩, ⟨t2, i2, [], 0⟩] scope pos) 1 it acc env) R s := by
 refine codeAny_of_tree ?_
 show wpAny _ _ ((compStart (.ListComp elt [⟨t1, i1, [], 0⟩, ⟨t2, i2, [], 0⟩] scope pos) 1 it acc env).onRaise (fun x => do noteFrame x env; standAt theWindowsPlace)) _ _ s
 refine wpAny_notedAt (wpAny_E ?_)
 unfold compStart
 show wpAny _ _ (ask >>= _) _ _ s
 refine wpAny_bind (wpAny_askSetting (wpAny_ite ?_))
 split
 ·first
   | exact wpAny_bind (wpAny_pure (wpAny_pure (And.intro rfl h0)))
   | exact wpAny_pure (And.intro rfl h0)
 ·first
   | exact wpAny_bind (wpAny_rule (wpAny_bind (wpAny_standAt (wpAny_bind (wpAny_mono h (fun it' s' h' => wpAny_pure (And.intro rfl h')) fun _ _ x => x)))))
   | (refine wpAny_bind (wpAny_rule ?_); show wpAny _ _ (standAt i2.pos >>= _) _ _ s; exact wpAny_bind (wpAny_standAt (wpAny_bind (wpAny_mono h (fun it' s' h' => wpAny_pure (And.intro rfl h')) fun _ _ x => x))))
theorem loop_two0 {elt t1 i1 t2 i2 : Expr} {scope : Scope} {pos : Pos} {it acc : Value} {env : Env} (I : Nat → Shared → Prop)
  (hs : ∀ x, foldedSetIterable i2 env x = pure x)
  (turn : ∀ n s, I n s → wpAny (model prog w) A (pyNext it) (fun r s₁ => match r with
   | none => R (.ok .next) s₁
   | some v => wpAny (model prog w) A (assign t1 env v) (fun _ s₂ => wpAny (model prog w) A (eval i2 env) (fun x s₃ =>
     wpAny (model prog w) A (pyIter x) (fun it2 s₄ => codeAny (model prog w) A (.compStart (.ListComp elt [⟨t1, i1, [], 0⟩, ⟨t2, i2, [], 0⟩] scope pos) 1 it2 acc env)
      (fun r s₅ => match r with | .ok _ => ∃ m, m < n ∧ I m s₅ | .error _ => False) s₄) (fun _ _ => False) s₃) (fun _ _ => False) s₂) (fun _ _ => False) s₁) (fun _ _ => False) s)
  (n : Nat) (h : I n s) (ht : ∀ v, letOwnedTupleGo t1 it v = pure () := by intro _; rfl) :
  codeAny (model prog w) A (.compLoop (.ListComp elt [⟨t1, i1, [], 0⟩, ⟨t2, i2, [], 0⟩] scope pos) 0 it acc env) R s := by
 refine codeAny_loop rfl I (fun n s hI => ?_) n h
 show wpAny _ A ((compTurn (.ListComp elt [⟨t1, i1, [], 0⟩, ⟨t2, i2, [], 0⟩] scope pos) 0 it acc env).onRaise (fun x => do noteFrame x env; theTreesLotGoes x)) _ _ s
 refine wpAny_noted (wpAny_E ?_)
 rw [compTurn_two0]
 refine wpAny_bind (wpAny_standAt (wpAny_bind (wpAny_mono (turn n s hI) (fun r s₁ h₁ => ?_) fun _ _ h' => h')))
 cases r with
 | none => exact wpAny_pure h₁
 | some v =>
  refine wpAny_bind (wpAny_of_eq (ht v) ?_)
  refine wpAny_bind (wpAny_mono h₁ (fun _ s₂ h₂ => wpAny_bind (wpAny_mono h₂ (fun x s₃ h₃ => wpAny_bind (wpAny_standAt (wpAny_bind (wpAny_of_eq (hs x) (wpAny_bind (wpAny_holding (wpAny_mono h₃ (fun it2 s₄ h₄ => ?_) fun _ _ h' => h'))))))) fun _ _ h' => h')) fun _ _ h' => h')
  refine wpAny_bind (wpAny_runOwn (codeAny_mono h₄ (fun r s₅ h₅ => ?_)))
  cases r with
  | ok f => exact wpAny_pure ⟨rfl, h₅⟩
  | error x => exact h₅.elim
end
section
variable {prog : Program} {w : World} {A : Around} {E : Value → Shared → Prop} {s : Shared} {h₀ : Heap} {L : Addr} {m : Str → Option Value} {env : Env}
def TwoSrc (prog : Program) (w : World) (A : Around) (h₀ : Heap) (L : Addr) (m : Str → Option Value) (env : Env) (elt : Expr) (x1 x2 : Str) (scope : Scope) (cl : List (Str × Addr)) (s₂ : Shared) (v : Value) (I C D : Addr) (oI oC : Obj) (ys : List Value) (Jn : List Value → List (Addr × Obj) → Prop) (it2 : Value) (s' : Shared) : Prop :=
 E8 fun (I2 : Addr) (n2 : Nat) (P2 : Nat → Value → Prop) (St2 : Nat → Heap → Prop) (nw : List (Addr × Obj)) (h : Heap) (tk : Nat) (Ji : Nat → List Value → List (Addr × Obj) → Prop) => A16 (it2 = .ref I2) (Walks prog w A I2 [I2] [I2] n2 P2 St2) (n2 ≤ 1000) (s' = { s₂ with heap := h, toks := tk }) (St2 0 h) ((∀ i h, St2 i h → ∃ o, h.get? I2 = some o)) ((∀ i h h' o, St2 i h → h.get? I2 = some o → h'.get? I2 = some o → St2 i h')) (Fr h₀ L h m) (News h₀ L h ((I, oI) :: (C, oC) :: (D, LCg.lst ys) :: nw)) (LCg.Off3 I C D nw) (L ≠ I2) (h₀.get? I2 = none) ((∀ p ∈ (I, oI) :: (C, oC) :: (D, LCg.lst ys) :: nw, p.1 ≠ I2)) (Ji 0 ys nw) ((∀ q ys' nw' v2 oI2 oC' m₂ h tk, q < n2 → Ji q ys' nw' → P2 q v2 → LCg.NsObj oC' m₂ → m₂ x1 = some v → m₂ x2 = some v2 → Fr h₀ L h m → News h₀ L h ((I2, oI2) :: (I, oI) :: (C, oC') :: (D, LCg.lst ys') :: nw') → LCg.Off3 I C D nw' → LCg.Off1 I2 nw' → ((@Ne Nat I2 I) ∧ (@Ne Nat I2 C) ∧ (@Ne Nat I2 D) ∧ (@Ne Nat I C) ∧ (@Ne Nat I D) ∧ (@Ne Nat C D)) →
   wpAny (model prog w) A (eval elt (compEnvC scope cl C env)) (fun y s₄ => Hold (E3 fun h' tk' nw'' => A6 (s₄ = { s₂ with heap := h', toks := tk' }) (Fr h₀ L h' m) (News h₀ L h' ((I2, oI2) :: (I, oI) :: (C, oC') :: (D, LCg.lst ys') :: nw'')) (LCg.Off3 I C D nw'') (LCg.Off1 I2 nw'') (Ji (q + 1) (ys' ++ [y]) nw''))) (fun _ _ => False) { s₂ with heap := h, toks := tk })) ((∀ ys' nw', Ji n2 ys' nw' → Jn ys' nw'))
theorem inner_loop {elt t1 i1 i2 : Expr} {x1 x2 : Str} {px2 : Pos} {scope : Scope} {cl : List (Str × Addr)} {pos : Pos} {s₂ : Shared} {v : Value} {I C D : Addr} {oI oC : Obj} {ys : List Value} {Jn : List Value → List (Addr × Obj) → Prop} {it2 : Value} {s' : Shared} {R : Result → Shared → Prop} {mC : Str → Option Value}
  (hkind : scope.kind = .function) (hx2 : scope.names.lookup x2 = some .local) (hxx : x1 ≠ x2)
  (T : TwoSrc prog w A h₀ L m env elt x1 x2 scope cl s₂ v I C D oI oC ys Jn it2 s') (hoC : LCg.NsObj oC mC) (hm1 : mC x1 = some v) (hCI : C ≠ I) (hDI : D ≠ I) (hCD : C ≠ D) (hyl : ys.length ≤ 1000000)
  (fin : ∀ h' tk' ys' nw' oC' mC', Fr h₀ L h' m → LCg.NsObj oC' mC' → News h₀ L h' ((I, oI) :: (C, oC') :: (D, LCg.lst ys') :: nw') → LCg.Off3 I C D nw' → Jn ys' nw' → ys'.length ≤ ys.length + 1000 → R (.ok .next) { s₂ with heap := h', toks := tk' }) :
  codeAny (model prog w) A (.compStart (.ListComp elt [⟨t1, i1, [], 0⟩, ⟨.Name x2 px2, i2, [], 0⟩] scope pos) 1 it2 (.ref D) (compEnvC scope cl C env)) R s' := by
 revert prog w A h₀ L m env elt t1 i1 i2 x1 x2 px2 scope cl pos s₂ v I C D oI oC ys Jn it2 s' R mC
 refine @(pk30 ((((Pg, (w00, Ar 0 0 [])), δ), δ), (((δ, (δ, s00)), δ), (δ, ((δ, s00), δ)))) ?_)
 generalize z30 _ _ = Z; generalize Z.1.1.1.1 = prog, Z.1.1.1.2.1 = w, Z.1.1.1.2.2 = A, Z.1.1.2.1.1 = h₀, Z.1.1.2.1.2 = L, Z.1.1.2.2.1 = m, Z.1.1.2.2.2 = env, Z.1.2.1.1.1 = elt, Z.1.2.1.1.2 = t1, Z.1.2.1.2.1 = i1, Z.1.2.1.2.2 = i2, Z.1.2.2.1.1 = x1, Z.1.2.2.1.2 = x2, Z.1.2.2.2.1 = px2, Z.1.2.2.2.2 = scope, Z.2.1.1.1 = cl, Z.2.1.1.2.1 = pos, Z.2.1.1.2.2 = s₂, Z.2.1.2.1.1 = v, Z.2.1.2.1.2 = I, Z.2.1.2.2.1 = C, Z.2.1.2.2.2 = D, Z.2.2.1.1.1 = oI, Z.2.2.1.1.2 = oC, Z.2.2.1.2.1 = ys, Z.2.2.1.2.2 = Jn, Z.2.2.2.1.1 = it2, Z.2.2.2.1.2 = s', Z.2.2.2.2.1 = R, Z.2.2.2.2.2 = mC
 intro hkind hx2 hxx T hoC hm1 hCI hDI hCD hyl fin
 refine hide fun Dq kq => ?_; obtain ⟨I2, n2, P2, St2, nw, h, tk, Ji, rfl, W, hn2, rfl, hst, hIo, hSt, F, N, off, hLI, hI₀, offI, hJ, turn, hend⟩ := T; refine kq ?_; clear kq Dq
 have hII : I ≠ I2 := offI _ (.head _)
 have hCI2 : C ≠ I2 := offI _ (.tail _ (.head _))
 have hDI2 : D ≠ I2 := offI _ (.tail _ (.tail _ (.head _)))
 have hC₀ := (N _ (.tail _ (.head _))).2.2
 have hCL : C ≠ L := (N (C, oC) (.tail _ (.head _))).2.1
 have hD₀ : h₀.get? D = none := (N (D, LCg.lst ys) (.tail _ (.tail _ (.head _)))).2.2
 have hDL : D ≠ L := (N (D, LCg.lst ys) (.tail _ (.tail _ (.head _)))).2.1
 have hIL : I ≠ L := (N (I, oI) (.head _)).2.1
 have hIz : h₀.get? I = none := (N (I, oI) (.head _)).2.2
 have loop : codeAny (model prog w) A (.compLoop (.ListComp elt [⟨t1, i1, [], 0⟩, ⟨.Name x2 px2, i2, [], 0⟩] scope pos) 1 (.ref I2) (.ref D) (compEnvC scope cl C env)) R { s₂ with heap := h, toks := tk } := by
  refine loop_two1 (fun k s' => E7 fun h' tk q ys' oC' mC' nw' => A12 (s' = { s₂ with heap := h', toks := tk }) (q ≤ n2) (k = n2 + 1 - q) (ys'.length ≤ ys.length + q) (St2 q h') (Fr h₀ L h' m) (LCg.NsObj oC' mC') (mC' x1 = some v) (News h₀ L h' ((I, oI) :: (C, oC') :: (D, LCg.lst ys') :: nw')) (LCg.Off3 I C D nw') (LCg.Off1 I2 nw') (Ji q ys' nw')) ?_ (n2 + 1)
   ⟨h, tk, 0, ys, oC, mC, nw, rfl, Nat.zero_le _, rfl, Nat.le_refl _, hst, F, hoC, hm1, N, off, offK_of fun p hp => offI p (.tail _ (.tail _ (.tail _ hp))), hJ⟩
  rintro k s' hJq; refine hide fun Dq kq => ?_; obtain ⟨h', tk', q, ys', oC', mC', nw', rfl, hq, rfl, hyl', hst', F', hoC', hm', N', off', offI', J'⟩ := hJq; refine kq ?_; clear kq Dq
  have off3 := off'.mem
  have offi := offK_mem offI'
  by_cases hlt : q < n2
  ·refine W.item q _ _ _ hlt hst' fun v2 h₂ tk₂ hPv hst₂ hk₂ => ?_
   have kN : ∀ p ∈ (I, oI) :: (C, oC') :: (D, LCg.lst ys') :: nw', h₂.get? p.1 = some p.2 := fun p hp => hk₂ _ _ (by
    simp only [List.mem_singleton]
    simp only [List.mem_cons] at hp
    rcases hp with rfl | rfl | rfl | hp
    ·exact hII
    ·exact hCI2
    ·exact hDI2
    ·exact offi p hp) (N' p hp).1
   refine wpAny_assign_Name (wpAny_storeName_local (lookup_relabel_local hx2) (hoC'.ns (kN _ (.tail _ (.head _)))) (fun h₃ hn₃ hs₃ => ?_) (by simp [compEnvC, relabel, hkind]))
   refine hide fun Dq kq => ?_; obtain ⟨oC₃, heC, hoC₃⟩ := LCg.ns_obj hn₃; refine kq ?_; clear kq Dq
   have hst₃ : St2 (q + 1) h₃ := W.frame _ _ _ hst₂ fun b hb o e => hs₃.extBut b o (fun z => by rw [List.mem_singleton.mp hb] at z; exact hCI2 z.symm) e
   obtain ⟨oI2, heI⟩ := hIo _ _ hst₃
   have F₃ : Fr h₀ L h₃ m := (LCg.fr_but F' hk₂ hLI hI₀).change hs₃ hCL hC₀
   have N₃ : News h₀ L h₃ ((I2, oI2) :: (I, oI) :: (C, oC₃) :: (D, LCg.lst ys') :: nw') := by
    refine all_cons ⟨heI, Ne.symm hLI, hI₀⟩ (all_cons ⟨hs₃.extBut _ _ (Ne.symm hCI) (kN _ (.head _)), hIL, hIz⟩ (all_cons ⟨heC, hCL, hC₀⟩ (all_cons ⟨hs₃.extBut _ _ (Ne.symm hCD) (kN _ (.tail _ (.tail _ (.head _)))), hDL, hD₀⟩ fun p hp => ?_)))
    ·exact ⟨hs₃.extBut _ _ (off3 p hp).2.1 (kN p (.tail _ (.tail _ (.tail _ hp)))), (N' p (.tail _ (.tail _ (.tail _ hp)))).2⟩
   refine wpAny_mono (turn q ys' nw' v2 oI2 oC₃ _ h₃ _ hlt J' hPv hoC₃ (by rw [if_neg hxx]; exact hm') (by simp) F₃ N₃ off' offI' ⟨Ne.symm hII, Ne.symm hCI2, Ne.symm hDI2, Ne.symm hCI, Ne.symm hDI, hCD⟩) (fun y s₄ h₄ => ?_) fun _ _ e => e
   refine hide fun Dq kq => ?_; obtain ⟨h₄, tk₄, nw₄, rfl, F₄, N₄, off₄, offI₄, J₄⟩ := h₄; refine kq ?_; clear kq Dq
   have zI := (N₄ (I2, oI2) (.head _)).1
   have off4 := off₄.mem
   refine append_at (hsz := by show ys'.toArray.size ≤ sizeLine; rw [List.size_toArray, sizeLine_eq]; omega) (N₄ (D, LCg.lst ys') (.tail _ (.tail _ (.tail _ (.head _))))).1 fun h₅ hs₅ hD₅ => ?_
   have hst₄ : St2 (q + 1) h₄ := hSt _ _ _ _ hst₃ heI zI
   refine ⟨n2 + 1 - (q + 1), by omega, h₅, tk₄, q + 1, ys' ++ [y], oC₃, _, nw₄, rfl, hlt, rfl, by rw [List.length_append, List.length_singleton]; omega, W.frame _ _ _ hst₄ fun b hb o e => hs₅.extBut b o (fun z => by rw [List.mem_singleton.mp hb] at z; exact hDI2 z.symm) e, F₄.change hs₅ hDL hD₀, hoC₃, by rw [if_neg hxx]; exact hm', fun p hp => ?_, off₄, offI₄, J₄⟩
   simp only [List.mem_cons] at hp
   rcases hp with rfl | rfl | rfl | hp
   ·exact ⟨hs₅.extBut _ _ (Ne.symm hDI) (N₄ _ (.tail _ (.head _))).1, hIL, hIz⟩
   ·exact ⟨hs₅.extBut _ _ hCD (N₄ _ (.tail _ (.tail _ (.head _)))).1, hCL, hC₀⟩
   ·exact ⟨hD₅.trans (congrArg some (LCg.lst_snoc ys' y)), hDL, hD₀⟩
   ·exact ⟨hs₅.extBut _ _ (off4 p hp).2.2 (N₄ p (.tail _ (.tail _ (.tail _ (.tail _ hp))))).1, (N₄ p (.tail _ (.tail _ (.tail _ (.tail _ hp))))).2⟩
  ·obtain rfl : q = n2 := Nat.le_antisymm hq (Nat.not_lt.mp hlt)
   refine W.done _ _ _ hst' fun h₂ tk₂ hk₂ => ?_
   refine fin h₂ tk₂ ys' nw' oC' mC' (LCg.fr_but F' hk₂ hLI hI₀) hoC' (LCg.news_but N' hk₂ fun p hp => ?_) off' (hend _ _ J') (by omega)
   simp only [List.mem_cons] at hp
   rcases hp with rfl | rfl | rfl | hp
   ·exact hII
   ·exact hCI2
   ·exact hDI2
   ·exact offi p hp
 exact start_two1 loop (W.self 0 _ _ _ hst loop)
def CompTwo (prog : Program) (w : World) (A : Around) (h₀ : Heap) (L : Addr) (m : Str → Option Value) (env : Env) (elt i2 : Expr) (x1 x2 : Str) (scope : Scope) (cl : List (Str × Addr)) (Q : Value → Shared → Prop) (s₂ : Shared) (S : List (Addr × Obj) → Prop) (P : Nat → Value → Prop) (n : Nat) (news : List (Addr × Obj)) : Prop :=
 n ≤ 100 ∧ ∃ J : Nat → List Value → List (Addr × Obj) → Prop, A3 (J 0 [] news) ((∀ i ys nw v I oI C oC D m₂ h tk, i < n → J i ys nw → P i v → LCg.NsObj oC m₂ → m₂ x1 = some v → Fr h₀ L h m → News h₀ L h ((I, oI) :: (C, oC) :: (D, LCg.lst ys) :: nw) → LCg.Off3 I C D nw → ((@Ne Nat I C) ∧ (@Ne Nat I D) ∧ (@Ne Nat C D)) →
   wpAny (model prog w) A (eval i2 (compEnvC scope cl C env)) (fun xv s' => wpAny (model prog w) A (pyIter xv) (TwoSrc prog w A h₀ L m env elt x1 x2 scope cl s₂ v I C D oI oC ys (fun ys' nw' => S nw' ∧ J (i + 1) ys' nw')) (fun _ _ => False) s') (fun _ _ => False) { s₂ with heap := h, toks := tk })) ((∀ ys nw, J n ys nw → LCg.FinE h₀ L m s₂ Q ys nw))
theorem ListComp_two {elt i1 i2 : Expr} {x1 x2 : Str} {px1 px2 : Pos} {scope : Scope} {cl : List (Str × Addr)} {pos : Pos} {Q : Value → Shared → Prop} (_F₀ : Fr h₀ L s.heap m)
  (hclos : closureFor scope env = pure cl) (hcell : ∀ y ∈ scope.names, y.2 ≠ .cell) (hkind : scope.kind = .function)
  (hnames : ∀ y ∈ scope.names, y.2 = .local → scope.names.lookup y.1 = some .local) (hx1 : scope.names.lookup x1 = some .local) (hx2 : scope.names.lookup x2 = some .local) (hxx : x1 ≠ x2)
  (h : wpAny (model prog w) A (eval i1 env) (fun xv s₁ => wpAny (model prog w) A (pyIter xv) (SrcX prog w A h₀ L m (CompTwo prog w A h₀ L m env elt i2 x1 x2 scope cl Q)) E s₁) E s)
  (hs : ∀ x, foldedSetIterable i1 env x = pure x := by intro _; rfl) (hs2 : ∀ C x, foldedSetIterable i2 (compEnvC scope cl C env) x = pure x := by intro _ _; rfl) :
  wpAny (model prog w) A (eval (.ListComp elt [⟨.Name x1 px1, i1, [], 0⟩, ⟨.Name x2 px2, i2, [], 0⟩] scope pos) env) Q E s := by
 rw [eval_ListComp]
 refine wpAny_comprehension_free (use := none) rfl hs hclos hkind hnames (wpAny_mono h (fun xv s₁ h₁ => wpAny_mono h₁ (fun it s₂ h₂ => ?_) fun _ _ e => e) fun _ _ e => e)
 refine hide fun Dq kq => ?_; obtain ⟨I, fp, n, P, St, S, news, rfl, W, hsz, hIo, hSt, hst, hfp, F, N, hIL, hI₀, off, hS, hn100, J, hJ, turn, fin⟩ := h₂; refine kq ?_; clear kq Dq
 refine wpAny_newObj_type (wpAny_newFunctionEnv hcell (by intro y hy; simp at hy) (fun h₁ hns₁ hsb₁ => ?_) hkind)
 dsimp only at hns₁ hsb₁ ⊢
 generalize hH2 : s₂.heap.push { cls := .type "list", dict := none, data := .seq ([] : List Value).toArray } = H2 at hns₁ hsb₁ ⊢
 have hC : H2.objs.size = s₂.heap.objs.size + 1 := by rw [← hH2, Heap.size_push]
 have hDC : s₂.heap.objs.size ≠ H2.objs.size := by rw [hC]; exact Nat.ne_of_lt (Nat.lt_succ_self _)
 have below : ∀ b, b < s₂.heap.objs.size → b ≠ H2.objs.size ∧ b ≠ s₂.heap.objs.size := fun b hb => ⟨by rw [hC]; exact Nat.ne_of_lt (Nat.lt_succ_of_lt hb), Nat.ne_of_lt hb⟩
 have hCf : H2.objs.size ∉ fp := fun hm => by have := hfp _ hm; rw [hC] at this; exact Nat.lt_irrefl _ (Nat.lt_of_succ_lt this)
 have hIf : I ∈ fp := W.sub I (List.mem_singleton.mpr rfl)
 have hIlt : I < s₂.heap.objs.size := hfp I hIf
 have old : ∀ b o, s₂.heap.get? b = some o → h₁.get? b = some o := fun b o e => hsb₁.extBut b o (below b (Heap.lt_size e)).1 (Heap.get?_push_of_some _ (hH2 ▸ Heap.get?_push_of_some _ e))
 have hacc : h₁.get? s₂.heap.objs.size = some (LCg.lst []) := hsb₁.extBut _ _ hDC (Heap.get?_push_of_some _ (hH2 ▸ Heap.get?_push_size _ rfl))
 have hst₁ : St 0 h₁ := W.frame _ _ _ hst fun b _ o e => old b o e
 have fresh₀ : ∀ a, s₂.heap.objs.size ≤ a → h₀.get? a = none := fun a ha => by
  cases e : h₀.get? a with
  | none => rfl
  | some o' => exact absurd (Heap.lt_size (F.keep a o' e)) (Nat.not_lt.mpr ha)
 have hD₀ : h₀.get? s₂.heap.objs.size = none := fresh₀ _ (Nat.le_refl _)
 have hC₀ : h₀.get? H2.objs.size = none := fresh₀ _ (by rw [hC]; exact Nat.le_succ _)
 have hLlt : L < s₂.heap.objs.size := F.ns.lt
 have hDL : s₂.heap.objs.size ≠ L := Ne.symm (below L hLlt).2
 have hCL : H2.objs.size ≠ L := Ne.symm (below L hLlt).1
 have hCI : I ≠ H2.objs.size := (below I hIlt).1
 have hDI : I ≠ s₂.heap.objs.size := (below I hIlt).2
 have off₀ : LCg.Off3 I H2.objs.size s₂.heap.objs.size news := LCg.Off3.of fun p hp => ⟨off p hp, (below _ (Heap.lt_size (N p hp).1)).1, (below _ (Heap.lt_size (N p hp).1)).2⟩
 have loop : ∀ s₃ : Shared, s₃ = { s₂ with heap := h₁, toks := s₂.toks + ([] : List (Str × Value)).length } →
   codeAny (model prog w) A (.compLoop (.ListComp elt [⟨.Name x1 px1, i1, [], 0⟩, ⟨.Name x2 px2, i2, [], 0⟩] scope pos) 0 (.ref I) (.ref s₂.heap.objs.size) (compEnvC scope cl H2.objs.size env))
    (compPost (model prog w) A E none Q (.ref s₂.heap.objs.size) H2.objs.size) s₃ := by
  rintro s₃ rfl
  refine loop_two0
   (fun k s' => E7 fun h' tk i ys oC mC news' => A11 (s' = { s₂ with heap := h', toks := tk }) (i ≤ n) (k = n + 1 - i) (ys.length ≤ 1000 * i) (St i h') (Fr h₀ L h' m) (LCg.NsObj oC mC) (News h₀ L h' ((H2.objs.size, oC) :: (s₂.heap.objs.size, LCg.lst ys) :: news')) (LCg.Off3 I H2.objs.size s₂.heap.objs.size news') (S news') (J i ys news')) (hs2 _) ?_ (n + 1) ?_
  ·rintro k s' hJq; refine hide fun Dq kq => ?_; obtain ⟨h', tk, i, ys, oC₀, mC₀, news', rfl, hi, rfl, hyl, hst', F', hoC', N', off', hS', J'⟩ := hJq; refine kq ?_; clear kq Dq
   have off3 := off'.mem
   by_cases hlt : i < n
   ·refine W.item i _ _ _ hlt hst' fun v h₂ tk₂ hPv hst₂ hk₂ => ?_
    have kN : ∀ p ∈ (H2.objs.size, oC₀) :: (s₂.heap.objs.size, LCg.lst ys) :: news', h₂.get? p.1 = some p.2 := fun p hp => hk₂ _ _ (by
     simp only [List.mem_singleton]
     simp only [List.mem_cons] at hp
     rcases hp with rfl | rfl | hp
     ·exact Ne.symm hCI
     ·exact Ne.symm hDI
     ·exact (off3 p hp).1) (N' p hp).1
    refine wpAny_assign_Name (wpAny_storeName_local (lookup_relabel_local hx1) (hoC'.ns (kN _ (.head _))) (fun h₃ hn₃ hs₃ => ?_) (by simp [compEnvC, relabel, hkind]))
    have hst₃ : St (i + 1) h₃ := W.frame _ _ _ hst₂ fun b hb o e => hs₃.extBut b o (fun q => hCf (by have q' : b = H2.objs.size := q; rw [← q']; exact hb)) e
    obtain ⟨oI, heI⟩ := hIo _ _ hst₃
    refine hide fun Dq kq => ?_; obtain ⟨oC, heC, hoC⟩ := LCg.ns_obj hn₃; refine kq ?_; clear kq Dq
    have F₃ : Fr h₀ L h₃ m := (LCg.fr_but F' hk₂ hIL hI₀).change hs₃ hCL hC₀
    have N₃ : News h₀ L h₃ ((I, oI) :: (H2.objs.size, oC) :: (s₂.heap.objs.size, LCg.lst ys) :: news') := fun p hp => by
     simp only [List.mem_cons] at hp
     rcases hp with rfl | rfl | rfl | hp
     ·exact ⟨heI, Ne.symm hIL, hI₀⟩
     ·exact ⟨heC, hCL, hC₀⟩
     ·exact ⟨hs₃.extBut _ _ hDC (kN _ (.tail _ (.head _))), hDL, hD₀⟩
     ·exact ⟨hs₃.extBut _ _ (off3 p hp).2.1 (kN p (.tail _ (.tail _ hp))), (N' p (.tail _ (.tail _ hp))).2⟩
    refine wpAny_mono (turn i ys news' v I oI H2.objs.size oC s₂.heap.objs.size _ h₃ _ hlt J' hPv hoC (by simp) F₃ N₃ off' ⟨hCI, hDI, Ne.symm hDC⟩) (fun xv s₄ h₄ => wpAny_mono h₄ (fun it2 s₅ h₅ => ?_) fun _ _ e => e) fun _ _ e => e
    refine inner_loop hkind hx2 hxx h₅ hoC (by simp) (Ne.symm hCI) (Ne.symm hDI) (Ne.symm hDC) (by omega) ?_
    intro h₆ tk₆ ys₆ nw₆ oC₆ mC₆ F₆ hoC₆ N₆ off₆ J₆ hl₆
    have hst₆ : St (i + 1) h₆ := hSt _ _ _ _ _ hst₃ heI (N₆ (I, oI) (.head _)).1 F₆.keep (fun p hp => N₆ p (.tail _ (.tail _ (.tail _ hp)))) J₆.1
    exact ⟨n + 1 - (i + 1), by omega, h₆, tk₆, i + 1, ys₆, oC₆, mC₆, nw₆, rfl, hlt, rfl, by omega, hst₆, F₆, hoC₆, fun p hp => N₆ p (.tail _ hp), off₆, J₆.1, J₆.2⟩
   ·obtain rfl : i = n := Nat.le_antisymm hi (Nat.not_lt.mp hlt)
    refine W.done _ _ _ hst' fun h₂ tk₂ hk₂ => ?_
    have F₂ := LCg.fr_but F' hk₂ hIL hI₀
    have N₂ := LCg.news_but N' hk₂ fun p hp => by
     simp only [List.mem_cons] at hp
     rcases hp with rfl | rfl | hp
     ·exact Ne.symm hCI
     ·exact Ne.symm hDI
     ·exact (off3 p hp).1
    refine ⟨mC₀, hoC'.ns (N₂ _ (.head _)).1, fun h'' hs'' => fin ys news' J' s₂.heap.objs.size h'' tk₂ (F₂.change hs'' hCL hC₀) (fun p hp => ?_) off'.one⟩
    refine ⟨hs''.extBut _ _ ?_ (N₂ p (.tail _ hp)).1, (N₂ p (.tail _ hp)).2⟩
    rcases List.mem_cons.mp hp with rfl | hp
    ·exact hDC
    ·exact (off3 p hp).2.1
  ·refine hide fun Dq kq => ?_; obtain ⟨oC, heC, hoC⟩ := LCg.ns_obj hns₁; refine kq ?_; clear kq Dq
   refine ⟨h₁, _, 0, [], oC, _, news, rfl, Nat.zero_le _, rfl, Nat.le_refl _, hst₁, F.keeps old, hoC, fun p hp => ?_, off₀, hS, hJ⟩
   simp only [List.mem_cons] at hp
   rcases hp with rfl | rfl | hp
   ·exact ⟨heC, hCL, hC₀⟩
   ·exact ⟨hacc, hDL, hD₀⟩
   ·exact ⟨old _ _ (N p hp).1, (N p hp).2⟩
 exact codeAny_compStart_list (loop _ rfl) (W.self 0 _ _ _ hst₁ (loop _ rfl))
end

end
section
section
variable {prog : Program} {w : World} {A : Around} {E : Value → Shared → Prop} {s : Shared} {h₀ : Heap} {L : Addr} {m : Str → Option Value} {env : Env}
def PairTurn (prog : Program) (w : World) (A : Around) (h₀ : Heap) (L : Addr) (m : Str → Option Value) (env : Env) (elt : Expr) (x x₂ : Str) (scope : Scope) (cl : List (Str × Addr)) (s₂ : Shared) (S : List (Addr × Obj) → Prop) (P : Nat → Value → Prop) (n : Nat) (J : Nat → List Value → List (Addr × Obj) → Nat → Prop) : Prop :=
 ∀ i ys nw v, i < n → (∃ tk, J i ys nw tk) → P i v → E4 fun (t : Addr) (v₁ v₂ : Value) (nt : Nat) => A3 (v = .ref t) ((t, listOf [v₁, v₂].toArray nt) ∈ nw) (∀ I oI C oC D m₂ h tk (E' : Value → Shared → Prop), J i ys nw tk → LCg.NsObj oC m₂ → m₂ x = some v₁ → m₂ x₂ = some v₂ → Fr h₀ L h m → News h₀ L h ((I, oI) :: (C, oC) :: (D, LCg.lst ys) :: nw) → LCg.Off3 I C D nw → ((@Ne Nat I C) ∧ (@Ne Nat I D) ∧ (@Ne Nat C D)) →
   wpAny (model prog w) A (eval elt (compEnvC scope cl C env)) (fun y s₄ => Hold (E3 fun h' tk' nw' => A6 (s₄ = { s₂ with heap := h', toks := tk' }) (Fr h₀ L h' m) (News h₀ L h' ((I, oI) :: (C, oC) :: (D, LCg.lst ys) :: nw')) (LCg.Off3 I C D nw') (S nw') (J (i + 1) (ys ++ [y]) nw' tk'))) E' { s₂ with heap := h, toks := tk })
theorem pair_list {elts : List Expr} {k : Nat} {pos : Pos} {t : Addr} {v₁ v₂ : Value} {Q : Unit → Shared → Prop} (hh : A.handled = none) (ht : s.heap.IsList t #[v₁, v₂])
  (h : ∀ h', Heap.ExtBut s.heap.objs.size s.heap h' → wpAny (model prog w) A (assignInOrder ((assignEach elts env).map (·.2)) [v₁, v₂]) Q E { s with heap := h' })
  (hn : (assignEach elts env).length = 2 := by rfl) (hstar : (assignEach elts env).findIdx? (·.1) = none := by rfl) : wpAny (model prog w) A (assign (.Tuple elts k pos) env (.ref t)) Q E s := by
 rw [assign_Tuple]
 refine wpAny_bind (wpAny_standAt ?_)
 unfold unpack
 rw [hn, hstar]
 exact wpAny_bind (wpAny_holding (kun_itemsOf (items := #[v₁, v₂]) hh ht h))
theorem block_PJ {elt iter : Expr} {x x₂ : Str} {px px₂ tp : Pos} {kt : Nat} {scope : Scope} {cl : List (Str × Addr)} {pos : Pos} {s₂ : Shared} {I : Addr} {fp : List Addr} {n : Nat} {P : Nat → Value → Prop} {St : Nat → Heap → Prop} {S : List (Addr × Obj) → Prop} {news : List (Addr × Obj)}
  {RR : Value → Addr → Result → Shared → Prop} (J : Nat → List Value → List (Addr × Obj) → Nat → Prop) (hmono : ∀ i ys nw tk tk', tk ≤ tk' → J i ys nw tk → J i ys nw tk')
  (W : Walks prog w A I fp [I] n P St) (hsz : n ≤ sizeLine) (hIo : ∀ i h, St i h → ∃ o, h.get? I = some o)
  (hSt : ∀ i h h' o nw, St i h → h.get? I = some o → h'.get? I = some o → (∀ b o, h₀.get? b = some o → h'.get? b = some o) → News h₀ L h' nw → S nw → St i h')
  (hcell : ∀ y ∈ scope.names, y.2 ≠ .cell) (hkind : scope.kind = .function) (hx : scope.names.lookup x = some .local) (hx₂ : scope.names.lookup x₂ = some .local) (hxx : x ≠ x₂) (hh : A.handled = none) (hLI : ∀ i h, St i h → E2 fun l j => h.IsListIter I l j) (hst : St 0 s₂.heap) (hfp : ∀ b ∈ fp, b < s₂.heap.objs.size)
  (F : Fr h₀ L s₂.heap m) (N : News h₀ L s₂.heap news) (hIL : L ≠ I) (hI₀ : h₀.get? I = none) (off : ∀ p ∈ news, p.1 ≠ I) (hS : S news) (hJ : J 0 [] news s₂.toks)
  (turn : PairTurn prog w A h₀ L m env elt x x₂ scope cl s₂ S P n J)
  (hRR : ∀ D C h tk m' ys news', Fr h₀ L h m → News h₀ L h ((D, LCg.lst ys) :: news') → LCg.Off1 D news' → h.Ns C m' → h₀.get? C = none → C ≠ L → C ≠ D → (∀ p ∈ news', p.1 ≠ C) → J n ys news' tk → RR (.ref D) C (.ok .next) { s₂ with heap := h, toks := tk }) :
  wpAny (model prog w) A (newList []) (fun acc s₃ => wpAny (model prog w) A (newFunctionEnv scope env.globals cl [] env.qual none .none (some env)) (fun cenv s₄ =>
   codeAny (model prog w) A (.compStart (.ListComp elt [⟨.Tuple [.Name x px, .Name x₂ px₂] kt tp, iter, [], 0⟩] scope pos) 0 (.ref I) acc { cenv with scope := relabel scope env }) (RR acc cenv.locals) s₄) E s₃) E s₂ := by
 revert prog w A E h₀ L m env elt iter x x₂ px px₂ tp kt scope cl pos s₂ I fp n P St S news RR J
 refine @(pk29 ((((Pg, (w00, Ar 0 0 [])), δ), δ), ((δ, (δ, (s00, δ))), δ)) ?_)
 generalize z29 _ _ = Z; generalize Z.1.1.1.1 = prog, Z.1.1.1.2.1 = w, Z.1.1.1.2.2 = A, Z.1.1.2.1.1 = E, Z.1.1.2.1.2 = h₀, Z.1.1.2.2.1 = L, Z.1.1.2.2.2 = m, Z.1.2.1.1 = env, Z.1.2.1.2.1 = elt, Z.1.2.1.2.2 = iter, Z.1.2.2.1.1 = x, Z.1.2.2.1.2 = x₂, Z.1.2.2.2.1 = px, Z.1.2.2.2.2 = px₂, Z.2.1.1.1 = tp, Z.2.1.1.2.1 = kt, Z.2.1.1.2.2 = scope, Z.2.1.2.1.1 = cl, Z.2.1.2.1.2 = pos, Z.2.1.2.2.1 = s₂, Z.2.1.2.2.2 = I, Z.2.2.1.1.1 = fp, Z.2.2.1.1.2 = n, Z.2.2.1.2.1 = P, Z.2.2.1.2.2 = St, Z.2.2.2.1.1 = S, Z.2.2.2.1.2 = news, Z.2.2.2.2.1 = RR, Z.2.2.2.2.2 = J
 intro hmono W hsz hIo hSt hcell hkind hx hx₂ hxx hh hLI hst hfp F N hIL hI₀ off hS hJ turn hRR
 refine wpAny_newObj_type (wpAny_newFunctionEnv hcell (by intro y hy; simp at hy) (fun h₁ hns₁ hsb₁ => ?_) hkind)
 dsimp only at hns₁ hsb₁ ⊢
 generalize hH2 : s₂.heap.push { cls := .type "list", dict := none, data := .seq ([] : List Value).toArray } = H2 at hns₁ hsb₁ ⊢
 have hC : H2.objs.size = s₂.heap.objs.size + 1 := by rw [← hH2, Heap.size_push]
 have hDC : s₂.heap.objs.size ≠ H2.objs.size := by rw [hC]; exact Nat.ne_of_lt (Nat.lt_succ_self _)
 have below : ∀ b, b < s₂.heap.objs.size → b ≠ H2.objs.size ∧ b ≠ s₂.heap.objs.size := fun b hb => ⟨by rw [hC]; exact Nat.ne_of_lt (Nat.lt_succ_of_lt hb), Nat.ne_of_lt hb⟩
 have hDf : s₂.heap.objs.size ∉ fp := fun hm => Nat.lt_irrefl _ (hfp _ hm)
 have hCf : H2.objs.size ∉ fp := fun hm => by have := hfp _ hm; rw [hC] at this; exact Nat.lt_irrefl _ (Nat.lt_of_succ_lt this)
 have hIlt : I < s₂.heap.objs.size := hfp I (W.sub I (List.mem_singleton.mpr rfl))
 have old : ∀ b o, s₂.heap.get? b = some o → h₁.get? b = some o := fun b o e => hsb₁.extBut b o (below b (Heap.lt_size e)).1 (Heap.get?_push_of_some _ (hH2 ▸ Heap.get?_push_of_some _ e))
 have hacc : h₁.get? s₂.heap.objs.size = some (LCg.lst []) := hsb₁.extBut _ _ hDC (Heap.get?_push_of_some _ (hH2 ▸ Heap.get?_push_size _ rfl))
 have hst₁ : St 0 h₁ := W.frame _ _ _ hst fun b _ o e => old b o e
 have fresh₀ : ∀ a, s₂.heap.objs.size ≤ a → h₀.get? a = none := fun a ha => by
  cases e : h₀.get? a with
  | none => rfl
  | some o' => exact absurd (Heap.lt_size (F.keep a o' e)) (Nat.not_lt.mpr ha)
 have hD₀ : h₀.get? s₂.heap.objs.size = none := fresh₀ _ (Nat.le_refl _)
 have hC₀ : h₀.get? H2.objs.size = none := fresh₀ _ (by rw [hC]; exact Nat.le_succ _)
 have hDL : s₂.heap.objs.size ≠ L := Ne.symm (below L F.ns.lt).2
 have hCL : H2.objs.size ≠ L := Ne.symm (below L F.ns.lt).1
 have hCI : I ≠ H2.objs.size := (below I hIlt).1
 have hDI : I ≠ s₂.heap.objs.size := (below I hIlt).2
 have off₀ : LCg.Off3 I H2.objs.size s₂.heap.objs.size news := LCg.Off3.of fun p hp => ⟨off p hp, (below _ (Heap.lt_size (N p hp).1)).1, (below _ (Heap.lt_size (N p hp).1)).2⟩
 have loop : ∀ s₃ : Shared, s₃ = { s₂ with heap := h₁, toks := s₂.toks + ([] : List (Str × Value)).length } →
   codeAny (model prog w) A (.compLoop (.ListComp elt [⟨.Tuple [.Name x px, .Name x₂ px₂] kt tp, iter, [], 0⟩] scope pos) 0 (.ref I) (.ref s₂.heap.objs.size) (compEnvC scope cl H2.objs.size env)) (RR (.ref s₂.heap.objs.size) H2.objs.size) s₃ := by
  rintro s₃ rfl
  refine LCp.codeAny_compLoop_pair
   (fun k s' => E6 fun h' tk i ys m' news' => A11 (s' = { s₂ with heap := h', toks := tk }) (i ≤ n) (k = n + 1 - i) (ys.length = i) (St i h') (Fr h₀ L h' m) (h'.Ns H2.objs.size m') (News h₀ L h' ((s₂.heap.objs.size, LCg.lst ys) :: news')) (LCg.Off3 I H2.objs.size s₂.heap.objs.size news') (S news') (J i ys news' tk)) ?_ (n + 1)
   ⟨h₁, _, 0, [], _, news, rfl, Nat.zero_le _, rfl, rfl, hst₁, F.keeps old, hns₁, fun p hp => ?_, off₀, hS, hJ⟩
  ·rintro k s' hJq; refine hide fun Dq kq => ?_; obtain ⟨h', tk, i, ys, m', news', rfl, hi, rfl, hyl, hst', F', hn', N', off', hS', J'⟩ := hJq; refine kq ?_; clear kq Dq
   have off3 := off'.mem
   by_cases hlt : i < n
   ·refine wpAny_tk tk (Nat.le_refl _) (W.item i _ _ _ hlt hst' fun v h₂ tk₂ hPv hst₂ hk₂ hn₂ => ?_)
    refine hide fun Dq kq => ?_; obtain ⟨t, v₁, v₂, nt, rfl, hmt, turn'⟩ := turn i ys news' v hlt ⟨_, J'⟩ hPv; refine kq ?_; clear kq Dq
    have N₂ : News h₀ L h₂ ((s₂.heap.objs.size, LCg.lst ys) :: news') := LCg.news_but N' hk₂ fun p hp => by
     rcases List.mem_cons.mp hp with rfl | hp
     ·exact Ne.symm hDI
     ·exact (off3 p hp).1
    have F₂ : Fr h₀ L h₂ m := LCg.fr_but F' hk₂ hIL hI₀
    have ht : h₂.IsList t #[v₁, v₂] := PySem.IsL.isList (N₂ _ (.tail _ hmt)).1
    refine hide fun Dq kq => ?_; obtain ⟨lI, jI, hLi⟩ := hLI _ _ hst₂; refine kq ?_; clear kq Dq
    refine wpAny_tk tk hn₂ (wpAny_letOwnedTupleGo_listiter hLi ?_)
    intro _
    refine wpAny_tk tk hn₂ ?_
    refine pair_list hh ht fun h₅ he' => ?_
    have he : ∀ b o, h₂.get? b = some o → h₅.get? b = some o := fun b o e => he' b o (Nat.ne_of_lt (Heap.lt_size e)) e
    have ns₅ : h₅.Ns H2.objs.size m' := (hn'.at' fun o e => hk₂ _ o (by simpa using Ne.symm hCI) e).at' fun o e => he _ o e
    refine assignInOrder_cons (wpAny_assign_Name (wpAny_storeName_local (lookup_relabel_local hx) ns₅ (fun h₆ hn₆ hs₆ => ?_) (by simp [compEnvC, relabel, hkind])))
    refine assignInOrder_cons (wpAny_assign_Name (wpAny_storeName_local (lookup_relabel_local hx₂) hn₆ (fun h₃ hn₃ hs₃ => ?_) (by simp [compEnvC, relabel, hkind])))
    refine assignInOrder_nil ?_
    intro hn₄
    have old3 : ∀ b o, b ≠ H2.objs.size → h₂.get? b = some o → h₃.get? b = some o := fun b o hb e => hs₃.extBut b o hb (hs₆.extBut b o hb (he b o e))
    have hst₃ : St (i + 1) h₃ := W.frame _ _ _ hst₂ fun b hb o e => old3 b o (fun q => hCf (by rw [← q]; exact hb)) e
    obtain ⟨oI, heI⟩ := hIo _ _ hst₃
    refine hide fun Dq kq => ?_; obtain ⟨oC, heC, hoC⟩ := LCg.ns_obj hn₃; refine kq ?_; clear kq Dq
    have F₃ : Fr h₀ L h₃ m := ((F₂.keeps he).change hs₆ hCL hC₀).change hs₃ hCL hC₀
    have N₃ : News h₀ L h₃ ((I, oI) :: (H2.objs.size, oC) :: (s₂.heap.objs.size, LCg.lst ys) :: news') := fun p hp => by
     rcases List.mem_cons.mp hp with rfl | hp
     ·exact ⟨heI, Ne.symm hIL, hI₀⟩
     ·rcases List.mem_cons.mp hp with rfl | hp
      ·exact ⟨heC, hCL, hC₀⟩
      ·have z := N₂ p hp
       refine ⟨old3 _ _ ?_ z.1, z.2⟩
       rcases List.mem_cons.mp hp with rfl | hp
       ·exact hDC
       ·exact (off3 p hp).2.1
    refine wpAny_mono (turn' I oI H2.objs.size oC s₂.heap.objs.size _ h₃ _ _ (hmono _ _ _ _ _ hn₄ J') hoC (by simp [hxx]) (by simp) F₃ N₃ off' ⟨hCI, hDI, Ne.symm hDC⟩) (fun y s₄ h₄ => ?_) fun _ _ e => e
    refine hide fun Dq kq => ?_; obtain ⟨h₄, tk₄, news₄, rfl, F₄, N₄, off₄, hS₄, J₄⟩ := h₄; refine kq ?_; clear kq Dq
    have zI := (N₄ (I, oI) (.head _)).1
    have zC := (N₄ (H2.objs.size, oC) (.tail _ (.head _))).1
    have zD := (N₄ (s₂.heap.objs.size, LCg.lst ys) (.tail _ (.tail _ (.head _)))).1
    have N₄' : News h₀ L h₄ news₄ := fun p hp => N₄ p (.tail _ (.tail _ (.tail _ hp)))
    have hst₄ : St (i + 1) h₄ := hSt _ _ _ _ _ hst₃ heI zI F₄.keep N₄' hS₄
    refine append_at (hsz := by show ys.toArray.size ≤ sizeLine; rw [List.size_toArray, hyl]; exact Nat.le_trans hi hsz) zD fun h₅ hs₅ hD₅ => ?_
    have off4 := off₄.mem
    refine ⟨n + 1 - (i + 1), by omega, h₅, tk₄, i + 1, ys ++ [y], _, news₄, rfl, hlt, rfl, by rw [List.length_append, List.length_singleton, hyl], W.frame _ _ _ hst₄ fun b hb o e => hs₅.extBut b o (fun q => hDf (q ▸ hb)) e, F₄.change hs₅ hDL hD₀,
     (hoC.ns zC).sameBut hs₅ (Ne.symm hDC), fun p hp => ?_, off₄, hS₄, J₄⟩
    rcases List.mem_cons.mp hp with rfl | hp
    ·exact ⟨hD₅.trans (congrArg some (LCg.lst_snoc ys y)), hDL, hD₀⟩
    ·exact ⟨hs₅.extBut _ _ (off4 p hp).2.2 (N₄' p hp).1, (N₄' p hp).2⟩
   ·obtain rfl : i = n := Nat.le_antisymm hi (Nat.not_lt.mp hlt)
    refine wpAny_tk tk (Nat.le_refl _) (W.done _ _ _ hst' fun h₂ tk₂ hk₂ hn₂ => ?_)
    exact hRR _ _ h₂ tk₂ _ ys news' (LCg.fr_but F' hk₂ hIL hI₀) (LCg.news_but N' hk₂ fun p hp => by
     rcases List.mem_cons.mp hp with rfl | hp
     ·exact Ne.symm hDI
     ·exact (off3 p hp).1) off'.one (hn'.at' fun o e => hk₂ _ o (by simpa using Ne.symm hCI) e) hC₀ hCL (Ne.symm hDC) (fun p hp => (off3 p hp).2.1) (hmono _ _ _ _ _ hn₂ J')
  ·rcases List.mem_cons.mp hp with rfl | hp
   ·exact ⟨hacc, hDL, hD₀⟩
   ·exact ⟨old _ _ (N p hp).1, (N p hp).2⟩
 exact codeAny_compStart_list (loop _ rfl) (W.self 0 _ _ _ hst₁ (loop _ rfl))
def PairSrc (prog : Program) (w : World) (A : Around) (h₀ : Heap) (L : Addr) (m : Str → Option Value) (env : Env) (elt : Expr) (x x₂ : Str) (scope : Scope) (cl : List (Str × Addr)) (Fin : Shared → List Value → List (Addr × Obj) → Nat → Prop) (xv : Value) (s₁ : Shared) : Prop :=
 E3 fun (ax : Addr) (its : List Value) (news : List (Addr × Obj)) => A7 (xv = .ref ax) (A.handled = none) (Fr h₀ L s₁.heap m) (News h₀ L s₁.heap news) (LCg.SrcAt h₀ ax its.toArray news) (its.length < 1000) (∃ J : Nat → List Value → List (Addr × Obj) → Nat → Prop, A4 ((∀ i ys nw tk tk', tk ≤ tk' → J i ys nw tk → J i ys nw tk')) (J 0 [] news s₁.toks) (PairTurn prog w A h₀ L m env elt x x₂ scope cl s₁ (LCg.SrcAt h₀ ax its.toArray) (fun i v => its[i]? = some v) its.length J) ((∀ ys nw tk, J its.length ys nw tk → Fin s₁ ys nw tk)))
theorem pair_src {elt iter : Expr} {x x₂ : Str} {px px₂ tp : Pos} {kt : Nat} {scope : Scope} {cl : List (Str × Addr)} {pos : Pos} {xv : Value} {s₁ : Shared} {Fin : Shared → List Value → List (Addr × Obj) → Nat → Prop} {RR : Value → Addr → Result → Shared → Prop}
  (hcell : ∀ y ∈ scope.names, y.2 ≠ .cell) (hkind : scope.kind = .function) (hx : scope.names.lookup x = some .local) (hx₂ : scope.names.lookup x₂ = some .local) (hxx : x ≠ x₂) (h : PairSrc prog w A h₀ L m env elt x x₂ scope cl Fin xv s₁)
  (hRR : ∀ D C h tk m' ys news', Fr h₀ L h m → News h₀ L h ((D, LCg.lst ys) :: news') → LCg.Off1 D news' → h.Ns C m' → h₀.get? C = none → C ≠ L → C ≠ D → (∀ p ∈ news', p.1 ≠ C) → (∀ tk', tk ≤ tk' → Fin s₁ ys news' tk') → RR (.ref D) C (.ok .next) { s₁ with heap := h, toks := tk }) :
  wpAny (model prog w) A (pyIter xv) (fun it s₂ => wpAny (model prog w) A (newList []) (fun acc s₃ => wpAny (model prog w) A (newFunctionEnv scope env.globals cl [] env.qual none .none (some env)) (fun cenv s₄ =>
   codeAny (model prog w) A (.compStart (.ListComp elt [⟨.Tuple [.Name x px, .Name x₂ px₂] kt tp, iter, [], 0⟩] scope pos) 0 it acc { cenv with scope := relabel scope env }) (RR acc cenv.locals) s₄) E s₃) E s₂) E s₁ := by
 refine hide fun Dq kq => ?_; obtain ⟨ax, its, news, rfl, hh, F, N, hS, hsz, J, hmono, hJ, turn, fin⟩ := h; refine kq ?_; clear kq Dq
 have hl := hS.list F.keep N
 have hlt : ax < s₁.heap.objs.size := by obtain ⟨_, e, _⟩ := hl; exact Heap.lt_size e
 refine wpAny_pyIter_list hl ?_
 have up : ∀ b o, s₁.heap.get? b = some o → (s₁.heap.push { cls := .type "list_iterator", data := .fields #[.ref ax, .int 0 0] }).get? b = some o := fun b o e => Heap.get?_push_of_some _ e
 have W := Walks.list (prog := prog) (w := w) hh s₁.heap.objs.size ax (Nat.ne_of_lt hlt) its.toArray
 simp only [List.getElem?_toArray, List.size_toArray] at W
 refine block_PJ (s₂ := { s₁ with heap := s₁.heap.push { cls := .type "list_iterator", data := .fields #[.ref ax, .int 0 0] } }) J hmono W (by rw [sizeLine_eq]; omega) (fun i h st => by obtain ⟨o, e, _⟩ := st.1; exact ⟨o, e⟩) LCg.list_st hcell hkind hx hx₂ hxx hh (fun i h st => ⟨_, _, st.1⟩) ⟨⟨_, Heap.get?_push_size _ rfl, rfl, rfl⟩, hl.push _⟩ (fun b hb => ?_)
  (F.keeps up) (N.grown up) (Nat.ne_of_lt F.ns.lt) (next_is_new F) (fun p hp => Nat.ne_of_lt (Heap.lt_size (N p hp).1)) hS hJ turn ?_
 ·show b < (s₁.heap.push _).objs.size
  rw [Heap.size_push]
  rcases List.mem_cons.mp hb with rfl | hb
  ·exact Nat.lt_succ_self _
  ·rw [List.mem_singleton.mp hb]; exact Nat.lt_succ_of_lt hlt
 ·intro D C h tk m' ys news' F' N' o1 hn hC₀ hCL hCD offC j
  exact hRR D C h tk m' ys news' F' N' o1 hn hC₀ hCL hCD offC fun tk' hle => fin ys news' tk' (hmono _ _ _ _ _ hle j)
theorem ListComp_PJ {elt iter : Expr} {x x₂ : Str} {px px₂ tp : Pos} {kt : Nat} {scope : Scope} {cl : List (Str × Addr)} {pos : Pos} {Q : Value → Shared → Prop} (_F₀ : Fr h₀ L s.heap m)
  (hclos : closureFor scope env = pure cl) (hcell : ∀ y ∈ scope.names, y.2 ≠ .cell) (hkind : scope.kind = .function)
  (hnames : ∀ y ∈ scope.names, y.2 = .local → scope.names.lookup y.1 = some .local) (hx : scope.names.lookup x = some .local) (hx₂ : scope.names.lookup x₂ = some .local) (hxx : x ≠ x₂)
  (h : wpAny (model prog w) A (eval iter env) (PairSrc prog w A h₀ L m env elt x x₂ scope cl fun s₁ ys nw tk => ∀ D h, Fr h₀ L h m → News h₀ L h ((D, LCg.lst ys) :: nw) → LCg.Off1 D nw → Q (.ref D) { s₁ with heap := h, toks := tk }) E s)
  (hs : ∀ x, foldedSetIterable iter env x = pure x := by intro _; rfl) :
  wpAny (model prog w) A (eval (.ListComp elt [⟨.Tuple [.Name x px, .Name x₂ px₂] kt tp, iter, [], 0⟩] scope pos) env) Q E s := by
 rw [eval_ListComp]
 refine wpAny_comprehension_free (use := none) rfl hs hclos hkind hnames (wpAny_mono h (fun xv s₁ h₁ => ?_) fun _ _ e => e)
 refine pair_src hcell hkind hx hx₂ hxx h₁ ?_
 intro D C h tk m' ys news' F' N' o1 hn hC₀ hCL hCD offC fin
 refine ⟨m', hn, fun h'' hs'' => fin tk (Nat.le_refl _) D h'' (F'.change hs'' hCL hC₀) (fun p hp => ?_) o1⟩
 refine ⟨hs''.extBut _ _ ?_ (N' p hp).1, (N' p hp).2⟩
 rcases List.mem_cons.mp hp with rfl | hp
 ·exact Ne.symm hCD
 ·exact offC p hp
theorem Assign_PJ {elt iter : Expr} {x x₂ y : Str} {px px₂ tp py : Pos} {kt : Nat} {scope : Scope} {cl : List (Str × Addr)} {pos spos : Pos} {Q : Flow → Shared → Prop} (_F₀ : Fr h₀ L s.heap m) (hLe : env.locals = L)
  (hsw : swapsWith (.ListComp elt [⟨.Tuple [.Name x px, .Name x₂ px₂] kt tp, iter, [], 0⟩] scope pos) (some (.Name y py)) spos.line env = pure true)
  (hclos : closureFor scope env = pure cl) (hcell : ∀ z ∈ scope.names, z.2 ≠ .cell) (hkind : scope.kind = .function)
  (hnames : ∀ z ∈ scope.names, z.2 = .local → scope.names.lookup z.1 = some .local) (hx : scope.names.lookup x = some .local) (hx₂ : scope.names.lookup x₂ = some .local) (hxx : x ≠ x₂)
  (hy : env.kindOf y = some .local) (hp : (env.scope.kind == .class || (env.scope.kind == .module && env.locals != env.globals)) = false)
  (h : wpAny (model prog w) A (eval iter env) (PairSrc prog w A h₀ L m env elt x x₂ scope cl fun s₁ ys nw tk => ∀ D h, Fr h₀ L h (fun z => if z = y then some (.ref D) else m z) → News h₀ L h ((D, LCg.lst ys) :: nw) → LCg.Off1 D nw → Q .next { s₁ with heap := h, toks := tk }) E s)
  (hs : ∀ x, foldedSetIterable iter env x = pure x := by intro _; rfl) :
  wpAny (model prog w) A (exec (.Assign [.Name y py] (.ListComp elt [⟨.Tuple [.Name x px, .Name x₂ px₂] kt tp, iter, [], 0⟩] scope pos) spos) env) Q E s := by
 subst hLe
 rw [exec_Assign_Name_used _ _ _ _ hsw]
 refine wpAny_bind (wpAny_standAt (wpAny_bind ?_))
 show wpAny _ A (do let _ ← comprehension (.ListComp elt [⟨.Tuple [.Name x px, .Name x₂ px₂] kt tp, iter, [], 0⟩] scope pos) scope env _ (newList []) false (eval iter env) (some (assign (.Name y py) env))) _ _ s
 refine wpAny_bind (wpAny_mono (wpAny_comprehension_free (use := some (assign (.Name y py) env)) (Q := fun _ s' => Q .next s') rfl hs hclos hkind hnames
  (wpAny_mono h (fun xv s₁ h₁ => ?_) fun _ _ e => e)) (fun _ s' hq => wpAny_pure (wpAny_pure hq)) fun _ _ e => e)
 refine pair_src hcell hkind hx hx₂ hxx h₁ ?_
 intro D C h tk m' ys news' F' N' o1 hn hC₀ hCL hCD offC fin
 show wpAny _ A (assign (.Name y py) env (.ref D)) _ _ _
 refine wpAny_assign_Name (wpAny_storeName_local hy F'.ns (fun h₂ hn₂ hs₂ => ?_) hp)
 have hL₀ : h₀.get? env.locals = none := Heap.get?_none_of_le F'.above
 have F₂ : Fr h₀ env.locals h₂ (fun z => if z = y then some (.ref D) else m z) := ⟨hn₂, fun b o e => hs₂.extBut b o (fun q => by rw [q, hL₀] at e; cases e) (F'.keep b o e), F'.above⟩
 refine ⟨m', hn.sameBut hs₂ hCL, fun h'' hs'' => fin _ (Nat.le_succ _) D h'' (F₂.change hs'' hCL hC₀) (fun p hp => ?_) o1⟩
 have z : h₂.get? p.1 = some p.2 := hs₂.extBut _ _ (N' p hp).2.1 (N' p hp).1
 refine ⟨hs''.extBut _ _ ?_ z, (N' p hp).2⟩
 rcases List.mem_cons.mp hp with rfl | hp
 ·exact Ne.symm hCD
 ·exact offC p hp
end

end
end
section
local macro_rules | `(tactic| walk_at "call builtin:dict.get") => `(tactic| (k_here; k_dflt (refine ld_get0 (by k_asm) (by k_mem) (by assumption) (by assumption) (by assumption) ?_)))
local macro_rules | `(tactic| walk_at "setItem ref str ref") => `(tactic| (k_here; k_dflt (refine' setI_K ?F ?N ?U ?d ?z ?_; (case F => k_asm); (case N => k_asm); (case U => k_updF); (case d => assumption); (case z => assumption)); intro h' o' F' N' hd'; (try dsimp only at N'); (try k_sweep)))
section
theorem getnew_spec {w : World} {dp un : Nat} {fr : List Env} {s : Shared} {Q E : Value → Shared → Prop} {x dx d : Addr} {od : Obj} {h1 h2 h3 h4 : Int} {t1 t2 t3 t4 tp tf : Tok} {np nf : Int} {rv : Value} {en : Nat} {k : Str} {tq : Tok} {kvs : List (Str × Value)}
 (C : Cx w fr s.heap [d]) (hd : dp + 20 < recursionLimit) (hu : un + 300 < cLine)
 (hx : s.heap.get? x = some (instObj 165 dx)) (hdx : s.heap.get? dx = some (dictOf (sdict h1 h2 h3 h4 t1 t2 t3 t4 d rv np nf tp tf) en)) (nx : x ≠ d) (ndx : dx ≠ d)
 (hod : s.heap.get? d = some od) (hD : od.IsDictOf (PySem.strKind Pg w) kvs) (hd1 : (d == sysModules) = false) (hk : valueAt kvs k = none) (hz : kvs.length < 1000)
 (hret : ∀ (h' : Heap) (tk' : Nat) (a da sa : Addr) (ct : Tok) (od' : Obj), Keep s.heap h' [d] → (∀ b ∈ [a, da, sa], s.heap.get? b = none) → [a, da, sa].Nodup → h'.get? d = some od' → od'.IsDictOf (PySem.strKind Pg w) (stored kvs k (.ref a)) → h'.get? a = some (nodeObj (.str k tq) 0 ct sa da) → h'.get? da = some (dictOf [] 0) → h'.get? sa = some (listOf #[] 0) → Q (.ref a) { s with heap := h', toks := tk' }) :
 wpAny (model Pg w) (Ar dp un fr) (call (.ref 108) [.ref x, .str k tq]) Q E s := by
 revert w dp un fr s Q E x dx d od h1 h2 h3 h4 t1 t2 t3 t4 tp tf np nf rv en k tq kvs
 refine @(pk28 ((((w00, δ), ((δ, s00), δ)), δ), δ) ?_)
 generalize z28 _ _ = Z; generalize Z.1.1.1.1 = w, Z.1.1.1.2.1 = dp, Z.1.1.1.2.2 = un, Z.1.1.2.1.1 = fr, Z.1.1.2.1.2 = s, Z.1.1.2.2.1 = Q, Z.1.1.2.2.2 = E, Z.1.2.1.1 = x, Z.1.2.1.2.1 = dx, Z.1.2.1.2.2 = d, Z.1.2.2.1.1 = od, Z.1.2.2.1.2 = h1, Z.1.2.2.2.1 = h2, Z.1.2.2.2.2 = h3, Z.2.1.1.1 = h4, Z.2.1.1.2.1 = t1, Z.2.1.1.2.2 = t2, Z.2.1.2.1.1 = t3, Z.2.1.2.1.2 = t4, Z.2.1.2.2.1 = tp, Z.2.1.2.2.2 = tf, Z.2.2.1.1 = np, Z.2.2.1.2.1 = nf, Z.2.2.1.2.2 = rv, Z.2.2.2.1.1 = en, Z.2.2.2.1.2 = k, Z.2.2.2.2.1 = tq, Z.2.2.2.2.2 = kvs
 intro C hd hu hx hdx nx ndx hod hD hd1 hk hz hret
 have hN : ∀ p ∈ [(d, od)], s.heap.get? p.1 = some p.2 := fun p hp => by rw [List.mem_singleton.mp hp]; exact hod
 k_dflt (refine' enter (news := [(d, od)]) (binds := [(Str.ofString "self", .ref x), (Str.ofString "node", .str k tq)]) ?C ?N ?k6 ?k7 ?k8 ?k9 ?kB ?_ ?c2 ?c3 ?c4 ?c5; walk_at "m_in")
 intro g L₀ h₁ base p loose mean mg mb BO F N B X T S hlt hL
 have gx := S.out _ _ hx (by simpa using nx)
 have gdx := S.out _ _ hdx (by simpa using ndx)
 k_steps
 k_dflt (refine' call_cls ?k1 ?k2 ?k3 ?k4 ?k5 ?k6 ?_; (case k1 => k_asm); (case k2 => k_asm); (case k3 => k_asm); (case k4 => k_is); (case k5 => k_is); (case k6 => k_is))
 intro a da h₂ F₂ N₂ l1 l2
 k_lt l1
 k_lt2 l2
 k_dflt (refine' code_def (binds := [(Str.ofString "self", .ref a), (Str.ofString "node", .str k tq)]) ?k1 ?k2 ?k3 ?k4 ?k5 ?kA ?kF ?kK ?k6 ?k7 ?k8 ?k9 ?kB ?_ ?c2 ?c3 ?c4 ?c5; (case kA => exact rfl); (case kF => exact rfl); (case kK => exact rfl); (case k1 => k_asm); (case k2 => k_asm); (case k3 => k_asm); (case k4 => k_asm); (case k5 => k_asm); (case k6 => k_is); (case k7 => k_is); (case k8 => ktr_room); (case k9 => exact BindsTo.of_eq rfl); (case c5 => decide); (case kB => exact locs rfl); (case c2 => exact rfl); (case c3 => exact rfl); (case c4 => exact rfl); k_whole; intro g' L' h' FG' F' N' B' X' T'; (try dsimp only); (try k_lift B'); (try (have hDl' := bd_lift FG' (by assumption))); (try (have hLl' := li_lift FG' (by assumption))); (try walk_at "m_lift"); (try k_fold))
 k_steps
 show Q _ _
 have new : ∀ {h : Heap} {news : List (Addr × Obj)} {q : Addr × Obj}, News g L₀ h news → q ∈ news → q.1 ≠ d → s.heap.get? q.1 = none := fun NN hq hn => by
  cases e : s.heap.get? _ with
  | none => rfl
  | some o => have := S.out _ _ e (by simpa using hn); rw [(NN _ hq).2.2] at this; cases this
 rename (News g L₀ _ [_, _, _, _]) => NX
 rename (_ < _ ∧ _ < _ ∧ _ < _) => l3
 refine hret _ _ a da _ _ _ (S.keep (by assumption)) ?_ ?_ (News.get NX (.tail _ (.tail _ (.tail _ (.head _))))) (by assumption) (News.get NX (.tail _ (.head _))) (News.get NX (.tail _ (.tail _ (.head _)))) (News.get NX (.head _))
 ·simp only [List.mem_cons, List.not_mem_nil, or_false]
  rintro b (rfl | rfl | rfl)
  ·exact new NX (.tail _ (.head _)) (Nat.ne_of_gt (Nat.lt_trans l1 l2))
  ·exact new NX (.tail _ (.tail _ (.head _))) (Nat.ne_of_gt l1)
  ·exact new NX (.head _) (Nat.ne_of_gt l3.2.2)
 ·simp only [List.nodup_cons, List.mem_cons, List.not_mem_nil, or_false, not_or, not_false_eq_true, and_true, List.nodup_nil]
  exact ⟨⟨Nat.ne_of_gt l2, Nat.ne_of_lt l3.1⟩, Nat.ne_of_lt l3.2.1⟩

end
section
theorem after_K {g h h' : Heap} {L : Addr} {m : Str → Option Value} {news news' : List (Addr × Obj)} {mu : List Addr} (F : Fr g L h m) (N : News g L h news) (k : Keep h h' mu) (hmu : ∀ b ∈ mu, b ∈ news.map (·.1))
  (hn : ∀ p ∈ news', (p ∈ news ∧ p.1 ∉ mu) ∨ (h'.get? p.1 = some p.2 ∧ (p.1 ∈ mu ∨ h.get? p.1 = none))) : Fr g L h' m ∧ News g L h' news' := by
 have hm : ∀ b ∈ mu, g.get? b = none ∧ b ≠ L := fun b hb => by
  refine hide fun Dq kq => ?_; obtain ⟨p, hp, rfl⟩ := List.mem_map.mp (hmu b hb); refine kq ?_; clear kq Dq
  exact ⟨(N p hp).2.2, (N p hp).2.1⟩
 refine ⟨⟨F.ns.at' fun o e => k _ o e fun z => (hm _ z).2 rfl, fun b o e => k b o (F.keep b o e) fun z => ?_, F.above⟩, fun p hp => ?_⟩
 ·have := (hm b z).1; rw [e] at this; cases this
 ·rcases hn p hp with ⟨hp', nm⟩ | ⟨hg, hp' | hp'⟩
  ·exact ⟨k _ _ (N p hp').1 nm, (N p hp').2⟩
  ·exact ⟨hg, (hm _ hp').2, (hm _ hp').1⟩
  ·refine ⟨hg, fun e => ?_, ?_⟩
   ·refine hide fun Dq kq => ?_; obtain ⟨oL, es, ep, hL', _⟩ := F.ns; refine kq ?_; clear kq Dq
    rw [e, hL'] at hp'; cases hp'
   ·cases q' : g.get? p.1 with
    | none => rfl
    | some o => have := F.keep _ _ q'; rw [hp'] at this; cases this
theorem enterVR {w : World} {dp un : Nat} {fr : List Env} {s : Shared} {news : List (Addr × Obj)} {R : Result → Shared → Prop}
  {name qual : Str} {params : Arguments} {body : List Stmt} {scope : Scope} {dV kV doc pm cdv ct oc : Value} {an od : Option Addr} {osl : Array (Option Value)} {f : Addr} {pos : List Value} {vs : List Value} {g₁ : Addr → Option (List (Str × Value))} {binds : Addr → List (Str × Value)}
  (C : Cx w fr s.heap (news.map (·.1))) (N : ∀ p ∈ news, s.heap.get? p.1 = some p.2)
  (ho : (Mine.hd.heap_39 w.params).lookup f = some ⟨oc, od, .func (fnOf name qual params body scope dV kV doc pm an cdv ct), osl⟩) (hcd : codeIn (Mine.hd.heap_39 w.params) cdv qual = true) (hroom : dp < recursionLimit)
  (hp : peek1 (Mine.hd.heap_39 w.params) ⟨Pg, w.params⟩ (bindArgs (fnOf name qual params body scope dV kV doc pm an cdv ct) ⟨pos, []⟩) = some (tupOf vs, g₁))
  (hg : ∀ D, g₁ D = some (binds D)) (hloc : ∀ D, ∀ y ∈ binds D, scope.names.lookup y.1 = some .local)
  (h : ∀ D g L' h₁ base p loose mean mg mb, BOk w base → Fr g L' h₁ (fun y => (binds D).reverse.lookup y) → News g L' h₁ ((D, tupOf vs) :: news) → Below (Ar dp un fr) base fr g → (Mine.hd.heap_39 w.params).In g → Top p loose mean mg mb g → Sub s.heap g (news.map (·.1)) → (∀ p ∈ news, p.1 < D) → D < L' →
   wpAny (model Pg w) ((Ar dp un fr).deeper (envOf qual scope L' f cdv)) (execs body (envOf qual scope L' f cdv))
    (fun fl s' => EndK (fun v s' => R (.ok (.ret v)) s') (match fl with | .ret v => v | _ => .none) s')
    (fun _ _ => False)
    { s with heap := h₁, toks := s.toks + (binds D).length })
  (hco : scope.isCoroutine = false := by rfl) (hgen : scope.isGenerator = false := by rfl) (hk : scope.kind = .function := by rfl)
  (hcell : ∀ x ∈ scope.names, x.2 ≠ .cell := by decide) : codeAny (model Pg w) (Ar dp un fr) (.call (.ref f) ⟨pos, []⟩) R s := by
 refine hide fun Dq kq => ?_; obtain ⟨A₀, base, h₀, outer, L, m, env, rfl, B, F, BO, hf, hke, hm⟩ := C; refine kq ?_; clear kq Dq
 have X := BO.X.keeps B.stays
 refine hide fun Dq kq => ?_; obtain ⟨p, loose, mean, mg, mb, TB⟩ := BO.T; refine kq ?_; clear kq Dq
 have T := TB.keeps B.stays
 have N' : News h₀ L s.heap news := fun p hp => ⟨N p hp, (hm _ (List.mem_map_of_mem hp)).2, (hm _ (List.mem_map_of_mem hp)).1⟩
 refine codeAny_call_function (fd := fnOf name qual params body scope dV kV doc pm an cdv ct) (body := body) hroom ((X.keeps F.keep) _ _ ho) rfl hco hgen rfl (codeRec_of (X.keeps F.keep) hcd) ?_
 have key : ∀ D h', D = s.heap.objs.size → h' = s.heap.push (tupOf vs) → Fr h₀ L h' m → News h₀ L h' ((D, tupOf vs) :: news) →
   wpAny (model Pg w) (Ar dp un (env :: outer)).in1 (newFunctionEnv scope mainGlobals [] (binds D) (qual ++ ".<locals>.") (some f) cdv none builtinsNs) (fun env' s₂ => s₂.heap.NoLimit ∧ codeAny (model Pg w) (Ar dp un (env :: outer)) (.func body env') R s₂) (fun e s' => R (.error e) s') { s with heap := h' } := by
  rintro D h' rfl rfl F' N''
  refine hide fun Dq kq => ?_; obtain ⟨FG, BG, st, _⟩ := groundX (s := { s with heap := s.heap.push (tupOf vs) }) (A := Ar dp un (env :: outer)) (R := fun _ _ => True) B F' N'' rfl hf hke; refine kq ?_; clear kq Dq
  refine wpAny_newFunctionEnv hcell (hloc _) (fun h₁ hns hsb => ⟨(T.nolimit.keeps F'.keep).fresh _ hsb, codeAny_func ?_⟩) hk
  have hk₁ : ∀ b o, (s.heap.push (tupOf vs)).get? b = some o → h₁.get? b = some o := fun b o e => hsb.extBut b o (Nat.ne_of_lt (Heap.lt_size e)) (Heap.get?_push_of_some _ e)
  refine wpAny_noRaise (h s.heap.objs.size _ (s.heap.push (tupOf vs)).objs.size h₁ base p loose mean mg mb BO ⟨hns, fun b o e => hk₁ b o (of_hideAll _ e), Nat.le_of_eq (hideAll_size _ _)⟩
   (fun p hp => ⟨hk₁ _ _ (N'' p hp).1, Nat.ne_of_lt (Heap.lt_size (N'' p hp).1), hideAll_none _ (List.mem_map_of_mem hp)⟩) BG (X.keeps st) (T.keeps st)
   ⟨fun b o e n => hideAll_get _ (Heap.get?_push_of_some _ e) (fun q => ?_), fun b o e => ?_⟩ (fun p hp => Heap.lt_size (N p hp)) ?_)
  ·rcases List.mem_cons.mp q with q | q
   ·exact absurd (Heap.lt_size e) (by rw [q]; exact Nat.lt_irrefl _)
   ·exact n q
  ·have e1 := of_hideAll _ e
   have hb : b ≠ s.heap.objs.size := by
    intro q; subst q
    have := hideAll_none (h := s.heap.push (tupOf vs)) (((s.heap.objs.size, tupOf vs) :: news).map (·.1)) (List.Mem.head _)
    rw [e] at this; cases this
   have : (s.heap.push (tupOf vs)).get? b = s.heap.get? b := by
    have hlt : b < s.heap.objs.size := by
     have := Heap.lt_size e1
     rw [Heap.size_push] at this
     exact Nat.lt_of_le_of_ne (Nat.le_of_lt_succ this) hb
    unfold Heap.get? Heap.push
    simp [Array.getElem?_push, Nat.ne_of_lt hlt]
   rw [← this]; exact e1
  ·rw [Heap.size_push]; exact Nat.lt_succ_self _
 have l : ∀ p ∈ news, p.1 < s.heap.objs.size := fun p hp => Heap.lt_size (N p hp)
 exact peek_alloc (X.keeps F.keep) _ g₁ hp hg (key _ _ rfl rfl (F.push _) (News.push F N' _ rfl))
section
local macro_rules | `(tactic| walk_at "call ref") => `(tactic| (with_reducible refine hold_call 108 ?_))
theorem add0_spec {w : World} {dp un : Nat} {fr : List Env} {s : Shared} {R : Result → Shared → Prop} {x dx d : Addr} {od : Obj} {h1 h2 h3 h4 : Int} {t1 t2 t3 t4 tp tf : Tok} {np nf : Int} {en : Nat} {k : Str} {tq : Tok} {kvs : List (Str × Value)}
 (C : Cx w fr s.heap [d]) (hd : dp + 30 < recursionLimit) (hu : un + 400 < cLine)
 (hx : s.heap.get? x = some (instObj 165 dx)) (hdx : s.heap.get? dx = some (dictOf (sdict h1 h2 h3 h4 t1 t2 t3 t4 d .none np nf tp tf) en)) (nx : x ≠ d) (ndx : dx ≠ d)
 (hod : s.heap.get? d = some od) (hD : od.IsDictOf (PySem.strKind Pg w) kvs) (hd1 : (d == sysModules) = false) (hk : valueAt kvs k = none) (hz : kvs.length < 1000)
 (hret : ∀ (h' : Heap) (tk' : Nat) (a da sa : Addr) (ct : Tok) (od' : Obj), Keep s.heap h' [d] → (∀ b ∈ [a, da, sa], s.heap.get? b = none) → [a, da, sa].Nodup → h'.get? d = some od' → od'.IsDictOf (PySem.strKind Pg w) (stored kvs k (.ref a)) → h'.get? a = some (nodeObj (.str k tq) 0 ct sa da) → h'.get? da = some (dictOf [] 0) → h'.get? sa = some (listOf #[] 0) → R (.ok (.ret .none)) { s with heap := h', toks := tk' }) :
 codeAny (model Pg w) (Ar dp un fr) (.call (.ref 115) ⟨[.ref x, .str k tq], []⟩) R s := by
 revert w dp un fr s R x dx d od h1 h2 h3 h4 t1 t2 t3 t4 tp tf np nf en k tq kvs
 refine @(pk26 ((((w00, δ), (δ, (s00, δ))), δ), δ) ?_)
 generalize z26 _ _ = Z; generalize Z.1.1.1.1 = w, Z.1.1.1.2.1 = dp, Z.1.1.1.2.2 = un, Z.1.1.2.1 = fr, Z.1.1.2.2.1 = s, Z.1.1.2.2.2 = R, Z.1.2.1.1 = x, Z.1.2.1.2.1 = dx, Z.1.2.1.2.2 = d, Z.1.2.2.1.1 = od, Z.1.2.2.1.2 = h1, Z.1.2.2.2.1 = h2, Z.1.2.2.2.2 = h3, Z.2.1.1.1 = h4, Z.2.1.1.2.1 = t1, Z.2.1.1.2.2 = t2, Z.2.1.2.1 = t3, Z.2.1.2.2.1 = t4, Z.2.1.2.2.2 = tp, Z.2.2.1.1 = tf, Z.2.2.1.2.1 = np, Z.2.2.1.2.2 = nf, Z.2.2.2.1.1 = en, Z.2.2.2.1.2 = k, Z.2.2.2.2.1 = tq, Z.2.2.2.2.2 = kvs
 intro C hd hu hx hdx nx ndx hod hD hd1 hk hz hret
 have hN : ∀ p ∈ [(d, od)], s.heap.get? p.1 = some p.2 := fun p hp => by rw [List.mem_singleton.mp hp]; exact hod
 k_dflt (refine' enterVR (news := [(d, od)]) (vs := []) (binds := fun D => [(Str.ofString "self", .ref x), (Str.ofString "node", .str k tq), (Str.ofString "predecessors", .ref D)]) ?C ?N ?k6 ?k7 ?k8 ?kP ?kG ?kB ?_ ?c2 ?c3 ?c4 ?c5; walk_at "m_inV")
 refine @(pk10 δ ?_); generalize z10 _ _ = Z; generalize Z.1.1.1 = D, Z.1.1.2 = g, Z.1.2.1 = L', Z.1.2.2.1 = h₁, Z.1.2.2.2 = base, Z.2.1.1 = p, Z.2.1.2 = loose, Z.2.2.1 = mean, Z.2.2.2.1 = mg, Z.2.2.2.2 = mb; intro BO F N B X T S hlt hL
 have gx := S.out _ _ hx (by simpa using nx)
 have gdx := S.out _ _ hdx (by simpa using ndx)
 k_steps
 refine Hold.mk ?_
 have qD : d ≠ D := Nat.ne_of_lt (hlt _ (.head _))
 refine getnew_spec (od := od) (kvs := kvs) (cx_of B F BO N (by simp)) (by ktr_room) (by ktr_units) (F.keep _ _ gx) (F.keep _ _ gdx) nx ndx (N _ (.tail _ (.head _))).1 hD hd1 hk hz ?_
 intro h₂ tk₂ a da sa ct od' kp fresh nod g1 g2 g3 g4 g5
 obtain ⟨F₂, N₂⟩ := after_K (news' := [(a, nodeObj (.str k tq) 0 ct sa da), (da, dictOf [] 0), (sa, listOf #[] 0), (D, tupOf []), (d, od')]) F N kp (by simp) (by
  simp only [List.mem_cons, List.not_mem_nil, or_false]
  rintro p (rfl | rfl | rfl | rfl | rfl)
  ·exact .inr ⟨g3, .inr (fresh _ (by k_mem))⟩
  ·exact .inr ⟨g4, .inr (fresh _ (by k_mem))⟩
  ·exact .inr ⟨g5, .inr (fresh _ (by k_mem))⟩
  ·exact .inl ⟨.inl rfl, Ne.symm qD⟩
  ·exact .inr ⟨g1, .inl rfl⟩)
 have new : ∀ {h : Heap} {news : List (Addr × Obj)} {q : Addr × Obj}, News g L' h news → q ∈ news → q.1 ≠ d → s.heap.get? q.1 = none := fun NN hq hn => by
  cases e : s.heap.get? _ with
  | none => rfl
  | some o => have := S.out _ _ e (by simpa using hn); rw [(NN _ hq).2.2] at this; cases this
 have nd : ∀ b ∈ [a, da, sa], b ≠ d := fun b hb e => by
  have := fresh b hb; rw [e, (N _ (.tail _ (.head _))).1] at this; cases this
 have nD : ∀ b ∈ [a, da, sa], b ≠ D := fun b hb e => by
  have := fresh b hb; rw [e, (N _ (.head _)).1] at this; cases this
 have n1 := nd a (by k_mem); have n2 := nd da (by k_mem); have n3 := nd sa (by k_mem)
 have m1 := nD a (by k_mem); have m2 := nD da (by k_mem); have m3 := nD sa (by k_mem)
 have nod' := nod
 simp only [List.nodup_cons, List.mem_cons, List.not_mem_nil, or_false, not_or, not_false_eq_true, and_true, List.nodup_nil] at nod'
 refine hide fun Dq kq => ?_; obtain ⟨⟨r1, r2⟩, r3⟩ := nod'; refine kq ?_; clear kq Dq
 have fresh' : ∀ b ∈ [a, da, sa], s.heap.get? b = none := by
  simp only [List.mem_cons, List.not_mem_nil, or_false]
  rintro b (rfl | rfl | rfl)
  ·exact new N₂ (.head _) n1
  ·exact new N₂ (.tail _ (.head _)) n2
  ·exact new N₂ (.tail _ (.tail _ (.head _))) n3
 clear N F
 k_steps
 show R _ _
 rename (News g L' _ _) => NX
 refine hret _ _ a da sa _ od' (S.keep (by assumption)) fresh' nod (News.get NX (by k_dflt k_mem)) g2 (News.get NX (by k_dflt k_mem)) (News.get NX (by k_dflt k_mem)) (News.get NX (by k_dflt k_mem))
end

end
section
abbrev nobjs (n : Nd) : List (Addr × Obj) := [(n.a, nodeObj n.v n.c n.ct n.sa n.da), (n.da, dictOf [] 0), (n.sa, listOf n.sv.toArray n.sn)]
abbrev allObjs (ns : List Nd) : List (Addr × Obj) := ns.flatMap nobjs
abbrev imap (x gd : Addr) (u v : Option Value) : Str → Option Value := fun y =>
 if y = Str.ofString "predecessors" then v else if y = Str.ofString "node" then u else List.lookup y [(Str.ofString "graph", Value.ref gd), (Str.ofString "self", Value.ref x)]
theorem imap0 {x gd : Addr} : (fun y => List.lookup y [(Str.ofString "graph", Value.ref gd), (Str.ofString "self", Value.ref x)]) = imap x gd none none := by
 funext y
 by_cases h : y = Str.ofString "predecessors"
 ·subst h; rfl
 ·by_cases h' : y = Str.ofString "node"
  ·subst h'; rfl
  ·simp only [imap, if_neg h, if_neg h']
theorem imap_set {x gd : Addr} {u v : Option Value} {a b : Value} : (fun y => if y = Str.ofString "predecessors" then some b else if y = Str.ofString "node" then some a else imap x gd u v y) = imap x gd (some a) (some b) := by
 funext y
 by_cases h : y = Str.ofString "predecessors"
 ·simp only [imap, if_pos h]
 ·by_cases h' : y = Str.ofString "node"
  ·simp only [imap, if_neg h, if_pos h']
  ·simp only [imap, if_neg h, if_neg h']
theorem Cx.inK {w : World} {fr : List Env} {h : Heap} {mu : List Addr} (C : Cx w fr h mu) : (Mine.hd.heap_39 w.params).In h := by
 refine hide fun Dq kq => ?_; obtain ⟨A₀, base, h₀, outer, L, m, env, rfl, B, F, BO, hf, hke, hm⟩ := C; refine kq ?_; clear kq Dq
 exact (BO.X.keeps B.stays).keeps F.keep
theorem enterR {w : World} {dp un : Nat} {fr : List Env} {s : Shared} {news : List (Addr × Obj)} {R : Result → Shared → Prop}
  {name qual : Str} {params : Arguments} {body : List Stmt} {scope : Scope} {dV kV doc pm cdv ct oc : Value} {an od : Option Addr} {osl : Array (Option Value)} {f : Addr} {pos : List Value} {binds : List (Str × Value)}
  (C : Cx w fr s.heap (news.map (·.1))) (N : ∀ p ∈ news, s.heap.get? p.1 = some p.2)
  (ho : (Mine.hd.heap_39 w.params).lookup f = some ⟨oc, od, .func (fnOf name qual params body scope dV kV doc pm an cdv ct), osl⟩) (hcd : codeIn (Mine.hd.heap_39 w.params) cdv qual = true) (hroom : dp < recursionLimit)
  (hbind : BindsTo s (fnOf name qual params body scope dV kV doc pm an cdv ct) ⟨pos, []⟩ binds) (hloc : ∀ y ∈ binds, scope.names.lookup y.1 = some .local)
  (h : ∀ g L' h₁ base p loose mean mg mb, BOk w base → Fr g L' h₁ (fun y => binds.reverse.lookup y) → News g L' h₁ news → Below (Ar dp un fr) base fr g → (Mine.hd.heap_39 w.params).In g → Top p loose mean mg mb g → Sub s.heap g (news.map (·.1)) → (∀ p ∈ news, p.1 < L') → L' = s.heap.objs.size →
   wpAny (model Pg w) ((Ar dp un fr).deeper (envOf qual scope L' f cdv)) (execs body (envOf qual scope L' f cdv))
    (fun fl s' => EndK (fun v s' => R (.ok (.ret v)) s') (match fl with | .ret v => v | _ => .none) s')
    (fun _ _ => False)
    { s with heap := h₁, toks := s.toks + binds.length })
  (hco : scope.isCoroutine = false := by rfl) (hgen : scope.isGenerator = false := by rfl) (hk : scope.kind = .function := by rfl)
  (hcell : ∀ x ∈ scope.names, x.2 ≠ .cell := by decide) : codeAny (model Pg w) (Ar dp un fr) (.call (.ref f) ⟨pos, []⟩) R s := by
 refine hide fun Dq kq => ?_; obtain ⟨A₀, base, h₀, outer, L, m, env, rfl, B, F, BO, hf, hke, hm⟩ := C; refine kq ?_; clear kq Dq
 have X := BO.X.keeps B.stays
 refine hide fun Dq kq => ?_; obtain ⟨p, loose, mean, mg, mb, TB⟩ := BO.T; refine kq ?_; clear kq Dq
 have T := TB.keeps B.stays
 have N' : News h₀ L s.heap news := fun p hp => ⟨N p hp, (hm _ (List.mem_map_of_mem hp)).2, (hm _ (List.mem_map_of_mem hp)).1⟩
 refine hide fun Dq kq => ?_; obtain ⟨FG, BG, st, _⟩ := groundX (A := Ar dp un (env :: outer)) (R := fun _ _ => True) B F N' rfl hf hke; refine kq ?_; clear kq Dq
 refine codeAny_call_def (fd := fnOf name qual params body scope dV kV doc pm an cdv ct) (body := body) (binds := binds) hroom ((X.keeps F.keep) _ _ ho) rfl (T.nolimit.keeps F.keep) (codeRec_of (X.keeps F.keep) hcd) rfl hbind hcell hloc (fun h₁ hns hk₁ => ?_) hco hgen hk
 refine wpAny_noRaise (h _ s.heap.objs.size h₁ base p loose mean mg mb BO ⟨hns, fun b o e => hk₁ b o (of_hideAll _ e), Nat.le_of_eq (hideAll_size _ _)⟩
  (fun p hp => ⟨hk₁ _ _ (N p hp), Nat.ne_of_lt (Heap.lt_size (N p hp)), hideAll_none _ (List.mem_map_of_mem hp)⟩) BG (X.keeps st) (T.keeps st)
  ⟨fun b o e n => hideAll_get _ e n, fun b o e => of_hideAll _ e⟩ (fun p hp => Heap.lt_size (N p hp)) rfl)
section
variable {prog : Program} {w : World} {A : Around} {E : Value → Shared → Prop} {s : Shared} {g : Heap} {L d : Addr} {m : Str → Option Value} {kvs : List (Str × Value)} {news : List (Addr × Obj)}
theorem bd_methodI {pl : Sem Bool} {Q : Value × List Value → Shared → Prop} (F : Fr g L s.heap m) (hD : g.DictOf (PySem.strKind prog w) d kvs) (h : Q (.builtin "dict.items", [.ref d]) s) : wpAny (model prog w) A (getMethod (.ref d) "items" pl) Q E s :=
 have hD := bd_dict F hD
 getMethod_builtin hD.typeIs PySem.F.plainAttrs_dict PySem.F.slot_dict_items PySem.F.type_dict_items hD.mapOf.noDict h
theorem bd_items {Q : Value → Shared → Prop} (F : Fr g L s.heap m) (N : News g L s.heap news) (hD : g.DictOf (PySem.strKind prog w) d kvs) (lo : (d == sysModules) = false)
  (h : ∀ v h', Fr g L h' m → News g L h' ((v, { cls := .type "dict_items", data := .fields #[.ref d] }) :: news) → (∀ p ∈ news, p.1 < v) → Q (.ref v) { s with heap := h' }) : wpAny (model prog w) A (call (.builtin "dict.items") [.ref d]) Q E s :=
 have hD := bd_dict F hD
 call_meetsIn PySem.F.slot_dict_items hD.typeIs PySem.F.entry_dict_items (PySem.F.args_dict_items_1 _) (meets_dict_items (PySem.strKind prog w) d lo) ⟨⟨_, hD⟩, h _ _ (F.push _) (News.push F N _ rfl) (fun q hq => Heap.lt_size (N q hq).1)⟩
end
section
local macro_rules | `(tactic| k_inst) => `(tactic| (refine' inst_mix2 ?F ?N ?h1 ?h2; (case F => k_asm); (case N => k_asm); (case h1 => assumption); (case h2 => k_mem)))
local macro_rules | `(tactic| walk_at "getMethod ref") => `(tactic| (k_here; (with_reducible show wpAny _ _ (getMethod (Value.ref _) (Str.ofString "items") _) _ _ _); k_dflt (refine bd_methodI (by k_asm) (by assumption) ?_)))
local macro_rules | `(tactic| walk_at "call builtin:dict.items") => `(tactic| (k_here; k_dflt (refine' bd_items ?F ?N ?d ?l ?_; (case F => k_asm); (case N => k_asm); (case d => assumption); (case l => assumption)); intro D' h' F' N' l1; (have l2 := l1); (try k_lt l1)))
local macro_rules | `(tactic| walk_at "eval Call Attribute") => `(tactic| (k_here; (with_reducible show wpAny _ _ (eval (Expr.Call (Expr.Attribute _ _ _) [_, Expr.Starred _ _] [] _) _) _ _ _); refine StarCall ?_))
local macro_rules | `(tactic| walk_at "StarOf ref") => `(tactic| (k_here; k_dflt (refine' star_base ?k1 ?k2 ?m ?z ?_; (case k1 => k_asm); (case k2 => k_asm); (case m => assumption); (case z => exact Nat.le_of_ble_eq_true rfl); k_whole); intro h' F' N'; (try k_sweep); try dsimp only [List.nil_append, List.cons_append]))
local macro_rules | `(tactic| walk_at "exec For") => `(tactic| (refine Hold.out ?_))
local macro_rules | `(tactic| walk_at "call ref") => `(tactic| (with_reducible refine hold_call 115 ?_))
local macro_rules | `(tactic| walk_at "pyIter ref") => `(tactic| (refine Hold.out ?_))
theorem objs_cat (ns : List Nd) (n : Nd) : allObjs (ns ++ [n]) = allObjs ns ++ nobjs n := by simp [allObjs]
theorem stored_cat {ns : List Nd} {n : Nd} (h : n.k ∉ ns.map (·.k)) : stored (kvsOf ns) n.k (.ref n.a) = kvsOf (ns ++ [n]) := by
 unfold stored
 rw [if_neg]
 ·simp
 ·intro h'
  refine hide fun Dq kq => ?_; obtain ⟨q, hq, e⟩ := List.any_eq_true.mp h'; refine kq ?_; clear kq Dq
  refine hide fun Dq kq => ?_; obtain ⟨f', hf, rfl⟩ := List.mem_map.mp hq; refine kq ?_; clear kq Dq
  have e' : f'.k = n.k := of_decide_eq_true e
  exact h (e' ▸ List.mem_map_of_mem hf)
theorem valueAt_no {ns : List Nd} {k : Str} (h : k ∉ ns.map (·.k)) : valueAt (kvsOf ns) k = none := by
 unfold valueAt
 rw [Option.map_eq_none_iff, List.find?_eq_none]
 intro q hq e
 refine hide fun Dq kq => ?_; obtain ⟨f', hf, rfl⟩ := List.mem_map.mp hq; refine kq ?_; clear kq Dq
 have e' : f'.k = k := of_decide_eq_true e
 exact h (e' ▸ List.mem_map_of_mem hf)
theorem init_spec {w : World} {dp un : Nat} {fr : List Env} {s : Shared} {R : Result → Shared → Prop} {x dx gd : Addr} {ogd : Obj} {P : Value → Prop} {gkv : List (Str × Value)}
 (C : Cx w fr s.heap [dx]) (hd : dp + 40 < recursionLimit) (hu : un + 500 < cLine)
 (hx : s.heap.get? x = some (instObj 165 dx)) (hdx : s.heap.get? dx = some (dictOf [] 0)) (nx : x ≠ dx) (ngd : gd ≠ dx)
 (hgo : s.heap.get? gd = some ogd) (hG : ogd.IsDictOf (PySem.strKind Pg w) gkv) (hGP : KeyP P ogd) (hg1 : (gd == sysModules) = false) (hgl : ∀ e ∈ gkv, E2 fun p n => A3 (e.2 = .ref p) (p ≠ dx) (s.heap.get? p = some (listOf #[] n))) (hgz : gkv.length < 100) (hgn : (gkv.map (·.1)).Nodup)
 (hret : ∀ (h' : Heap) (tk' : Nat) (d : Addr) (od : Obj) (ns : List Nd) (h1 h2 h3 h4 : Int) (t1 t2 t3 t4 tp tf : Tok) (en : Nat), Keep s.heap h' [dx] → h'.get? dx = some (dictOf (sdict h1 h2 h3 h4 t1 t2 t3 t4 d .none 0 0 tp tf) en) →
  (∀ p ∈ (d, od) :: allObjs ns, s.heap.get? p.1 = none ∧ h'.get? p.1 = some p.2) → (d :: (allObjs ns).map (·.1)).Nodup → od.IsDictOf (PySem.strKind Pg w) (kvsOf ns) → (d == sysModules) = false → ns.map (·.k) = gkv.map (·.1) →
  (∀ n ∈ ns, n.c = 0 ∧ n.sv = [] ∧ n.ss = [] ∧ P n.v ∧ ∃ t, n.v = .str n.k t) → R (.ok (.ret .none)) { s with heap := h', toks := tk' }) :
 codeAny (model Pg w) (Ar dp un fr) (.call (.ref 101) ⟨[.ref x, .ref gd], []⟩) R s := by
 revert w dp un fr s R x dx gd ogd P gkv
 refine @(pk12 (((w00, δ), (δ, (s00, δ))), δ) ?_)
 generalize z12 _ _ = Z; generalize Z.1.1.1 = w, Z.1.1.2.1 = dp, Z.1.1.2.2 = un, Z.1.2.1 = fr, Z.1.2.2.1 = s, Z.1.2.2.2 = R, Z.2.1.1 = x, Z.2.1.2.1 = dx, Z.2.1.2.2 = gd, Z.2.2.1 = ogd, Z.2.2.2.1 = P, Z.2.2.2.2 = gkv
 intro C hd hu hx hdx nx ngd hgo hG hGP hg1 hgl hgz hgn hret
 have XC := C.inK
 have hN : ∀ p ∈ [(dx, dictOf [] 0)], s.heap.get? p.1 = some p.2 := fun p hp => by rw [List.mem_singleton.mp hp]; exact hdx
 k_dflt (refine' enterR (news := [(dx, dictOf [] 0)]) (binds := [(Str.ofString "self", .ref x), (Str.ofString "graph", .ref gd)]) ?C ?N ?k6 ?k7 ?k8 ?k9 ?kB ?_ ?c2 ?c3 ?c4 ?c5; (case N => first | assumption | exact no_news); (case C => assumption); (case k6 => k_is); (case k7 => k_is); (case k8 => ktr_room); (case k9 => (refine' binds_K XC ?d ?o ?s ?h1 ?h2; (case d => exact rfl); (case o => k_is); (case s => exact rfl); (case h1 => exact rfl); (case h2 => exact rfl))); (case kB => exact locs rfl); (case c2 => exact rfl); (case c3 => exact rfl); (case c4 => exact rfl); (case c5 => decide); dsimp only [List.reverse, List.reverseAux, List.reverse_cons, List.nil_append, List.cons_append, List.length])
 refine @(pk9 δ ?_); generalize z9 _ _ = Z; generalize Z.1.1.1 = g, Z.1.1.2 = L', Z.1.2.1 = h₁, Z.1.2.2 = base, Z.2.1.1 = p, Z.2.1.2 = loose, Z.2.2.1 = mean, Z.2.2.2.1 = mg, Z.2.2.2.2 = mb; intro BO F N B X T S hlt hL
 have gx := S.out _ _ hx (by simpa using nx)
 have hgog := S.out _ _ hgo (by simpa using ngd)
 have hGg : g.DictOf (PySem.strKind Pg w) gd gkv := Heap.dictOf_iff.mpr ⟨ogd, hgog, hG⟩
 k_steps
 rename_i d0 hA o0 lo0 hd0 fs0 hi0 fi0 lt0 hB hC hE hF F₀ N₀
 refine Hold.mk ?_
 refine For_K ?_ (hE := ?hE)
 k_steps
 ·rename_i V hV FV NV l2 l1
  refine Hold.mk ?_
  obtain ⟨h1, h2, h3, h4, t1, t2, t3, t4, tp, tf, en, NV⟩ : E11 fun h1 h2 h3 h4 t1 t2 t3 t4 tp tf en => News g L' hV [(V, ({ cls := .type "dict_items", data := .fields #[.ref gd] } : Obj)), (d0, o0), (dx, dictOf (sdict h1 h2 h3 h4 t1 t2 t3 t4 d0 .none 0 0 tp tf) en)] := ⟨_, _, _, _, _, _, _, _, _, _, _, NV⟩
  clear l2
  have w1 : V ≠ d0 := Nat.ne_of_gt l1.1
  have w2 : V ≠ dx := Nat.ne_of_gt l1.2
  have w3 : d0 ≠ dx := Nat.ne_of_gt lt0
  refine for_itemsP (g := g) (P := P) (fun i m news => E4 fun (u v : Option Value) (ns : List Nd) (od : Obj) => A6 (m = imap x gd u v) (news = (V, ({ cls := .type "dict_items", data := .fields #[.ref gd] } : Obj)) :: (d0, od) :: (dx, dictOf (sdict h1 h2 h3 h4 t1 t2 t3 t4 d0 .none 0 0 tp tf) en) :: allObjs ns) (od.IsDictOf (PySem.strKind Pg w) (kvsOf ns)) (ns.map (·.k) = (gkv.take i).map (·.1)) ((∀ n ∈ ns, n.c = 0 ∧ n.sv = [] ∧ n.ss = [] ∧ P n.v ∧ ∃ t, n.v = .str n.k t)) (([V, d0, dx] ++ (allObjs ns).map (·.1)).Nodup)) rfl hgog hG hGP FV NV (.head _) ⟨none, none, [], o0, imap0, rfl, hd0, rfl, (fun _ z => nomatch z), ?_⟩ rfl rfl rfl ?_ ?_
  ·simp only [allObjs, List.flatMap_nil, List.map_nil, List.append_nil, List.nodup_cons, List.mem_cons, List.not_mem_nil, or_false, not_or, not_false_eq_true, and_true, List.nodup_nil]
   exact ⟨⟨w1, w2⟩, w3⟩
  ·rintro i k t v m news h tk I oI hki hPk ⟨u, v', ns, od, rfl, rfl, hod, hks, hns, hnd⟩ F₁ N₁ hap
   refine hide fun Dq kq => ?_; obtain ⟨pr, pn, hpv, hpd, hpg⟩ := hgl _ (List.mem_of_getElem? hki); refine kq ?_; clear kq Dq
   dsimp only at hpv
   subst hpv
   have gp := S.out _ _ hpg (by simpa using hpd)
   rw [imap_set] at F₁
   clear FV NV N₀ F₀
   have q1 := hap _ (.head _); have q2 := hap _ (.tail _ (.head _)); have q3 := hap _ (.tail _ (.tail _ (.head _)))
   k_steps
   k_dflt (refine' callWith_MS (K := Mine.hd.heap_39 w.params) ?k1 ?k2 ?k3 ?_; (case k1 => k_asm); (case k2 => k_mem); (case k3 => k_is))
   k_steps
   rename (Fr g _ _ _) => F₂
   rename (News g _ _ _) => N₂
   rename (_ < _ ∧ _ < _ ∧ _ < _ ∧ _ < _ ∧ AllLt _ _) => lq
   rename Addr => q
   have hlt' : i < gkv.length := by
    rcases Nat.lt_or_ge i gkv.length with z | z
    ·exact z
    ·rw [List.getElem?_eq_none z] at hki; cases hki
   have hki' : gkv[i] = (k, .ref pr) := by rw [List.getElem?_eq_getElem hlt'] at hki; exact Option.some.inj hki
   have hkn : k ∉ ns.map (·.k) := by
    rw [hks]
    intro hm
    have hsp : gkv.map (·.1) = (gkv.take i).map (·.1) ++ (gkv.drop i).map (·.1) := by rw [← List.map_append, List.take_append_drop]
    rw [hsp, List.nodup_append] at hgn
    refine hgn.2.2 k hm k ?_ rfl
    rw [List.drop_eq_getElem_cons hlt', hki']
    exact List.Mem.head _
   have hlen : ns.length ≤ i := by
    have := congrArg List.length hks
    simp at this; omega
   have nd0 : x ≠ d0 := fun e => by
    have := (N₂ _ (.tail _ (.tail _ (.tail _ (.head _))))).2.2
    dsimp only at this
    rw [← e, gx] at this; cases this
   refine call_meth N₂ (.head _) ?_
   refine add0_spec (od := od) (kvs := kvsOf ns) (cx_of B F₂ BO N₂ (by simp)) (by ktr_room) (by ktr_units) (F₂.keep _ _ gx) (N₂ _ (.tail _ (.tail _ (.tail _ (.tail _ (.head _)))))).1 nd0 (Ne.symm w3) (N₂ _ (.tail _ (.tail _ (.tail _ (.head _))))).1 hod lo0 (valueAt_no hkn) (by simp; omega) ?_
   intro h₃ tk₃ a da sa ct od' kp fresh nod g1 g2 g3 g4 g5
   have hno : d0 ∉ (allObjs ns).map (·.1) := by
    have := hnd
    simp only [List.cons_append, List.nil_append, List.nodup_cons, List.mem_cons, not_or] at this
    exact this.2.1.2
   obtain ⟨F₃, N₃⟩ := after_K (news' := (I, oI) :: (V, ({ cls := .type "dict_items", data := .fields #[.ref gd] } : Obj)) :: (d0, od') :: (dx, dictOf (sdict h1 h2 h3 h4 t1 t2 t3 t4 d0 .none 0 0 tp tf) en) :: allObjs (ns ++ [⟨k, a, .str k t, 0, ct, sa, da, [], [], 0⟩])) F₂ N₂ kp (by simp) (by
    rw [objs_cat]
    simp only [List.mem_cons, List.mem_append, List.not_mem_nil, or_false]
    rintro p (rfl | rfl | rfl | rfl | hp | rfl | rfl | rfl)
    ·exact .inl ⟨.inr (.inl rfl), Ne.symm q2⟩
    ·exact .inl ⟨.inr (.inr (.inl rfl)), w1⟩
    ·exact .inr ⟨g1, .inl rfl⟩
    ·exact .inl ⟨.inr (.inr (.inr (.inr (.inl rfl)))), Ne.symm w3⟩
    ·exact .inl ⟨.inr (.inr (.inr (.inr (.inr hp)))), fun e => hno (e ▸ List.mem_map_of_mem hp)⟩
    ·exact .inr ⟨g3, .inr (fresh _ (by k_mem))⟩
    ·exact .inr ⟨g4, .inr (fresh _ (by k_mem))⟩
    ·exact .inr ⟨g5, .inr (fresh _ (by k_mem))⟩)
   have nf : ∀ b ∈ [a, da, sa], b ≠ I ∧ b ≠ V ∧ b ≠ d0 ∧ b ≠ dx ∧ b ∉ (allObjs ns).map (·.1) := fun b hb => by
    have fb := fresh b hb
    have key : ∀ p ∈ (q, methodObj (.ref 115) (.ref x)) :: (I, oI) :: (V, ({ cls := .type "dict_items", data := .fields #[.ref gd] } : Obj)) :: (d0, od) :: (dx, dictOf (sdict h1 h2 h3 h4 t1 t2 t3 t4 d0 .none 0 0 tp tf) en) :: allObjs ns, b ≠ p.1 := fun p hp e => by have := (N₂ p hp).1; rw [← e, fb] at this; cases this
    refine ⟨key _ (.tail _ (.head _)), key _ (.tail _ (.tail _ (.head _))), key _ (.tail _ (.tail _ (.tail _ (.head _)))), key _ (.tail _ (.tail _ (.tail _ (.tail _ (.head _))))), fun hm => ?_⟩
    refine hide fun Dq kq => ?_; obtain ⟨p, hp, e⟩ := List.mem_map.mp hm; refine kq ?_; clear kq Dq
    exact key p (.tail _ (.tail _ (.tail _ (.tail _ (.tail _ hp))))) e.symm
   clear F₂ N₂
   dsimp only
   k_steps
   refine ⟨_, _, _, _, rfl, F₃, N₃, ?_, _, _, ns ++ [⟨k, a, .str k t, 0, ct, sa, da, [], [], 0⟩], od', rfl, rfl, ?_, ?_, ?_, ?_⟩
   ·intro p hp z hz
    rw [List.mem_singleton.mp hz]
    rw [objs_cat] at hp
    simp only [List.mem_cons, List.mem_append, List.not_mem_nil, or_false] at hp
    rcases hp with rfl | rfl | rfl | hp | rfl | rfl | rfl
    ·exact q1
    ·exact q2
    ·exact q3
    ·exact hap p (.tail _ (.tail _ (.tail _ hp)))
    ·exact (nf a (by k_mem)).1
    ·exact (nf da (by k_mem)).1
    ·exact (nf sa (by k_mem)).1
   ·rw [← stored_cat (n := ⟨k, a, .str k t, 0, ct, sa, da, [], [], 0⟩) hkn]; exact g2
   ·rw [List.map_append, hks, ← List.take_append_getElem hlt', List.map_append, hki']; rfl
   ·intro n hn
    rcases List.mem_append.mp hn with hn | hn
    ·exact hns n hn
    ·rw [List.mem_singleton.mp hn]; exact ⟨rfl, rfl, rfl, hPk, t, rfl⟩
   ·show ([V, d0, dx] ++ _).Nodup
    rw [objs_cat, List.map_append, ← List.append_assoc, List.nodup_append]
    refine ⟨hnd, nod, ?_⟩
    intro b hb c hc e
    subst e
    have z := nf b hc
    simp only [List.cons_append, List.nil_append, List.mem_cons] at hb
    rcases hb with e | e | e | hb
    ·exact z.2.1 e
    ·exact z.2.2.1 e
    ·exact z.2.2.2.1 e
    ·exact z.2.2.2.2 hb
  ·rintro m news h tk ⟨u, v', ns, od, rfl, rfl, hod, hks, hns, hnd⟩ F₁ N₁
   clear FV NV N₀ F₀
   rw [List.take_length] at hks
   k_steps
   show R _ _
   have hnd' := hnd
   simp only [List.cons_append, List.nil_append, List.nodup_cons, List.mem_cons, not_or] at hnd'
   refine hide fun Dq kq => ?_; obtain ⟨⟨_, _, _⟩, ⟨_, n1⟩, n2, n3⟩ := hnd'; refine kq ?_; clear kq Dq
   refine hret _ _ d0 od ns h1 h2 h3 h4 t1 t2 t3 t4 tp tf en (S.keep F₁) (N₁ _ (.tail _ (.tail _ (.head _)))).1 ?_ (List.nodup_cons.mpr ⟨n1, n3⟩) hod lo0 hks hns
   intro p hp
   have hp' : p ∈ (V, ({ cls := .type "dict_items", data := .fields #[.ref gd] } : Obj)) :: (d0, od) :: (dx, dictOf (sdict h1 h2 h3 h4 t1 t2 t3 t4 d0 .none 0 0 tp tf) en) :: allObjs ns := by
    rcases List.mem_cons.mp hp with rfl | hp
    ·exact .tail _ (.head _)
    ·exact .tail _ (.tail _ (.tail _ hp))
   refine ⟨?_, (N₁ p hp').1⟩
   cases e : s.heap.get? p.1 with
   | none => rfl
   | some o =>
    have := S.out _ _ e (by
     simp only [List.map_cons, List.map_nil, List.mem_singleton]
     rcases List.mem_cons.mp hp with rfl | hp
     ·exact w3
     ·exact fun e => n2 (e ▸ List.mem_map_of_mem hp))
    rw [(N₁ p hp').2.2] at this; cases this
end

end
end
section
local macro_rules | `(tactic| k_inst) => `(tactic| (refine' inst_mix2 ?F ?N ?h1 ?h2; (case F => k_asm); (case N => k_asm); (case h1 => assumption); (case h2 => k_mem)))
local macro_rules | `(tactic| walk_at "getMethod ref") => `(tactic| (k_here; (with_reducible show wpAny _ _ (getMethod (Value.ref _) (Str.ofString "values") _) _ _ _); k_dflt (refine bd_methodV (by k_asm) (by assumption) ?_)))
local macro_rules | `(tactic| walk_at "call builtin:dict.values") => `(tactic| (k_here; k_dflt (refine' bd_values ?F ?N ?d ?l ?_; (case F => k_asm); (case N => k_asm); (case d => assumption); (case l => assumption)); intro D' h' F' N' l1; (have l2 := l1); (try k_lt l1)))
local macro_rules | `(tactic| walk_at "setAttr ref") => `(tactic| (k_here; k_dflt (first
 | ((with_reducible show wpAny _ _ (setAttr _ (Str.ofString "_ready_nodes") _) _ _ _); refine' set_rv ?k1 ?k2 ?k3 ?k4 ?k5 ?_; (case k1 => k_asm); (case k2 => k_asm); (case k3 => k_asm); (case k4 => k_inst); (case k5 => k_upd); k_whole; intro h' F' N'; (try k_sweep))
 | ((with_reducible show wpAny _ _ (setAttr _ (Str.ofString "_npassedout") _) _ _ _); refine' set_np ?k1 ?k2 ?k3 ?k4 ?k5 ?_; (case k1 => k_asm); (case k2 => k_asm); (case k3 => k_asm); (case k4 => k_inst); (case k5 => k_upd); k_whole; intro h' F' N'; (try k_sweep))
 | ((with_reducible show wpAny _ _ (setAttr _ (Str.ofString "_nfinished") _) _ _ _); refine' set_nf ?k1 ?k2 ?k3 ?k4 ?k5 ?_; (case k1 => k_asm); (case k2 => k_asm); (case k3 => k_asm); (case k4 => k_inst); (case k5 => k_upd); k_whole; intro h' F' N'; (try k_sweep)))))
section
local macro_rules | `(tactic| walk_at "call builtin:dict.get") => `(tactic| (k_here; k_dflt (refine ld_get0 (by k_asm) (by k_mem) (by assumption) (by assumption) (by assumption) ?_)))
local macro_rules | `(tactic| walk_at "setItem ref str ref") => `(tactic| (k_here; k_dflt (refine' setI_K ?F ?N ?U ?d ?z ?_; (case F => k_asm); (case N => k_asm); (case U => k_updF); (case d => assumption); (case z => assumption)); intro h' o' F' N' hd'; (try dsimp only at N'); (try k_sweep)))
section
local macro_rules | `(tactic| walk_at "execs cons") => `(tactic| (k_here; (with_reducible show wpAny _ _ _ _ _ (Shared.mk _ _ _ (HAdd.hAdd _ _) _)); k_dflt (refine gen_lo (TkLo.le (by assumption) (by omega)) ?_); intro tk hlo'))
local macro_rules | `(tactic| walk_at "execs nil") => `(tactic| (k_here; (with_reducible show wpAny _ _ _ _ _ (Shared.mk _ _ _ (HAdd.hAdd _ _) _)); k_dflt (refine gen_lo (TkLo.le (by assumption) (by omega)) ?_); intro tk hlo'))
local macro_rules | `(tactic| walk_at "execs cons") => `(tactic| (k_here; dsimp only))
local macro_rules | `(tactic| walk_at "execs nil") => `(tactic| (k_here; dsimp only))
section
abbrev ltr (c : Nat) : Str := ⟨#[c]⟩
abbrev two (p : Nat × Nat) : Str := ⟨#[p.1, p.2]⟩
abbrev works : List Nat := [97, 98, 99, 100, 101]
theorem ltr_inj {a b : Nat} (h : ltr a = ltr b) : a = b := by
 have := congrArg (fun s : Str => s.cps.toList) h
 simpa using this
theorem strs_cat {vs us : List Value} {xs ys : List Str} (h : StrsAre vs xs) (h' : StrsAre us ys) : StrsAre (vs ++ us) (xs ++ ys) := by
 induction h with
 | nil => exact h'
 | cons y t _ ih => exact .cons y t ih
structure NsFor (ps : List (Nat × Nat)) (ns : List Nd) : Prop where
 keys : ns.map (·.k) = works.map ltr
 vals : ∀ n ∈ ns, ∃ t, n.v = .str n.k t
 cnt : ∀ n ∈ ns, n.c = (ps.countP (fun p => ltr p.1 = n.k) : Nat)
 sare : ∀ n ∈ ns, StrsAre n.sv n.ss
 suc : ∀ n ∈ ns, n.ss = (ps.filter fun p => ltr p.2 = n.k).map fun p => ltr p.1
abbrev smap (nl x : Addr) (u : Option Value) : Str → Option Value := fun y =>
 if y = Str.ofString "need" then u else if y = Str.ofString "sorter" then some (Value.ref x) else List.lookup y [(Str.ofString "needs", Value.ref nl)]
theorem smap0 {nl x : Addr} : (fun y => if y = Str.ofString "sorter" then some (Value.ref x) else List.lookup y [(Str.ofString "needs", Value.ref nl)]) = smap nl x none := by
 funext y
 by_cases h : y = Str.ofString "need"
 ·subst h; rfl
 ·simp only [smap, if_neg h]
theorem smap_set {nl x : Addr} {u : Option Value} {v : Value} : (fun y => if y = Str.ofString "need" then some v else smap nl x u y) = smap nl x (some v) := by
 funext y
 by_cases h : y = Str.ofString "need"
 ·subst h; rfl
 ·simp only [smap, if_neg h]
def TkB (lo hi : Nat) (v : Value) : Prop := ∀ (x : Str) (t : Nat), v = .str x t → lo ≤ t ∧ t < hi
theorem TkB.mono {lo hi hi' : Nat} {v : Value} (h : TkB lo hi v) (e : hi ≤ hi') : TkB lo hi' v := fun x t q => ⟨(h x t q).1, Nat.lt_of_lt_of_le (h x t q).2 e⟩
theorem TkB.str {lo hi : Nat} {x : Str} {t : Nat} (h1 : lo ≤ t) (h2 : t < hi) : TkB lo hi (.str x t) := fun _ _ e => by injection e with _ e; subst e; exact ⟨h1, h2⟩
def NsTk (lo hi : Nat) (ns : List Nd) : Prop := ∀ n ∈ ns, TkB lo hi n.v ∧ ∀ v ∈ n.sv, TkB lo hi v
theorem NsTk.mono {lo hi hi' : Nat} {ns : List Nd} (h : NsTk lo hi ns) (e : hi ≤ hi') : NsTk lo hi' ns := fun n hn => ⟨(h n hn).1.mono e, fun v hv => ((h n hn).2 v hv).mono e⟩
def addN (p : Nat × Nat) (v : Value) (ct : Tok) (n' : Nat) (n : Nd) : Nd :=
 if n.k = ltr p.1 then { n with c := n.c + 1, ct := ct } else if n.k = ltr p.2 then { n with sv := n.sv ++ [v], ss := n.ss ++ [ltr p.1], sn := n' } else n
theorem addN_k (p : Nat × Nat) (v : Value) (ct : Tok) (n' : Nat) (n : Nd) : (addN p v ct n' n).k = n.k ∧ (addN p v ct n' n).v = n.v ∧ (addN p v ct n' n).a = n.a ∧ (addN p v ct n' n).da = n.da ∧ (addN p v ct n' n).sa = n.sa := by
 unfold addN; split
 ·exact ⟨rfl, rfl, rfl, rfl, rfl⟩
 ·split <;> exact ⟨rfl, rfl, rfl, rfl, rfl⟩
theorem NsFor.add {ps : List (Nat × Nat)} {ns : List Nd} (h : NsFor ps ns) (p : Nat × Nat) (t : Tok) (ct : Tok) (n' : Nat) (hp : p.1 ≠ p.2) : NsFor (ps ++ [p]) (ns.map (addN p (.str (ltr p.1) t) ct n')) := by
 have hne : ltr p.1 ≠ ltr p.2 := fun e => hp (ltr_inj e)
 refine ⟨?_, ?_, ?_, ?_, ?_⟩
 ·rw [List.map_map, ← h.keys]
  exact List.map_congr_left fun n _ => (addN_k ..).1
 ·intro n hn
  refine hide fun Dq kq => ?_; obtain ⟨m, hm, rfl⟩ := List.mem_map.mp hn; refine kq ?_; clear kq Dq
  obtain ⟨t, e⟩ := h.vals m hm
  exact ⟨t, by rw [(addN_k ..).2.1, (addN_k ..).1]; exact e⟩
 ·intro n hn
  refine hide fun Dq kq => ?_; obtain ⟨m, hm, rfl⟩ := List.mem_map.mp hn; refine kq ?_; clear kq Dq
  rw [(addN_k ..).1, List.countP_append]
  have := h.cnt m hm
  unfold addN
  split
  ·rename_i e; simp [this, e]
  ·rename_i e; split <;> simp [this, Ne.symm e]
 ·intro n hn
  refine hide fun Dq kq => ?_; obtain ⟨m, hm, rfl⟩ := List.mem_map.mp hn; refine kq ?_; clear kq Dq
  have := h.sare m hm
  unfold addN
  split
  ·exact this
  ·split
   ·exact strs_cat this (.cons _ _ .nil)
   ·exact this
 ·intro n hn
  refine hide fun Dq kq => ?_; obtain ⟨m, hm, rfl⟩ := List.mem_map.mp hn; refine kq ?_; clear kq Dq
  rw [(addN_k ..).1, List.filter_append, List.map_append]
  have := h.suc m hm
  unfold addN
  split
  ·rename_i e; rw [e] at this ⊢; simp [this, Ne.symm hp]
  ·split
   ·rename_i e; rw [e] at this ⊢; simp [this]
   ·rename_i e; simp [this, Ne.symm e]
theorem NsTk.add {lo hi : Nat} {ns : List Nd} (h : NsTk lo hi ns) (p : Nat × Nat) (t n' : Nat) (ct : Tok) (h1 : lo ≤ t) (h2 : t < hi) : NsTk lo hi (ns.map (addN p (.str (ltr p.1) t) ct n')) := fun n hn => by
 refine hide fun Dq kq => ?_; obtain ⟨m, hm, rfl⟩ := List.mem_map.mp hn; refine kq ?_; clear kq Dq
 refine ⟨by rw [(addN_k ..).2.1]; exact (h m hm).1, fun v hv => ?_⟩
 unfold addN at hv
 split at hv
 ·exact (h m hm).2 v hv
 ·split at hv
  ·rcases List.mem_append.mp hv with hv | hv
   ·exact (h m hm).2 v hv
   ·rw [List.mem_singleton.mp hv]; exact TkB.str h1 h2
  ·exact (h m hm).2 v hv
theorem nod_own : ∀ {ns : List Nd} {n : Nd}, ((allObjs ns).map (·.1)).Nodup → n ∈ ns → ((nobjs n).map (·.1)).Nodup
 | [], _, _, h => nomatch h
 | m :: ns, n, hn, h => by
  rw [allObjs, List.flatMap_cons, List.map_append, List.nodup_append] at hn
  rcases List.mem_cons.mp h with rfl | h
  ·exact hn.1
  ·exact nod_own hn.2.1 h
theorem nod_apart : ∀ {ns : List Nd} {n m : Nd}, ((allObjs ns).map (·.1)).Nodup → n ∈ ns → m ∈ ns → n.k ≠ m.k → ∀ p ∈ nobjs n, ∀ q ∈ nobjs m, p.1 ≠ q.1
 | [], _, _, _, h, _, _ => nomatch h
 | a :: ns, n, m, hn, h1, h2, hne => by
  rw [allObjs, List.flatMap_cons, List.map_append, List.nodup_append] at hn
  have sub : ∀ {z : Nd}, z ∈ ns → ∀ p ∈ nobjs z, p.1 ∈ (ns.flatMap nobjs).map (·.1) := fun hz p hp => List.mem_map_of_mem (List.mem_flatMap.mpr ⟨_, hz, hp⟩)
  intro p hp q hq
  rcases List.mem_cons.mp h1 with rfl | _
  ·rcases List.mem_cons.mp h2 with rfl | h2
   ·exact absurd rfl hne
   ·exact hn.2.2 _ (List.mem_map_of_mem hp) _ (sub h2 q hq)
  ·rename_i g1
   rcases List.mem_cons.mp h2 with rfl | h2
   ·exact Ne.symm (hn.2.2 _ (List.mem_map_of_mem hq) _ (sub g1 p hp))
   ·exact nod_apart hn.2.1 g1 h2 hne p hp q hq
theorem same_k : ∀ {ns : List Nd} {n m : Nd}, (ns.map (·.k)).Nodup → n ∈ ns → m ∈ ns → n.k = m.k → n = m
 | [], _, _, _, h, _, _ => nomatch h
 | a :: ns, n, m, hn, h1, h2, e => by
  rw [List.map_cons, List.nodup_cons] at hn
  rcases List.mem_cons.mp h1 with rfl | _
  ·rcases List.mem_cons.mp h2 with rfl | h2
   ·rfl
   ·exact absurd (e ▸ List.mem_map_of_mem h2) hn.1
  ·rename_i g1
   rcases List.mem_cons.mp h2 with rfl | h2
   ·exact absurd (e ▸ List.mem_map_of_mem g1) hn.1
   ·exact same_k hn.2 g1 h2 e
theorem own3 {ns : List Nd} {n : Nd} (hn : ((allObjs ns).map (·.1)).Nodup) (h : n ∈ ns) : (n.a ≠ n.da ∧ n.a ≠ n.sa) ∧ n.da ≠ n.sa ∧ True := by
 have := nod_own hn h
 simp only [nobjs, List.map_cons, List.map_nil, List.nodup_cons, List.mem_cons, List.not_mem_nil, or_false, not_or] at this
 exact ⟨this.1, this.2.1, trivial⟩
theorem mem_addN {ns : List Nd} {n1 n2 : Nd} {p : Nat × Nat} {v : Value} {ct : Tok} {n' : Nat} (hk : (ns.map (·.k)).Nodup) (hn : ((allObjs ns).map (·.1)).Nodup) (h1 : n1 ∈ ns) (h2 : n2 ∈ ns) (e1 : n1.k = ltr p.1) (e2 : n2.k = ltr p.2) (hne : ltr p.1 ≠ ltr p.2) {q : Addr × Obj} (hq : q ∈ allObjs (ns.map (addN p v ct n'))) :
  q = (n1.a, nodeObj n1.v (n1.c + 1) ct n1.sa n1.da) ∨ q = (n2.sa, listOf (n2.sv ++ [v]).toArray n') ∨ (q ∈ allObjs ns ∧ q.1 ≠ n1.a ∧ q.1 ≠ n2.sa) := by
 refine hide fun Dq kq => ?_; obtain ⟨m, hm, hq⟩ := List.mem_flatMap.mp hq; refine kq ?_; clear kq Dq
 refine hide fun Dq kq => ?_; obtain ⟨n, hn', rfl⟩ := List.mem_map.mp hm; refine kq ?_; clear kq Dq
 have hin : ∀ z ∈ nobjs n, z ∈ allObjs ns := fun z hz => List.mem_flatMap.mpr ⟨n, hn', hz⟩
 have hnk : n1.k ≠ n2.k := by rw [e1, e2]; exact hne
 unfold addN at hq
 split at hq
 ·rename_i e
  obtain rfl := same_k hk hn' h1 (e.trans e1.symm)
  have own := own3 hn hn'
  have ap := nod_apart hn h1 h2 hnk
  simp only [nobjs, List.mem_cons, List.not_mem_nil, or_false] at hq
  rcases hq with rfl | rfl | rfl
  ·exact .inl rfl
  ·exact .inr (.inr ⟨hin _ (by k_mem), Ne.symm own.1.1, ap _ (.tail _ (.head _)) _ (.tail _ (.tail _ (.head _)))⟩)
  ·exact .inr (.inr ⟨hin _ (by k_mem), Ne.symm own.1.2, ap _ (.tail _ (.tail _ (.head _))) _ (.tail _ (.tail _ (.head _)))⟩)
 ·split at hq
  ·rename_i e
   obtain rfl := same_k hk hn' h2 (e.trans e2.symm)
   have own := own3 hn hn'
   have ap := nod_apart hn h2 h1 (Ne.symm hnk)
   simp only [nobjs, List.mem_cons, List.not_mem_nil, or_false] at hq
   rcases hq with rfl | rfl | rfl
   ·exact .inr (.inr ⟨hin _ (by k_mem), ap _ (.head _) _ (.head _), own.1.2⟩)
   ·exact .inr (.inr ⟨hin _ (by k_mem), ap _ (.tail _ (.head _)) _ (.head _), own.2.1⟩)
   ·exact .inr (.inl rfl)
  ·rename_i f1 f2
   refine .inr (.inr ⟨hin _ hq, ?_, ?_⟩)
   ·exact nod_apart hn hn' h1 (by rw [e1]; exact f1) q hq _ (.head _)
   ·exact nod_apart hn hn' h2 (by rw [e2]; exact f2) q hq (n2.sa, listOf n2.sv.toArray n2.sn) (by k_mem)
theorem addN_keys (ns : List Nd) (p : Nat × Nat) (v : Value) (ct : Tok) (n' : Nat) : (allObjs (ns.map (addN p v ct n'))).map (·.1) = (allObjs ns).map (·.1) ∧ kvsOf (ns.map (addN p v ct n')) = kvsOf ns := by
 constructor
 ·induction ns with
  | nil => rfl
  | cons a ns ih =>
   have := addN_k p v ct n' a
   simp only [allObjs, List.map_cons, List.flatMap_cons, List.map_append] at ih ⊢
   rw [ih]
   simp only [this]
 ·simp only [kvsOf, List.map_map]
  refine List.map_congr_left fun n _ => ?_
  have := addN_k p v ct n' n
  simp only [Function.comp, this]
section
local macro_rules | `(tactic| walk_at "eval Dict") => `(tactic| (k_here; k_dflt (refine' dsp_eval ?F ?N ?b ?a ?l ?e ?n ?_; (case F => k_asm); (case N => first | k_asm | exact News.nil); (case b => exact Top.nolimit (by k_asm)); (case a => rfl); (case l => rfl); (case e => exact List.cons_ne_nil _ _); (case n => exact Nat.le_of_ble_eq_true rfl)); intro d' h' F' N' l1 lo'; (try k_lt l1)))
local macro_rules | `(tactic| walk_at "call ref") => `(tactic| (with_reducible refine hold_call 165 ?_))
local macro_rules | `(tactic| walk_at "call ref") => `(tactic| (with_reducible refine hold_call 115 ?_))
local macro_rules | `(tactic| walk_at "call ref") => `(tactic| (with_reducible refine hold_call 120 ?_))
local macro_rules | `(tactic| walk_at "exec For") => `(tactic| (refine Hold.out ?_))
local macro_rules | `(tactic| walk_at "pyIter ref") => `(tactic| (refine Hold.out ?_))
theorem tk5 {n : Nat} {a b c d e : Value} : ∀ v, (∃  p ∈ [(ltr 97, n + (0 + 1), a), (ltr 98, n + (0 + 1) + 1, b), (ltr 99, n + (0 + 1) + 1 + 1, c), (ltr 100, n + (0 + 1) + 1 + 1 + 1, d), (ltr 101, n + (0 + 1) + 1 + 1 + 1 + 1, e)], v = Value.str p.1 p.2.1) → TkB n (n + 6) v := by
 rintro v hJq; refine hide fun Dq kq => ?_; obtain ⟨p, hp, rfl⟩ := hJq; refine kq ?_; clear kq Dq
 simp only [List.mem_cons, List.not_mem_nil, or_false] at hp
 rcases hp with rfl | rfl | rfl | rfl | rfl <;> exact TkB.str (by dsimp only; omega) (by dsimp only; omega)
theorem rank_ok : ∀ a ∈ works, ∀ b ∈ works, b < a → (works.map ltr).idxOf (ltr b) < (works.map ltr).idxOf (ltr a) := by decide
theorem keepW_leave {s g h h' : Heap} {fr : List Env} {env : Env} {L : Addr} {m : Str → Option Value} {mu : List Addr} (S : Sub s g []) (F : Fr g L h m) (k : KeepW (env :: fr) h h' mu) (hm : ∀ b ∈ mu, g.get? b = none) (hL : L = s.objs.size) (hf : env.frame = some L := by rfl) : KeepW fr s h' [] := fun b o e _ => by
 have hg := S.out b o e nN
 obtain ⟨sl, q, z⟩ := k b o (F.keep b o hg) fun hb => by have := hm b hb; rw [hg] at this; cases this
 refine ⟨sl, q, fun f => z fun ev he hq => ?_⟩
 rcases List.mem_cons.mp he with rfl | he
 ·rw [hf] at hq
  have := Option.some.inj hq
  subst this
  exact absurd (Heap.lt_size e) (by rw [hL]; exact Nat.lt_irrefl _)
 ·exact f ev he hq
theorem fresh_off {w : World} {fr : List Env} {h : Heap} {mu : List Addr} (C : Cx w fr h mu) {b : Addr} (e : h.get? b = none) : Off fr b := fun ev he q => by
 refine hide fun Dq kq => ?_; obtain ⟨A₀, base, h₀, outer, L, m, env, rfl, B, F, BO, hf, hke, hm⟩ := C; refine kq ?_; clear kq Dq
 have B₁ := pushX B F hf hke
 refine hide fun Dq kq => ?_; obtain ⟨L₁, o₁, hf₁, _, h₁⟩ := funFrames_at B₁.frames ev he; refine kq ?_; clear kq Dq
 rw [hf₁] at q
 have := Option.some.inj q
 subst this
 rw [e] at h₁; cases h₁
theorem off_news {A₀ : Around} {base g h : Heap} {outer : List Env} {L : Addr} {env : Env} {news : List (Addr × Obj)} (B : Below A₀ base outer g) (N : News g L h news) {p : Addr × Obj} (hp : p ∈ news) (hf : env.frame = some L := by rfl) : Off (env :: outer) p.1 := fun ev he q => by
 rcases List.mem_cons.mp he with rfl | he
 ·rw [hf] at q
  exact (N p hp).2.1 (Option.some.inj q).symm
 ·refine hide fun Dq kq => ?_; obtain ⟨L₁, o₁, hf₁, _, h₁⟩ := funFrames_at B.frames ev he; refine kq ?_; clear kq Dq
  rw [hf₁] at q
  rw [Option.some.inj q, (N p hp).2.2] at h₁; cases h₁
theorem sorter_spec {w : World} {dp un : Nat} {fr : List Env} {s : Shared} {Q E : Value → Shared → Prop} {nl : Addr} {nv : List Value} {nn : Nat} {ps : List (Nat × Nat)}
 (C : Cx w fr s.heap []) (hd : dp + 60 < recursionLimit) (hu : un + 700 < cLine)
 (hnl : s.heap.get? nl = some (listOf nv.toArray nn)) (hnv : StrsAre nv (ps.map two)) (hps : ∀ p ∈ ps, p.1 ∈ works ∧ p.2 ∈ works ∧ p.2 < p.1) (hlen : ps.length < 50)
 (hret : ∀ (h' : Heap) (tk' : Nat) (x dx d r : Addr) (od : Obj) (ns : List Nd) (h1 h2 h3 h4 : Int) (t1 t2 t3 t4 tp tf : Tok) (en n' : Nat), KeepW fr s.heap h' [] →
  (∀ p ∈ (x, instObj 165 dx) :: (dx, dictOf (sdict h1 h2 h3 h4 t1 t2 t3 t4 d (.ref r) 0 0 tp tf) en) :: (d, od) :: (r, listOf ((ns.filter (·.c == 0)).map (·.v)).toArray n') :: allObjs ns, s.heap.get? p.1 = none ∧ h'.get? p.1 = some p.2) →
  (x :: dx :: d :: r :: (allObjs ns).map (·.1)).Nodup → od.IsDictOf (PySem.strKind Pg w) (kvsOf ns) → (d == sysModules) = false → NsFor ps ns → NsTk s.toks tk' ns → Q (.ref x) { s with heap := h', toks := tk' }) :
 wpAny (model Pg w) (Ar dp un fr) (call (.ref 197) [.ref nl]) Q E s := by
 revert w dp un fr s Q E nl nv nn ps
 refine @(pk11 (((w00, δ), (δ, (δ, s00))), δ) ?_)
 generalize z11 _ _ = Z; generalize Z.1.1.1 = w, Z.1.1.2 = dp, Z.1.2.1 = un, Z.1.2.2.1 = fr, Z.1.2.2.2 = s, Z.2.1.1 = Q, Z.2.1.2.1 = E, Z.2.1.2.2 = nl, Z.2.2.1 = nv, Z.2.2.2.1 = nn, Z.2.2.2.2 = ps
 intro C hd hu hnl hnv hps hlen hret
 k_dflt (refine' enter (binds := [(Str.ofString "needs", .ref nl)]) ?C ?N ?k6 ?k7 ?k8 ?k9 ?kB ?_ ?c2 ?c3 ?c4 ?c5; walk_at "m_in")
 refine @(pk9 δ ?_); generalize z9 _ _ = Z; generalize Z.1.1.1 = g, Z.1.1.2 = L', Z.1.2.1 = h₁, Z.1.2.2 = base, Z.2.1.1 = p, Z.2.1.2 = loose, Z.2.2.1 = mean, Z.2.2.2.1 = mg, Z.2.2.2.2 = mb; intro BO F N B X T S hlt hL
 have gnl := S.out _ _ hnl nN
 k_steps
 rename_i d' hA lo' l0 la hB lA lb hC lB lc hD lC ld hE lD le hF Fz Nz lE
 refine ⟨[(ltr 97, _, .ref la), (ltr 98, _, .ref lb), (ltr 99, _, .ref lc), (ltr 100, _, .ref ld), (ltr 101, _, .ref le)], rfl, (Nz (d', { cls := .type "dict", data := .dict #[] }) (by k_mem)).1, by show (works.map ltr).Nodup; decide, by show 5 < 900; decide, ?_⟩
 intro hH od' hod' hd' hP' hs'
 have hPt := @tk5 s.toks (.ref la) (.ref lb) (.ref lc) (.ref ld) (.ref le)
 have zd := Nz (d', { cls := .type "dict", data := .dict #[] }) (by k_mem)
 have Fy := Fz.change hs' zd.2.1 zd.2.2
 have Ny : News g L' hH [(le, listOf #[] 0), (ld, listOf #[] 0), (lc, listOf #[] 0), (lb, listOf #[] 0), (la, listOf #[] 0), (d', od')] := by
  have key : ∀ a, (a, listOf #[] 0) ∈ [(le, listOf #[] 0), (ld, listOf #[] 0), (lc, listOf #[] 0), (lb, listOf #[] 0), (la, listOf #[] 0), (d', ({ cls := .type "dict", data := .dict #[] } : Obj))] → d' < a → hH.get? a = some (listOf #[] 0) ∧ a ≠ L' ∧ g.get? a = none := fun a ha hlt => by
   have z := Nz _ ha
   exact ⟨hs'.extBut _ _ (Nat.ne_of_gt hlt) z.1, z.2⟩
  exact all_cons (key _ (by k_mem) lE.2.2.2.2) (all_cons (key _ (by k_mem) lD.2.2.2) (all_cons (key _ (by k_mem) lC.2.2) (all_cons (key _ (by k_mem) lB.2) (all_cons (key _ (by k_mem) lA) (all_cons ⟨hod', zd.2⟩ all0)))))
 clear Fz Nz
 k_steps
 refine Hold.mk (wpAny_tk (s.toks + 6) (by dsimp only [List.length]; omega) ?_)
 k_dflt (refine' call_cls ?k1 ?k2 ?k3 ?k4 ?k5 ?k6 ?_; (case k1 => k_asm); (case k2 => k_asm); (case k3 => k_asm); (case k4 => k_is); (case k5 => k_is); (case k6 => k_is))
 intro x dx h₂ F₂ N₂ l1 l2
 clear Fy Ny
 have hdE : d' ≠ dx := Nat.ne_of_lt (l1 (d', od') (by k_mem))
 show codeAny _ (Ar (dp + 1 + 1) (un + 3 + 1) (_ :: fr)) _ _ _
 refine init_spec (cx_of B F₂ BO N₂ (by simp)) (by omega) (by omega) (N₂ _ (.head _)).1 (N₂ _ (.tail _ (.head _))).1 (Nat.ne_of_gt l2) hdE (N₂ (d', od') (by k_mem)).1 hd' hP' lo' ?_ (by show 5 < 100; decide) (by show (works.map ltr).Nodup; decide) ?_
 ·simp only [tagKvs, List.map_cons, List.map_nil, List.mem_cons, List.not_mem_nil, or_false]
  rintro e (rfl | rfl | rfl | rfl | rfl)
  all_goals (refine ⟨_, 0, rfl, Nat.ne_of_lt (l1 (_, listOf #[] 0) (by k_mem)), (N₂ (_, listOf #[] 0) (by k_mem)).1⟩)
 ·intro h₃ tk₃ d od ns z1 z2 z3 z4 t1 t2 t3 t4 tp tf en kp gdx hnew hnod hod lo hkeys hns
  obtain ⟨F₃, N₃⟩ := after_K (news' := (x, instObj 165 dx) :: (dx, dictOf (sdict z1 z2 z3 z4 t1 t2 t3 t4 d .none 0 0 tp tf) en) :: (d, od) :: allObjs ns) F₂ N₂ kp (by simp) (all_cons (.inl ⟨.head _, nin1 (Nat.ne_of_gt l2)⟩) (all_cons (.inr ⟨gdx, .inl (.head _)⟩) fun p hp => .inr ⟨(hnew p hp).2, .inr (hnew p hp).1⟩))
  have hall : ([x, dx] ++ (d :: (allObjs ns).map (·.1))).Nodup := by
   have key : ∀ b ∈ [x, dx], b ∉ d :: (allObjs ns).map (·.1) := fun b hb hm => by
    have : ∃ p ∈ (d, od) :: allObjs ns, p.1 = b := by
     rcases List.mem_cons.mp hm with rfl | hm
     ·exact ⟨_, .head _, rfl⟩
     ·refine hide fun Dq kq => ?_; obtain ⟨p, hp, e⟩ := List.mem_map.mp hm; refine kq ?_; clear kq Dq
      exact ⟨p, .tail _ hp, e⟩
    refine hide fun Dq kq => ?_; obtain ⟨p, hp, e⟩ := this; refine kq ?_; clear kq Dq
    have z := (hnew p hp).1
    rw [e] at z
    simp only [List.mem_cons, List.not_mem_nil, or_false] at hb
    rcases hb with rfl | rfl
    ·rw [(N₂ _ (.head _)).1] at z; cases z
    ·rw [(N₂ _ (.tail _ (.head _))).1] at z; cases z
   rw [List.nodup_append]
   refine ⟨?_, hnod, fun b hb c hc e => key b hb (e ▸ hc)⟩
   simp only [List.nodup_cons, List.mem_cons, List.not_mem_nil, or_false, not_false_eq_true, and_true, List.nodup_nil]
   exact Nat.ne_of_gt l2
  have hN0 : NsFor [] ns := ⟨hkeys, fun n hn => (hns n hn).2.2.2.2, fun n hn => by simp [(hns n hn).1], fun n hn => by rw [(hns n hn).2.1, (hns n hn).2.2.1]; exact .nil, fun n hn => by simp [(hns n hn).2.2.1]⟩
  have hT0 : NsTk s.toks (s.toks + 6) ns := fun n hn => ⟨hPt _ (hns n hn).2.2.2.1, fun v hv => by rw [(hns n hn).2.1] at hv; cases hv⟩
  clear F₂ N₂ hnew
  refine ⟨rfl, ?_⟩
  intro hn6
  have hn6 : TkLo (s.toks + 6) tk₃ := ⟨hn6⟩
  show wpAny _ _ _ _ _ _
  k_steps
  rename (TkLo _ _) => hn7
  rename (Fr g _ _ _) => F₄
  rename (News g _ _ _) => N₄
  rw [smap0] at F₄
  refine Hold.mk ?_
  refine For_T ?_ (hE := ?hE)
  k_steps
  ·refine Hold.mk ?_
   refine for_baseT (g := g) (fun i m news tk => E2 fun (u : Option Value) (ns : List Nd) => A7 (s.toks ≤ tk) (NsTk s.toks tk ns) (m = smap nl x u) (news = (x, instObj 165 dx) :: (dx, dictOf (sdict z1 z2 z3 z4 t1 t2 t3 t4 d .none 0 0 tp tf) en) :: (d, od) :: allObjs ns) (od.IsDictOf (PySem.strKind Pg w) (kvsOf ns)) (NsFor (ps.take i) ns) (([x, dx] ++ (d :: (allObjs ns).map (·.1))).Nodup)) ?mono rfl (PySem.IsL.isList (n := nn) gnl) F₄ N₄ ⟨none, ns, Nat.le_trans (Nat.le_add_right _ 6) hn7.out, hT0.mono hn7.out, rfl, rfl, hod, by rw [List.take_zero]; exact hN0, hall⟩ rfl rfl ?_ ?_
   ·rintro i m news tk tk' hle hJq; refine hide fun Dq kq => ?_; obtain ⟨u, ns, a, b, c1, c2, c3, c4, c5⟩ := hJq; refine kq ?_; clear kq Dq
    exact ⟨u, ns, Nat.le_trans a hle, b.mono hle, c1, c2, c3, c4, c5⟩
   ·rintro i v m news h tk I oI hvi ⟨u, ns, hlt0, htk0, rfl, rfl, hod, hN0, hall⟩ F₁ N₁ hap
    clear F₄ N₄
    refine hide fun Dq kq => ?_; obtain ⟨y, tv, hy, rfl⟩ := strs_at hnv hvi; refine kq ?_; clear kq Dq
    have hi : i < ps.length := by
     rcases Nat.lt_or_ge i ps.length with z | z
     ·exact z
     ·rw [List.getElem?_eq_none (by simpa using z)] at hy; cases hy
    have hye : y = two ps[i] := by rw [List.getElem?_map, List.getElem?_eq_getElem hi] at hy; exact (Option.some.inj hy).symm
    subst hye
    have htk : ps.take (i + 1) = ps.take i ++ [ps[i]] := (List.take_append_getElem hi).symm
    have hpp := hps _ (List.getElem_mem hi)
    generalize ps[i] = pp at *
    obtain ⟨pa, pb⟩ := pp
    rw [smap_set] at F₁
    have q1 := hap _ (.head _); have q2 := hap _ (.tail _ (.head _)); have q3 := hap _ (.tail _ (.tail _ (.head _)))
    k_steps
    refine Hold.mk (wpAny_tk (tk + 1 + 1 + 1) (by dsimp only; omega) ?_)
    rw [show Txt.item (two (pa, pb)) 0 = ltr pa from rfl, show Txt.item (two (pa, pb)) 1 = ltr pb from rfl]
    obtain ⟨n1, hn1, e1⟩ := List.mem_map.mp (show ltr pa ∈ ns.map (·.k) from by rw [hN0.keys]; exact List.mem_map_of_mem hpp.1)
    obtain ⟨n2, hn2, e2⟩ := List.mem_map.mp (show ltr pb ∈ ns.map (·.k) from by rw [hN0.keys]; exact List.mem_map_of_mem hpp.2.1)
    have hkn : (ns.map (·.k)).Nodup := by rw [hN0.keys]; decide
    have hpne : pa ≠ pb := Nat.ne_of_gt hpp.2.2
    have hne : ltr pa ≠ ltr pb := fun e => hpne (ltr_inj e)
    have hnk : n1.k ≠ n2.k := by rw [e1, e2]; exact hne
    refine hide fun Dq kq => ?_; obtain ⟨x1, x2, x3, y1, y2, y3, hob⟩ := n3 hall; refine kq ?_; clear kq Dq
    have ap := nod_apart hob hn1 hn2 hnk
    have ow1 := own3 hob hn1
    have ow2 := own3 hob hn2
    have mem : ∀ {n : Nd}, n ∈ ns → ∀ q ∈ nobjs n, q ∈ allObjs ns := fun hn q hq => List.mem_flatMap.mpr ⟨_, hn, hq⟩
    have inN : ∀ {n : Nd}, n ∈ ns → ∀ q ∈ nobjs n, q ∈ (I, oI) :: (x, instObj 165 dx) :: (dx, dictOf (sdict z1 z2 z3 z4 t1 t2 t3 t4 d .none 0 0 tp tf) en) :: (d, od) :: allObjs ns := fun hn q hq => .tail _ (.tail _ (.tail _ (.tail _ (mem hn q hq))))
    have off : ∀ {n : Nd}, n ∈ ns → ∀ q ∈ nobjs n, x ≠ q.1 ∧ dx ≠ q.1 ∧ d ≠ q.1 := fun hn q hq => by
     have := List.mem_map_of_mem (f := (·.1)) (mem hn q hq)
     exact ⟨fun e => x3 (e ▸ this), fun e => y2 (e ▸ this), fun e => y3 (e ▸ this)⟩
    have hA2 := (N₁ (n2.a, nodeObj n2.v n2.c n2.ct n2.sa n2.da) (inN hn2 _ (by k_mem))).1
    have hS2 := (N₁ (n2.sa, listOf n2.sv.toArray n2.sn) (inN hn2 _ (by k_mem))).1
    have hA1 := (N₁ (n1.a, nodeObj n1.v n1.c n1.ct n1.sa n1.da) (inN hn1 _ (by k_mem))).1
    have hD1 := (N₁ (n1.da, dictOf [] 0) (inN hn1 _ (by k_mem))).1
    have hD2 := (N₁ (n2.da, dictOf [] 0) (inN hn2 _ (by k_mem))).1
    have o1 := off hn1 (n1.a, nodeObj n1.v n1.c n1.ct n1.sa n1.da) (by k_mem)
    have o2 := off hn2 (n2.sa, listOf n2.sv.toArray n2.sn) (by k_mem)
    have b1 : n2.a ≠ n1.a := Ne.symm (ap _ (.head _) _ (.head _))
    have b2 : n1.da ≠ n2.sa := ap _ (.tail _ (.head _)) _ (.tail _ (.tail _ (.head _)))
    have b3 : n2.da ≠ n1.a := Ne.symm (ap _ (.head _) _ (.tail _ (.head _)))
    have b4 : n1.a ≠ n2.sa := ap _ (.head _) _ (.tail _ (.tail _ (.head _)))
    have hsl : n2.sv.length < 100 := by
     rw [(hN0.sare n2 hn2).length, hN0.suc n2 hn2, List.length_map]
     exact Nat.lt_of_le_of_lt (List.length_filter_le ..) (by rw [List.length_take]; omega)
    have hmu2 : ∀ b ∈ [n1.a, n2.sa], b ∈ ((I, oI) :: (x, instObj 165 dx) :: (dx, dictOf (sdict z1 z2 z3 z4 t1 t2 t3 t4 d .none 0 0 tp tf) en) :: (d, od) :: allObjs ns).map (·.1) :=
     all_cons (List.mem_map_of_mem (f := (·.1)) (inN hn1 (n1.a, nodeObj n1.v n1.c n1.ct n1.sa n1.da) (by k_mem))) (all_cons (List.mem_map_of_mem (f := (·.1)) (inN hn2 (n2.sa, listOf n2.sv.toArray n2.sn) (by k_mem))) all0)
    refine add_spec (a1 := n1.a) (s2 := n2.sa) (v1 := n1.v) (c1 := n1.c) (c1t := n1.ct) (s1 := n1.sa) (da1 := n1.da) (l2 := n2.sv) (n2 := n2.sn) (kvs := kvsOf ns) (a2 := n2.a) (v2 := n2.v) (c2 := n2.c) (c2t := n2.ct) (da2 := n2.da)
     (cx_of B F₁ BO N₁ ?_) (by ktr_room) (by ktr_units) ?_ b4 (N₁ _ (.tail _ (.head _))).1 (N₁ _ (.tail _ (.tail _ (.head _)))).1 (Heap.dictOf_iff.mpr ⟨od, (N₁ _ (.tail _ (.tail _ (.tail _ (.head _))))).1, hod⟩) lo (valueAt_kvs hkn hn1 e1) (valueAt_kvs hkn hn2 e2) hA2 hD1 hD2 ?_ hsl ?_
    ·exact hmu2
    ·exact all_cons hA1 (all_cons hS2 all0)
    ·exact all_cons (nin2 ⟨o1.1, o2.1⟩) (all_cons (nin2 ⟨o1.2.1, o2.2.1⟩) (all_cons (nin2 ⟨o1.2.2, o2.2.2⟩) (all_cons (nin2 ⟨b1, ow2.1.2⟩) (all_cons (nin2 ⟨Ne.symm ow1.1.1, b2⟩) (all_cons (nin2 ⟨b3, ow2.2.1⟩) all0)))))
    ·intro h₅ tk₅ ct₅ n₅ kp₅ g1 g2 hn₅
     have hn₅ : TkLo (tk + 1 + 1 + 1) tk₅ := ⟨hn₅⟩
     obtain ⟨F₅, N₅⟩ := after_K (news' := (I, oI) :: (x, instObj 165 dx) :: (dx, dictOf (sdict z1 z2 z3 z4 t1 t2 t3 t4 d .none 0 0 tp tf) en) :: (d, od) :: allObjs (ns.map (addN (pa, pb) (.str (ltr pa) _) ct₅ n₅))) F₁ N₁ kp₅ hmu2 (by
       have hI : ∀ {n : Nd}, n ∈ ns → ∀ q ∈ nobjs n, I ≠ q.1 := fun hn q hq e => hap q (.tail _ (.tail _ (.tail _ (mem hn q hq)))) e.symm
       refine all_cons (.inl ⟨.head _, nin2 ⟨hI hn1 (n1.a, nodeObj n1.v n1.c n1.ct n1.sa n1.da) (by k_mem), hI hn2 (n2.sa, listOf n2.sv.toArray n2.sn) (by k_mem)⟩⟩) (all_cons (.inl ⟨.tail _ (.head _), nin2 ⟨o1.1, o2.1⟩⟩) (all_cons (.inl ⟨.tail _ (.tail _ (.head _)), nin2 ⟨o1.2.1, o2.2.1⟩⟩) (all_cons (.inl ⟨.tail _ (.tail _ (.tail _ (.head _))), nin2 ⟨o1.2.2, o2.2.2⟩⟩) fun q hq => ?_)))
       rcases mem_addN hkn hob hn1 hn2 e1 e2 hne hq with rfl | rfl | ⟨hq, u1, u2⟩
       ·exact .inr ⟨g1, .inl (.head _)⟩
       ·exact .inr ⟨g2, .inl (.tail _ (.head _))⟩
       ·exact .inl ⟨.tail _ (.tail _ (.tail _ (.tail _ hq))), nin2 ⟨u1, u2⟩⟩)
     clear F₁ N₁
     have ak := addN_keys ns (pa, pb) (.str (ltr pa) (tk + 1)) ct₅ n₅
     k_steps
     rename (TkLo _ _) => hn₆
     refine ⟨_, _, _, _, rfl, F₅, N₅, ?_, _, ns.map (addN (pa, pb) (.str (ltr pa) (tk + 1)) ct₅ n₅), ?_, ?_, rfl, rfl, ?_, ?_, ?_⟩
     ·intro q hq z hz
      rw [List.mem_singleton.mp hz]
      revert q
      refine all_cons q1 (all_cons q2 (all_cons q3 fun q hq => ?_))
      ·have hq' := List.mem_map_of_mem (f := (·.1)) hq
       rw [ak.1] at hq'
       refine hide fun Dq kq => ?_; obtain ⟨q', hq', e⟩ := List.mem_map.mp hq'; refine kq ?_; clear kq Dq
       rw [← e]; exact hap q' (.tail _ (.tail _ (.tail _ hq')))
     ·have : tk + 1 + 1 + 1 ≤ _ := hn₆.out
      omega
     ·have : tk + 1 + 1 + 1 ≤ _ := hn₆.out
      exact (htk0.mono (by omega)).add (pa, pb) _ _ _ (by omega) (by omega)
     ·rw [ak.2]; exact hod
     ·rw [htk]; exact hN0.add (pa, pb) _ _ _ hpne
     ·rw [ak.1]; exact hall
   ·rintro m news h tk ⟨u, ns, hlt0, htk0, rfl, rfl, hod, hN0, hall⟩ F₁ N₁
    have hlt0 : TkLo tk tk := ⟨Nat.le_refl _⟩
    clear F₄ N₄
    rw [hnv.length, List.length_map, List.take_length] at hN0
    k_steps
    rename (TkLo _ _) => hn₆
    refine Hold.mk (wpAny_tk _ (Nat.le_refl _) ?_)
    have hkn : (ns.map (·.k)).Nodup := by rw [hN0.keys]; decide
    refine hide fun Dq kq => ?_; obtain ⟨x1, x2, x3, y1, y2, y3, hob⟩ := n3 hall; refine kq ?_; clear kq Dq
    have mem : ∀ {n : Nd}, n ∈ ns → ∀ q ∈ nobjs n, q ∈ (x, instObj 165 dx) :: (dx, dictOf (sdict z1 z2 z3 z4 t1 t2 t3 t4 d .none 0 0 tp tf) en) :: (d, od) :: allObjs ns := fun hn q hq => .tail _ (.tail _ (.tail _ (List.mem_flatMap.mpr ⟨_, hn, hq⟩)))
    have off : ∀ {n : Nd}, n ∈ ns → ∀ q ∈ nobjs n, q.1 ≠ dx := fun hn q hq e => y2 (e ▸ List.mem_map_of_mem (f := (·.1)) (List.mem_flatMap.mpr ⟨_, hn, hq⟩))
    have hss : ∀ n ∈ ns, n.ss.length < 100 := fun n hn => by
     rw [hN0.suc n hn, List.length_map]
     exact Nat.lt_of_le_of_lt (List.length_filter_le ..) (by omega)
    have hln : ns.length < 100 := by
     have := congrArg List.length hN0.keys
     simp at this; omega
    refine prepare_spec (ns := ns) (cx_of B F₁ BO N₁ (by simp)) (by ktr_room) (by ktr_units) (N₁ _ (.head _)).1 (N₁ _ (.tail _ (.head _))).1 (off_news B N₁ (.head _)) (off_news B N₁ (.tail _ (.tail _ (.head _)))) x1 (Ne.symm y1) ?_ (Heap.dictOf_iff.mpr ⟨od, (N₁ _ (.tail _ (.tail _ (.head _)))).1, hod⟩) lo hln hN0.vals ?_ ?_ hkn ?_ ?_
    ·intro n hn
     exact ⟨off hn (n.a, nodeObj n.v n.c n.ct n.sa n.da) (by k_mem), off hn (n.da, dictOf [] 0) (by k_mem), off hn (n.sa, listOf n.sv.toArray n.sn) (by k_mem)⟩
    ·intro n hn
     exact ⟨(N₁ (n.a, nodeObj n.v n.c n.ct n.sa n.da) (mem hn _ (by k_mem))).1, (N₁ (n.da, dictOf [] 0) (mem hn _ (by k_mem))).1, (N₁ (n.sa, listOf n.sv.toArray n.sn) (mem hn _ (by k_mem))).1, hN0.sare n hn, hss n hn⟩
    ·intro n hn
     exact ⟨off_news B N₁ (mem hn (n.a, nodeObj n.v n.c n.ct n.sa n.da) (by k_mem)), off_news B N₁ (mem hn (n.da, dictOf [] 0) (by k_mem)), off_news B N₁ (mem hn (n.sa, listOf n.sv.toArray n.sn) (by k_mem))⟩
    ·intro n hn y hy
     rw [hN0.suc n hn] at hy
     refine hide fun Dq kq => ?_; obtain ⟨q, hq, rfl⟩ := List.mem_map.mp hy; refine kq ?_; clear kq Dq
     obtain ⟨hq, hq'⟩ := List.mem_filter.mp hq
     have hq' : ltr q.2 = n.k := of_decide_eq_true hq'
     have hpq := hps q hq
     simp only [rank, hN0.keys, ← hq']
     refine ⟨List.mem_map_of_mem hpq.1, ?_⟩
     exact rank_ok _ hpq.1 _ hpq.2.1 hpq.2.2
    ·intro h₅ tk₅ r en₅ n₅ kw gdx₅ fr₅ gr₅ hn₅
     have hn₇ : TkLo tk tk₅ := hn₆.le (Nat.le_trans (by first | exact Nat.le_refl _ | (dsimp only; omega)) hn₅)
     clear hn₆
     have hdxm : ∀ b ∈ [dx], g.get? b = none ∧ b ≠ L' := fun b hb => by
      rw [List.mem_singleton.mp hb]
      exact ⟨(N₁ _ (.tail _ (.head _))).2.2, (N₁ _ (.tail _ (.head _))).2.1⟩
     refine hide fun Dq kq => ?_; obtain ⟨g', B', F', _, _⟩ := rebase B F₁ BO rfl kw hdxm; refine kq ?_; clear kq Dq
     have kL := keepW_leave S F₁ kw (fun b hb => (hdxm b hb).1) hL
     have fin : ∀ p ∈ (x, instObj 165 dx) :: (dx, dictOf (sdict z1 z2 z3 z4 t1 t2 t3 t4 d (.ref r) 0 0 tp tf) en₅) :: (d, od) :: (r, listOf ((ns.filter (·.c == 0)).map (·.v)).toArray n₅) :: allObjs ns, s.heap.get? p.1 = none ∧ h₅.get? p.1 = some p.2 := by
      have old : ∀ p ∈ (x, instObj 165 dx) :: (dx, dictOf (sdict z1 z2 z3 z4 t1 t2 t3 t4 d .none 0 0 tp tf) en) :: (d, od) :: allObjs ns, s.heap.get? p.1 = none ∧ (p.1 ≠ dx → h₅.get? p.1 = some p.2) := fun p hp =>
       ⟨fresh_of S N₁ hp, fun hne => kw.off (N₁ p hp).1 (by simpa using hne) (off_news B N₁ hp)⟩
      intro p hp
      simp only [List.mem_cons] at hp
      rcases hp with rfl | rfl | rfl | rfl | hp
      ·have := old _ (.head _); exact ⟨this.1, this.2 x1⟩
      ·exact ⟨(old _ (.tail _ (.head _))).1, gdx₅⟩
      ·have := old _ (.tail _ (.tail _ (.head _))); exact ⟨this.1, this.2 (Ne.symm y1)⟩
      ·refine ⟨?_, gr₅⟩
       cases e : s.heap.get? r with
       | none => rfl
       | some o => have := F₁.keep _ _ (S.out _ _ e nN); rw [fr₅] at this; cases this
      ·have := old p (.tail _ (.tail _ (.tail _ hp)))
       exact ⟨this.1, this.2 fun e => y2 (e ▸ List.mem_map_of_mem (f := (·.1)) hp)⟩
     have nod : (x :: dx :: d :: r :: (allObjs ns).map (·.1)).Nodup := by
      have nr : ∀ p ∈ (x, instObj 165 dx) :: (dx, dictOf (sdict z1 z2 z3 z4 t1 t2 t3 t4 d .none 0 0 tp tf) en) :: (d, od) :: allObjs ns, p.1 ≠ r := fun p hp e => by
       have := (N₁ p hp).1; rw [e, fr₅] at this; cases this
      have r1 := nr _ (.head _); have r2 := nr _ (.tail _ (.head _)); have r3 := nr _ (.tail _ (.tail _ (.head _)))
      simp only [List.nodup_cons, List.mem_cons, not_or]
      refine ⟨⟨x1, x2, r1, x3⟩, ⟨y1, r2, y2⟩, ⟨r3, y3⟩, ?_, hob⟩
      intro hm
      refine hide fun Dq kq => ?_; obtain ⟨p, hp, e⟩ := List.mem_map.mp hm; refine kq ?_; clear kq Dq
      exact nr p (.tail _ (.tail _ (.tail _ hp))) e
     have X' := BO.X.keeps B'.stays
     refine hide fun Dq kq => ?_; obtain ⟨p', loose', mean', mg', mb', TB⟩ := BO.T; refine kq ?_; clear kq Dq
     have T' := TB.keeps B'.stays
     have N' : News g' L' h₅ [] := fun _ hp => nomatch hp
     clear F₁ N₁ X T B
     k_steps
     rename (TkLo _ _) => hn₈
     exact hret h₅ _ x dx d r od ns z1 z2 z3 z4 t1 t2 t3 t4 tp tf en₅ n₅ kL fin nod hod lo hN0 (htk0.mono hn₈.out)
end

end
end
section
abbrev nk (cf : Str → Int) (tf : Str → Tok) (n : Nd) : Addr × Obj := (n.a, nodeObj n.v (cf n.k) (tf n.k) n.sa n.da)
abbrev nks (cf : Str → Int) (tf : Str → Tok) (ns : List Nd) : List (Addr × Obj) := ns.map (nk cf tf)
abbrev others (k : Str) (ns : List Nd) : List Nd := ns.filter fun n => n.k ≠ k
theorem nks_keys (cf : Str → Int) (tf : Str → Tok) (ns : List Nd) : (nks cf tf ns).map (·.1) = ns.map (·.a) := by simp [nks]
theorem nks_out {cf : Str → Int} {tf : Str → Tok} {ns : List Nd} {nn : Nd} (hn : nn ∈ ns) : ∀ p ∈ (nn.a, nodeObj nn.v (cf nn.k) (tf nn.k) nn.sa nn.da) :: nks cf tf (others nn.k ns), p ∈ nks cf tf ns := fun p hp => by
 rcases List.mem_cons.mp hp with rfl | hp
 ·exact List.mem_map_of_mem (f := nk cf tf) hn
 ·refine hide fun Dq kq => ?_; obtain ⟨n, hn', rfl⟩ := List.mem_map.mp hp; refine kq ?_; clear kq Dq
  exact List.mem_map_of_mem (List.mem_filter.mp hn').1
theorem nks_in {cf cf' : Str → Int} {tf tf' : Str → Tok} {ns : List Nd} {nn : Nd} {c' : Int} {t' : Tok} (hk : (ns.map (·.k)).Nodup) (hn : nn ∈ ns) (hc : cf' nn.k = c') (ht : tf' nn.k = t') (ho : ∀ n ∈ ns, n.k ≠ nn.k → cf' n.k = cf n.k ∧ tf' n.k = tf n.k) :
  ∀ p ∈ nks cf' tf' ns, p = (nn.a, nodeObj nn.v c' t' nn.sa nn.da) ∨ p ∈ nks cf tf (others nn.k ns) := fun p hp => by
 refine hide fun Dq kq => ?_; obtain ⟨n, hn', rfl⟩ := List.mem_map.mp hp; refine kq ?_; clear kq Dq
 by_cases e : n.k = nn.k
 ·obtain rfl := same_k hk hn' hn e
  left; simp only [nk, hc, ht]
 ·right
  refine List.mem_map.mpr ⟨n, List.mem_filter.mpr ⟨hn', by simpa using e⟩, ?_⟩
  simp only [nk, ho n hn' e]
theorem a_inj : ∀ {ns : List Nd} {n m : Nd}, (ns.map (·.a)).Nodup → n ∈ ns → m ∈ ns → n.a = m.a → n = m
 | [], _, _, _, h, _, _ => nomatch h
 | a :: ns, n, m, hn, h1, h2, e => by
  rw [List.map_cons, List.nodup_cons] at hn
  rcases List.mem_cons.mp h1 with rfl | _
  ·rcases List.mem_cons.mp h2 with rfl | h2
   ·rfl
   ·exact absurd (e ▸ List.mem_map_of_mem h2) hn.1
  ·rename_i g1
   rcases List.mem_cons.mp h2 with rfl | h2
   ·exact absurd (e ▸ List.mem_map_of_mem g1) hn.1
   ·exact a_inj hn.2 g1 h2 e
theorem others_off {cf : Str → Int} {tf : Str → Tok} {ns : List Nd} {nn : Nd} (ha : (ns.map (·.a)).Nodup) (hn : nn ∈ ns) : ∀ p ∈ nks cf tf (others nn.k ns), p.1 ≠ nn.a := fun p hp e => by
 refine hide fun Dq kq => ?_; obtain ⟨n, hn', rfl⟩ := List.mem_map.mp hp; refine kq ?_; clear kq Dq
 obtain ⟨h1, h2⟩ := List.mem_filter.mp hn'
 have := a_inj ha h1 hn e
 subst this
 simp at h2
theorem others_ne {cf : Str → Int} {tf : Str → Tok} {ns : List Nd} {k : Str} {b : Addr} (h : b ∉ ns.map (·.a)) : ∀ p ∈ nks cf tf (others k ns), p.1 ≠ b := fun p hp e => by
 refine hide fun Dq kq => ?_; obtain ⟨n, hn', rfl⟩ := List.mem_map.mp hp; refine kq ?_; clear kq Dq
 exact h (e ▸ List.mem_map_of_mem (List.mem_filter.mp hn').1)
theorem nks_ne {cf : Str → Int} {tf : Str → Tok} {ns : List Nd} {b : Addr} (h : b ∉ ns.map (·.a)) : ∀ p ∈ nks cf tf ns, p.1 ≠ b := fun p hp e => by
 refine hide fun Dq kq => ?_; obtain ⟨n, hn', rfl⟩ := List.mem_map.mp hp; refine kq ?_; clear kq Dq
 exact h (e ▸ List.mem_map_of_mem hn')
theorem meets_bool_new_list (l : Addr) (items : Array Value) :
  Meets (Builtin.«bool.__new__» ⟨[.type "bool", .ref l], []⟩) (fun _ R s => s.heap.IsList l items ∧ (items.size : Int) < 2 ^ 63 ∧ R (.ok (.ret (.bool (!items.isEmpty)))) { s with toks := s.toks + 1 + 1 }) :=
 Meets.of_wp fun prog w A R s hs => by
  refine hide fun Dq kq => ?_; obtain ⟨hp, g, d, tk, os⟩ := s; refine kq ?_; clear kq Dq
  refine hide fun Dq kq => ?_; obtain ⟨hl, hz, hs⟩ := hs; refine kq ?_; clear kq Dq
  have f1 := F.conv_sub_bool
  repeat (any_goals (first | assumption | (with_reducible refine wpAny_truthy_list hl hz ?_) | wp_step))
  all_goals first | exact ⟨_, rfl, hs⟩ | exact hs | skip
theorem bool_list {prog : Program} {w : World} {A : Around} {E : Value → Shared → Prop} {s : Shared} {l : Addr} {items : Array Value} {Q : Value → Shared → Prop} (hl : s.heap.IsList l items) (hz : items.size < 1000) (h : Q (.bool (!items.isEmpty)) { s with toks := s.toks + 1 + 1 }) :
  wpAny (model prog w) A (call (.type "bool") [.ref l]) Q E s :=
 call_bool_1 (meets_bool_new_list l items) ⟨hl, by omega, ⟨rfl, h⟩⟩
theorem active_spec {w : World} {dp un : Nat} {fr : List Env} {s : Shared} {Q E : Value → Shared → Prop} {x dx d r : Addr} {h1 h2 h3 h4 : Int} {t1 t2 t3 t4 tp tf : Tok} {np nf : Int} {en rn : Nat} {rv : List Value}
 (C : Cx w fr s.heap []) (hd : dp + 20 < recursionLimit) (hu : un + 300 < cLine)
 (hx : s.heap.get? x = some (instObj 165 dx)) (hdx : s.heap.get? dx = some (dictOf (sdict h1 h2 h3 h4 t1 t2 t3 t4 d (.ref r) np nf tp tf) en)) (hr : s.heap.get? r = some (listOf rv.toArray rn)) (hz : rv.length < 100)
 (hret : ∀ (h' : Heap) (tk' : Nat), Keep s.heap h' [] → Q (.bool (decide (nf < np) || !rv.isEmpty)) { s with heap := h', toks := tk' }) :
 wpAny (model Pg w) (Ar dp un fr) (call (.ref 134) [.ref x]) Q E s := by
 revert w dp un fr s Q E x dx d r h1 h2 h3 h4 t1 t2 t3 t4 tp tf np nf en rn rv
 refine @(pk26 ((((w00, δ), (δ, (s00, δ))), δ), δ) ?_)
 generalize z26 _ _ = Z; generalize Z.1.1.1.1 = w, Z.1.1.1.2.1 = dp, Z.1.1.1.2.2 = un, Z.1.1.2.1 = fr, Z.1.1.2.2.1 = s, Z.1.1.2.2.2 = Q, Z.1.2.1.1 = E, Z.1.2.1.2.1 = x, Z.1.2.1.2.2 = dx, Z.1.2.2.1.1 = d, Z.1.2.2.1.2 = r, Z.1.2.2.2.1 = h1, Z.1.2.2.2.2 = h2, Z.2.1.1.1 = h3, Z.2.1.1.2.1 = h4, Z.2.1.1.2.2 = t1, Z.2.1.2.1 = t2, Z.2.1.2.2.1 = t3, Z.2.1.2.2.2 = t4, Z.2.2.1.1 = tp, Z.2.2.1.2.1 = tf, Z.2.2.1.2.2 = np, Z.2.2.2.1.1 = nf, Z.2.2.2.1.2 = en, Z.2.2.2.2.1 = rn, Z.2.2.2.2.2 = rv
 intro C hd hu hx hdx hr hz hret
 k_dflt (refine' enter (binds := [(Str.ofString "self", .ref x)]) ?C ?N ?k6 ?k7 ?k8 ?k9 ?kB ?_ ?c2 ?c3 ?c4 ?c5; walk_at "m_in")
 refine @(pk9 δ ?_); generalize z9 _ _ = Z; generalize Z.1.1.1 = g, Z.1.1.2 = L', Z.1.2.1 = h₁, Z.1.2.2 = base, Z.2.1.1 = p, Z.2.1.2 = loose, Z.2.2.1 = mean, Z.2.2.2.1 = mg, Z.2.2.2.2 = mb; intro BO F N B X T S hlt hL
 have gx := S.out _ _ hx nN
 have gdx := S.out _ _ hdx nN
 have gr := S.out _ _ hr nN
 have grl : g.IsList r rv.toArray := PySem.IsL.isList (n := rn) gr
 have hz' : rv.toArray.size < 100 := by simpa using hz
 k_steps
 ·rename (nf < np) => hlt'
  have e : Value.bool (decide (nf < np)) = Value.bool (decide (nf < np) || !rv.isEmpty) := by simp [hlt']
  rw [e]
  exact hret _ _ (S.keep F)
 ·rename (¬ nf < np) => hlt'
  refine bool_list (li_lift F grl) (by omega) ?_
  have e : (!rv.toArray.isEmpty) = (decide (nf < np) || !rv.isEmpty) := by simp [hlt']
  rw [e]
  exact hret _ _ (S.keep F)

end
section
abbrev gmap (x d T : Addr) (u : Option Value) : Str → Option Value := fun y =>
 if y = Str.ofString "node" then u else if y = Str.ofString "n2i" then some (Value.ref d) else if y = Str.ofString "result" then some (Value.ref T) else List.lookup y [(Str.ofString "self", Value.ref x)]
theorem gmap0 {x d T : Addr} : (fun y => if y = Str.ofString "n2i" then some (Value.ref d) else if y = Str.ofString "result" then some (Value.ref T) else List.lookup y [(Str.ofString "self", Value.ref x)]) = gmap x d T none := by
 funext y
 by_cases h : y = Str.ofString "node"
 ·subst h; rfl
 ·simp only [gmap, if_neg h]
theorem gmap_set {x d T : Addr} {u : Option Value} {v : Value} : (fun y => if y = Str.ofString "node" then some v else gmap x d T u y) = gmap x d T (some v) := by
 funext y
 by_cases h : y = Str.ofString "node"
 ·subst h; rfl
 ·simp only [gmap, if_neg h]
theorem news_ne {g h : Heap} {L : Addr} {news : List (Addr × Obj)} (N : News g L h news) {p q : Addr × Obj} (hp : p ∈ news) (hq : q ∈ news) (ne : p.2 ≠ q.2) : p.1 ≠ q.1 := fun e => by
 have a := (N p hp).1
 rw [e, (N q hq).1] at a
 exact ne (Option.some.inj a).symm
theorem clear_any {prog : Program} {w : World} {A : Around} {E : Value → Shared → Prop} {s : Shared} {h₀ : Heap} {L D : Addr} {m : Str → Option Value} {news news' : List (Addr × Obj)} {its : List Value} {n : Nat} {Q : Value → Shared → Prop} (F : Fr h₀ L s.heap m) (N : News h₀ L s.heap news)
  (U : Upd D (listOf its.toArray n) (listOf #[] (if its.length = 0 then n else n + 1)) news news') (hz : its.length < 1000)
  (h : ∀ h', Fr h₀ L h' m → News h₀ L h' news' → Q .none { s with heap := h' }) : wpAny (model prog w) A (call (.builtin "list.clear") [.ref D]) Q E s := by
 refine hide fun Dq kq => ?_; obtain ⟨pre, post, rfl, rfl, a, c⟩ := U.split; refine kq ?_; clear kq Dq
 have z := N (D, listOf its.toArray n) (List.mem_append.mpr (.inr (.head _)))
 refine call_meets PySem.F.slot_list_clear ⟨_, z.1, rfl⟩ PySem.F.entry_list_clear (PySem.F.args_list_clear_1 _) (PySem.AutoSeq1.list_clear_list_0 D its.toArray n (by rw [sizeLine_eq, List.size_toArray]; omega)) ⟨z.1, h _ (F.change (Heap.SameBut.update ..) z.2.1 z.2.2) (N.setIn a c (Heap.SameBut.update ..) ?_)⟩
 have q := PySem.IsL.update z.1 (fun _ => #[])
 rw [q]
 by_cases e : its.length = 0
 ·simp [e]
 ·simp [e, Ne.symm e]
theorem len_tupN {prog : Program} {w : World} {A : Around} {E : Value → Shared → Prop} {s : Shared} {h₀ : Heap} {L T : Addr} {news : List (Addr × Obj)} {vs : List Value} {Q : Value → Shared → Prop} (N : News h₀ L s.heap news) (hT : (T, tupOf vs) ∈ news) (hz : vs.length < 1000)
  (h : Q (.int (vs.length : Nat) (s.toks + 1)) { s with toks := s.toks + 1 + 1 }) : wpAny (model prog w) A (call (.builtin "len") [.ref T]) Q E s :=
 kun_lenT (items := vs.toArray) ⟨_, (N _ hT).1, rfl, 0, rfl⟩ (by simp) (by omega) h
section
local macro_rules | `(tactic| walk_at "call builtin:len") => `(tactic| (k_here; k_dflt (refine len_tupN (by k_asm) (by k_mem) (by omega) ?_)))
local macro_rules | `(tactic| walk_at "call builtin:list.clear") => `(tactic| (k_here; k_dflt (refine' clear_any ?k1 ?k2 ?k3 ?z ?_; (case k1 => k_asm); (case k2 => k_asm); (case k3 => k_upd); (case z => omega); k_whole); intro h' F' N'; (try k_sweep)))
local macro_rules | `(tactic| walk_at "exec For") => `(tactic| (refine Hold.out ?_))
local macro_rules | `(tactic| walk_at "pyIter ref") => `(tactic| (refine Hold.out ?_))
theorem ready_spec {w : World} {dp un : Nat} {fr : List Env} {s : Shared} {Q E : Value → Shared → Prop} {x dx d r : Addr} {h1 h2 h3 h4 : Int} {t1 t2 t3 t4 tp tf : Tok} {np nf : Int} {en rn : Nat} {rv : List Value} {rs : List Str} {ns : List Nd} {cf : Str → Int} {cft : Str → Tok}
 (C : Cx w fr s.heap (dx :: r :: ns.map (·.a))) (hd : dp + 20 < recursionLimit) (hu : un + 300 < cLine)
 (hx : s.heap.get? x = some (instObj 165 dx)) (hdx : s.heap.get? dx = some (dictOf (sdict h1 h2 h3 h4 t1 t2 t3 t4 d (.ref r) np nf tp tf) en)) (hr : s.heap.get? r = some (listOf rv.toArray rn)) (hrs : StrsAre rv rs) (hrk : ∀ y ∈ rs, y ∈ ns.map (·.k)) (hz : rv.length < 100)
 (hD : s.heap.DictOf (PySem.strKind Pg w) d (kvsOf ns)) (hd1 : (d == sysModules) = false) (hkn : (ns.map (·.k)).Nodup)
 (hno : ∀ n ∈ ns, s.heap.get? n.a = some (nodeObj n.v (cf n.k) (cft n.k) n.sa n.da)) (hda : ∀ n ∈ ns, s.heap.get? n.da = some (dictOf [] 0)) (hnod : (dx :: r :: ns.map (·.a)).Nodup) (hout : ∀ b ∈ x :: d :: ns.map (·.da), b ∉ dx :: r :: ns.map (·.a))
 (hret : ∀ (h' : Heap) (tk' : Nat) (T : Addr) (cft' : Str → Tok) (tp' : Tok) (en' rn' : Nat), Keep s.heap h' (dx :: r :: ns.map (·.a)) → s.heap.get? T = none → h'.get? T = some (tupOf rv) → h'.get? dx = some (dictOf (sdict h1 h2 h3 h4 t1 t2 t3 t4 d (.ref r) (np + (rv.length : Nat)) nf tp' tf) en') →
  h'.get? r = some (listOf #[] rn') → (∀ n ∈ ns, h'.get? n.a = some (nodeObj n.v (if n.k ∈ rs then -1 else cf n.k) (cft' n.k) n.sa n.da)) → Q (.ref T) { s with heap := h', toks := tk' }) :
 wpAny (model Pg w) (Ar dp un fr) (call (.ref 127) [.ref x]) Q E s := by
 revert w dp un fr s Q E x dx d r h1 h2 h3 h4 t1 t2 t3 t4 tp tf np nf en rn rv rs ns cf cft
 refine @(pk30 ((((w00, δ), ((δ, s00), δ)), δ), δ) ?_)
 generalize z30 _ _ = Z; generalize Z.1.1.1.1 = w, Z.1.1.1.2.1 = dp, Z.1.1.1.2.2 = un, Z.1.1.2.1.1 = fr, Z.1.1.2.1.2 = s, Z.1.1.2.2.1 = Q, Z.1.1.2.2.2 = E, Z.1.2.1.1.1 = x, Z.1.2.1.1.2 = dx, Z.1.2.1.2.1 = d, Z.1.2.1.2.2 = r, Z.1.2.2.1.1 = h1, Z.1.2.2.1.2 = h2, Z.1.2.2.2.1 = h3, Z.1.2.2.2.2 = h4, Z.2.1.1.1 = t1, Z.2.1.1.2.1 = t2, Z.2.1.1.2.2 = t3, Z.2.1.2.1.1 = t4, Z.2.1.2.1.2 = tp, Z.2.1.2.2.1 = tf, Z.2.1.2.2.2 = np, Z.2.2.1.1.1 = nf, Z.2.2.1.1.2 = en, Z.2.2.1.2.1 = rn, Z.2.2.1.2.2 = rv, Z.2.2.2.1.1 = rs, Z.2.2.2.1.2 = ns, Z.2.2.2.2.1 = cf, Z.2.2.2.2.2 = cft
 intro C hd hu hx hdx hr hrs hrk hz hD hd1 hkn hno hda hnod hout hret
 have C' : Cx w fr s.heap (((dx, dictOf (sdict h1 h2 h3 h4 t1 t2 t3 t4 d (.ref r) np nf tp tf) en) :: (r, listOf rv.toArray rn) :: nks cf cft ns).map (·.1)) := by
  rw [List.map_cons, List.map_cons, nks_keys]; exact C
 have hN : ∀ p ∈ (dx, dictOf (sdict h1 h2 h3 h4 t1 t2 t3 t4 d (.ref r) np nf tp tf) en) :: (r, listOf rv.toArray rn) :: nks cf cft ns, s.heap.get? p.1 = some p.2 := fun p hp => by
  simp only [List.mem_cons] at hp
  rcases hp with rfl | rfl | hp
  ·exact hdx
  ·exact hr
  ·refine hide fun Dq kq => ?_; obtain ⟨n, hn, rfl⟩ := List.mem_map.mp hp; refine kq ?_; clear kq Dq
   exact hno n hn
 k_dflt (refine' enter (news := (dx, dictOf (sdict h1 h2 h3 h4 t1 t2 t3 t4 d (.ref r) np nf tp tf) en) :: (r, listOf rv.toArray rn) :: nks cf cft ns) (binds := [(Str.ofString "self", .ref x)]) ?C ?N ?k6 ?k7 ?k8 ?k9 ?kB ?_ ?c2 ?c3 ?c4 ?c5; walk_at "m_in")
 refine @(pk9 δ ?_); generalize z9 _ _ = Z; generalize Z.1.1.1 = g, Z.1.1.2 = L', Z.1.2.1 = h₁, Z.1.2.2 = base, Z.2.1.1 = p, Z.2.1.2 = loose, Z.2.2.1 = mean, Z.2.2.2.1 = mg, Z.2.2.2.2 = mb; intro BO F N B X T S hlt hL
 have hout' : ∀ b ∈ x :: d :: ns.map (·.da), b ∉ ((dx, dictOf (sdict h1 h2 h3 h4 t1 t2 t3 t4 d (.ref r) np nf tp tf) en) :: (r, listOf rv.toArray rn) :: nks cf cft ns).map (·.1) := fun b hb => by
  rw [List.map_cons, List.map_cons, nks_keys]; exact hout b hb
 have gx := S.out _ _ hx (hout' _ (by k_mem))
 have hDg : g.DictOf (PySem.strKind Pg w) d (kvsOf ns) := by
  refine hide fun Dq kq => ?_; obtain ⟨o, ho, rr⟩ := Heap.dictOf_iff.mp hD; refine kq ?_; clear kq Dq
  exact Heap.dictOf_iff.mpr ⟨o, S.out _ _ ho (hout' _ (by k_mem)), rr⟩
 have hdag : ∀ n ∈ ns, g.get? n.da = some (dictOf [] 0) := fun n hn => S.out _ _ (hda n hn) (hout' _ (.tail _ (.tail _ (List.mem_map_of_mem hn))))
 have ndx : dx ∉ ns.map (·.a) := fun h => (List.nodup_cons.mp hnod).1 (.tail _ h)
 have nr : r ∉ ns.map (·.a) := (List.nodup_cons.mp (List.nodup_cons.mp hnod).2).1
 have ndr : dx ≠ r := fun h => (List.nodup_cons.mp hnod).1 (h ▸ .head _)
 have hna : (ns.map (·.a)).Nodup := (List.nodup_cons.mp (List.nodup_cons.mp hnod).2).2
 k_steps
 rename_i tkA U hA aA hB hC F₂ N₂
 rw [gmap0] at F₂
 have u1 : U ≠ dx := news_ne N₂ (.head _) (.tail _ (.head _)) (fun e => absurd (congrArg Obj.cls e) (by simp))
 have u2 : U ≠ r := news_ne N₂ (.head _) (.tail _ (.tail _ (.head _))) (fun e => absurd (congrArg Obj.cls e) (by simp))
 have u3 : U ∉ ns.map (·.a) := fun hm => by
  refine hide fun Dq kq => ?_; obtain ⟨n, hn, e⟩ := List.mem_map.mp hm; refine kq ?_; clear kq Dq
  exact news_ne N₂ (.head _) (.tail _ (.tail _ (.tail _ (List.mem_map_of_mem (f := nk cf cft) hn)))) (fun e => absurd (congrArg Obj.cls e) (by simp)) e.symm
 refine Hold.mk ?_
 refine For_K ?_ (hE := ?hE)
 k_steps
 ·refine Hold.mk ?_
  refine for_tup (g := g) (T := U) (vs := rv) (fun i m news => E2 fun (u : Option Value) (cft' : Str → Tok) => m = gmap x d U u ∧ news = (U, tupOf rv) :: (dx, dictOf (sdict h1 h2 h3 h4 t1 t2 t3 t4 d (.ref r) np nf tp tf) en) :: (r, listOf rv.toArray rn) :: nks (fun y => if y ∈ rs.take i then -1 else cf y) cft' ns) rfl ?_ F₂ N₂ ⟨none, cft, rfl, ?_⟩ rfl rfl ?_ ?_
  ·rintro i m news ⟨u, cft', rfl, rfl⟩; exact .head _
  ·simp
  ·rintro i v m news h tk I oI hvi ⟨u, cft', rfl, rfl⟩ F₁ N₁ hap
   clear F₂ N₂
   refine hide fun Dq kq => ?_; obtain ⟨y, tv, hy, rfl⟩ := strs_at hrs hvi; refine kq ?_; clear kq Dq
   have hi : i < rs.length := by
    rcases Nat.lt_or_ge i rs.length with z | z
    ·exact z
    ·rw [List.getElem?_eq_none z] at hy; cases hy
   have hye : rs[i] = y := by rw [List.getElem?_eq_getElem hi] at hy; exact Option.some.inj hy
   have htk : rs.take (i + 1) = rs.take i ++ [y] := by rw [← hye]; exact (List.take_append_getElem hi).symm
   refine hide fun Dq kq => ?_; obtain ⟨nn, hnn, hnk⟩ := List.mem_map.mp (hrk y (List.mem_of_getElem? hy)); refine kq ?_; clear kq Dq
   have hv := valueAt_kvs hkn hnn hnk
   have gD := hdag nn hnn
   rw [gmap_set] at F₁
   have q1 := hap _ (.head _); have q2 := hap _ (.tail _ (.head _)); have q3 := hap _ (.tail _ (.tail _ (.head _)))
   have N₃ : News g L' h ((nn.a, nodeObj nn.v (if nn.k ∈ rs.take i then -1 else cf nn.k) (cft' nn.k) nn.sa nn.da) :: (I, oI) :: (U, tupOf rv) :: (dx, dictOf (sdict h1 h2 h3 h4 t1 t2 t3 t4 d (.ref r) np nf tp tf) en) :: (r, listOf rv.toArray rn) :: nks (fun y => if y ∈ rs.take i then -1 else cf y) cft' (others nn.k ns)) := by
    intro p hp
    refine N₁ p ?_
    have := nks_out (cf := fun y => if y ∈ rs.take i then -1 else cf y) (tf := cft') hnn
    exact mem_outK (A := [_, _, _, _]) this p hp
   have o1 := others_off (cf := fun y => if y ∈ rs.take i then -1 else cf y) (tf := cft') hna hnn
   have nm := List.mem_map_of_mem (f := (·.a)) hnn
   have o2 : nn.a ≠ I := hap _ (.tail _ (.tail _ (.tail _ (nks_out hnn _ (.head _)))))
   have o3 : nn.a ≠ U := fun e => u3 (e ▸ nm)
   have o4 : nn.a ≠ dx := fun e => ndx (e ▸ nm)
   have o5 : nn.a ≠ r := fun e => nr (e ▸ nm)
   clear N₁
   k_steps
   rename Heap => hX
   rename (Fr g _ _ _) => F₄
   rename (News g _ _ _) => N₄
   obtain ⟨t₉, N₄⟩ : ∃ t₉, News g L' hX ((nn.a, nodeObj nn.v (-1) t₉ nn.sa nn.da) :: (I, oI) :: (U, tupOf rv) :: (dx, dictOf (sdict h1 h2 h3 h4 t1 t2 t3 t4 d (.ref r) np nf tp tf) en) :: (r, listOf rv.toArray rn) :: nks (fun y => if y ∈ rs.take i then -1 else cf y) cft' (others nn.k ns)) := ⟨_, N₄⟩
   refine ⟨_, _, _, (U, tupOf rv) :: (dx, dictOf (sdict h1 h2 h3 h4 t1 t2 t3 t4 d (.ref r) np nf tp tf) en) :: (r, listOf rv.toArray rn) :: nks (fun y => if y ∈ rs.take (i + 1) then -1 else cf y) (fun z => if z = nn.k then t₉ else cft' z) ns, rfl, F₄, fun p hp => N₄ p ?_, ?_, some (.str y tv), fun z => if z = nn.k then t₉ else cft' z, rfl, rfl⟩
   ·have := nks_in (cf := fun y => if y ∈ rs.take i then -1 else cf y) (cf' := fun y => if y ∈ rs.take (i + 1) then -1 else cf y) (tf := cft') (tf' := fun z => if z = nn.k then t₉ else cft' z) (c' := -1) hkn hnn (by rw [htk, hnk]; simp) (if_pos rfl) (fun n _ hne => ⟨by rw [htk]; rw [hnk] at hne; simp [hne], if_neg hne⟩) p
    exact mem_inK (A := [_, _, _, _]) this hp
   ·intro p hp q hq
    rw [List.mem_singleton.mp hq]
    simp only [List.mem_cons] at hp
    rcases hp with rfl | rfl | rfl | hp
    ·exact q1
    ·exact q2
    ·exact q3
    ·refine hide fun Dq kq => ?_; obtain ⟨n, hn, rfl⟩ := List.mem_map.mp hp; refine kq ?_; clear kq Dq
     have := hap (nk (fun y => if y ∈ rs.take i then -1 else cf y) cft' n) (.tail _ (.tail _ (.tail _ (List.mem_map_of_mem hn))))
     exact this
  ·rintro m news h tk ⟨u, cft', rfl, rfl⟩ F₁ N₁
   clear F₂ N₂
   rw [hrs.length, List.take_length] at N₁
   have z1 := nks_ne (cf := fun y => if y ∈ rs then -1 else cf y) (tf := cft') ndx
   have z2 := nks_ne (cf := fun y => if y ∈ rs then -1 else cf y) (tf := cft') nr
   have ndr' := Ne.symm ndr
   k_steps
   show Q _ _
   rename (Fr g _ _ _) => FX
   rename (News g _ _ _) => NX
   have kp := S.keep FX
   rw [List.map_cons, List.map_cons, nks_keys] at kp
   refine hret _ _ U cft' _ _ _ kp ?_ (NX _ (.head _)).1 (NX _ (.tail _ (.head _))).1 (NX _ (.tail _ (.tail _ (.head _)))).1 ?_
   ·cases e : s.heap.get? U with
    | none => rfl
    | some o =>
     have := S.out _ _ e (by
      rw [List.map_cons, List.map_cons, nks_keys]
      simp only [List.mem_cons, not_or]
      exact ⟨u1, u2, u3⟩)
     rw [(NX _ (.head _)).2.2] at this; cases this
   ·intro n hn
    exact (NX _ (.tail _ (.tail _ (.tail _ (List.mem_map_of_mem (f := nk (fun y => if y ∈ rs then -1 else cf y) cft') hn))))).1
end

end
section
theorem For_H {prog : Program} {w : World} {A : Around} {E : Value → Shared → Prop} {s : Shared} {env : Env} {target : Expr} {body orelse : List Stmt} {Q : Flow → Shared → Prop} {iter : Expr} {pos : Pos}
  (h : wpAny (model prog w) A (eval iter env) (fun xv s₁ => Hold (wpAny (model prog w) A (pyIter xv) (fun it s₂ => LoopX prog w A env target body orelse Q E it s₂) E s₁)) E s)
  (hs : ∀ x, foldedSetIterable iter env x = pure x := by intro _; rfl)
  (hE : PassesOwn (model prog w) A env E := by passes_own) :
  wpAny (model prog w) A (exec (.For target iter body orelse pos) env) Q E s := For_K (wpAny_mono h (fun _ _ x => x.out) fun _ _ x => x) hs hE
structure DoneTo (ss : List Str) (cf cf' : Str → Int) (k : Str) (as : List Str) : Prop where
 own : cf' k = -2
 rest : ∀ y, y ≠ k → cf' y = cf y - (ss.count y : Nat)
 nod : as.Nodup
 mem : ∀ y, y ∈ as ↔ y ∈ ss ∧ cf' y = 0
abbrev dmap (x d D a : Addr) (k s : Value) (u1 u2 : Option Value) : Str → Option Value := fun y =>
 if y = Str.ofString "successor_info" then u1 else if y = Str.ofString "successor" then u2 else if y = Str.ofString "stat" then some s else if y = Str.ofString "nodeinfo" then some (Value.ref a) else if y = Str.ofString "node" then some k
 else if y = Str.ofString "n2i" then some (Value.ref d) else List.lookup y [(Str.ofString "nodes", Value.ref D), (Str.ofString "self", Value.ref x)]
theorem dmap0 {x d D a : Addr} {k s : Value} : (fun y => if y = Str.ofString "stat" then some s else if y = Str.ofString "nodeinfo" then some (Value.ref a) else if y = Str.ofString "node" then some k
 else (fun y => if y = Str.ofString "n2i" then some (Value.ref d) else List.lookup y [(Str.ofString "nodes", Value.ref D), (Str.ofString "self", Value.ref x)]) y) = dmap x d D a k s none none := by
 funext y
 by_cases h : y = Str.ofString "successor_info"
 ·subst h; rfl
 ·by_cases h' : y = Str.ofString "successor"
  ·subst h'; rfl
  ·simp only [dmap, if_neg h, if_neg h']
theorem dmap_set2 {x d D a : Addr} {k s : Value} {u1 u2 : Option Value} {v : Value} : (fun y => if y = Str.ofString "successor" then some v else dmap x d D a k s u1 u2 y) = dmap x d D a k s u1 (some v) := by
 funext y
 by_cases h : y = Str.ofString "successor"
 ·subst h; rfl
 ·simp only [dmap, if_neg h]
theorem dmap_set1 {x d D a : Addr} {k s : Value} {u1 u2 : Option Value} {v : Value} : (fun y => if y = Str.ofString "successor_info" then some v else dmap x d D a k s u1 u2 y) = dmap x d D a k s (some v) u2 := by
 funext y
 by_cases h : y = Str.ofString "successor_info"
 ·subst h; rfl
 ·simp only [dmap, if_neg h]
abbrev cfAt (ss : List Str) (cf : Str → Int) (k : Str) (i : Nat) : Str → Int := fun y => if y = k then -2 else cf y - ((ss.take i).count y : Nat)
section
local macro_rules | `(tactic| walk_at "exec For Name Attribute cons nil") => `(tactic| (refine Hold.out ?_))
theorem done_spec {w : World} {dp un : Nat} {fr : List Env} {s : Shared} {Q E : Value → Shared → Prop} {x dx d r : Addr} {h1 h2 h3 h4 : Int} {t1 t2 t3 t4 tp tf : Tok} {np nf : Int} {en rn : Nat} {rv : List Value} {rs : List Str} {ns : List Nd} {cf : Str → Int} {cft : Str → Tok} {nn : Nd} {tq : Tok}
 (C : Cx w fr s.heap (dx :: r :: ns.map (·.a))) (hd : dp + 20 < recursionLimit) (hu : un + 300 < cLine)
 (hx : s.heap.get? x = some (instObj 165 dx)) (hdx : s.heap.get? dx = some (dictOf (sdict h1 h2 h3 h4 t1 t2 t3 t4 d (.ref r) np nf tp tf) en)) (hr : s.heap.get? r = some (listOf rv.toArray rn)) (hrs : StrsAre rv rs) (hz : rs.length < 100)
 (hD : s.heap.DictOf (PySem.strKind Pg w) d (kvsOf ns)) (hd1 : (d == sysModules) = false) (hkn : (ns.map (·.k)).Nodup)
 (hno : ∀ n ∈ ns, s.heap.get? n.a = some (nodeObj n.v (cf n.k) (cft n.k) n.sa n.da)) (hda : ∀ n ∈ ns, s.heap.get? n.da = some (dictOf [] 0)) (hsu : ∀ n ∈ ns, s.heap.get? n.sa = some (listOf n.sv.toArray n.sn) ∧ StrsAre n.sv n.ss ∧ n.ss.length < 100)
 (hnod : (dx :: r :: ns.map (·.a)).Nodup) (hout : ∀ b ∈ x :: d :: (ns.map (·.da) ++ ns.map (·.sa)), b ∉ dx :: r :: ns.map (·.a))
 (hnn : nn ∈ ns) (hm1 : cf nn.k = -1) (hsk : ∀ y ∈ nn.ss, y ∈ ns.map (·.k) ∧ y ≠ nn.k ∧ (nn.ss.count y : Int) ≤ cf y)
 (hret : ∀ (h' : Heap) (tk' : Nat) (cf' : Str → Int) (cft' : Str → Tok) (tf' : Tok) (en' rn' : Nat) (av : List Value) (as : List Str), Keep s.heap h' (dx :: r :: ns.map (·.a)) → h'.get? dx = some (dictOf (sdict h1 h2 h3 h4 t1 t2 t3 t4 d (.ref r) np (nf + 1) tp tf') en') →
  h'.get? r = some (listOf (rv ++ av).toArray rn') → (∀ n ∈ ns, h'.get? n.a = some (nodeObj n.v (cf' n.k) (cft' n.k) n.sa n.da)) → StrsAre av as → (∀ v ∈ av, v ∈ nn.sv) → as.length ≤ nn.ss.length → DoneTo nn.ss cf cf' nn.k as → Q .none { s with heap := h', toks := tk' }) :
 wpAny (model Pg w) (Ar dp un fr) (call (.ref 148) [.ref x, .str nn.k tq]) Q E s := by
 revert w dp un fr s Q E x dx d r h1 h2 h3 h4 t1 t2 t3 t4 tp tf np nf en rn rv rs ns cf cft nn tq
 refine @(pk32 (((((w00, δ), δ), ((s00, δ), δ)), δ), (δ, (δ, (δ, (⟨δ, δ, δ, δ, δ, δ, δ, δ, δ, δ⟩, δ))))) ?_)
 generalize z32 _ _ = Z; generalize Z.1.1.1.1.1 = w, Z.1.1.1.1.2 = dp, Z.1.1.1.2.1 = un, Z.1.1.1.2.2 = fr, Z.1.1.2.1.1 = s, Z.1.1.2.1.2 = Q, Z.1.1.2.2.1 = E, Z.1.1.2.2.2 = x, Z.1.2.1.1.1 = dx, Z.1.2.1.1.2 = d, Z.1.2.1.2.1 = r, Z.1.2.1.2.2 = h1, Z.1.2.2.1.1 = h2, Z.1.2.2.1.2 = h3, Z.1.2.2.2.1 = h4, Z.1.2.2.2.2 = t1, Z.2.1.1.1.1 = t2, Z.2.1.1.1.2 = t3, Z.2.1.1.2.1 = t4, Z.2.1.1.2.2 = tp, Z.2.1.2.1.1 = tf, Z.2.1.2.1.2 = np, Z.2.1.2.2.1 = nf, Z.2.1.2.2.2 = en, Z.2.2.1.1.1 = rn, Z.2.2.1.1.2 = rv, Z.2.2.1.2.1 = rs, Z.2.2.1.2.2 = ns, Z.2.2.2.1.1 = cf, Z.2.2.2.1.2 = cft, Z.2.2.2.2.1 = nn, Z.2.2.2.2.2 = tq
 intro C hd hu hx hdx hr hrs hz hD hd1 hkn hno hda hsu hnod hout hnn hm1 hsk hret
 have C' : Cx w fr s.heap (((dx, dictOf (sdict h1 h2 h3 h4 t1 t2 t3 t4 d (.ref r) np nf tp tf) en) :: (r, listOf rv.toArray rn) :: nks cf cft ns).map (·.1)) := by
  rw [List.map_cons, List.map_cons, nks_keys]; exact C
 have hN : ∀ p ∈ (dx, dictOf (sdict h1 h2 h3 h4 t1 t2 t3 t4 d (.ref r) np nf tp tf) en) :: (r, listOf rv.toArray rn) :: nks cf cft ns, s.heap.get? p.1 = some p.2 := fun p hp => by
  simp only [List.mem_cons] at hp
  rcases hp with rfl | rfl | hp
  ·exact hdx
  ·exact hr
  ·refine hide fun Dq kq => ?_; obtain ⟨n, hn, rfl⟩ := List.mem_map.mp hp; refine kq ?_; clear kq Dq
   exact hno n hn
 k_dflt (refine' enterVN (news := (dx, dictOf (sdict h1 h2 h3 h4 t1 t2 t3 t4 d (.ref r) np nf tp tf) en) :: (r, listOf rv.toArray rn) :: nks cf cft ns) (vs := [.str nn.k tq]) (binds := fun D => [(Str.ofString "self", .ref x), (Str.ofString "nodes", .ref D)]) ?C ?N ?k6 ?k7 ?k8 ?kP ?kG ?kB ?_ ?c2 ?c3 ?c4 ?c5; walk_at "m_inV")
 refine @(pk10 δ ?_); generalize z10 _ _ = Z; generalize Z.1.1.1 = D, Z.1.1.2 = g, Z.1.2.1 = L', Z.1.2.2.1 = h₁, Z.1.2.2.2 = base, Z.2.1.1 = p, Z.2.1.2 = loose, Z.2.2.1 = mean, Z.2.2.2.1 = mg, Z.2.2.2.2 = mb; intro BO F N B X T S hlt hL
 have hout' : ∀ b ∈ x :: d :: (ns.map (·.da) ++ ns.map (·.sa)), b ∉ ((dx, dictOf (sdict h1 h2 h3 h4 t1 t2 t3 t4 d (.ref r) np nf tp tf) en) :: (r, listOf rv.toArray rn) :: nks cf cft ns).map (·.1) := fun b hb => by
  rw [List.map_cons, List.map_cons, nks_keys]; exact hout b hb
 have gx := S.out _ _ hx (hout' _ (by k_mem))
 have hDg : g.DictOf (PySem.strKind Pg w) d (kvsOf ns) := by
  refine hide fun Dq kq => ?_; obtain ⟨o, ho, rr⟩ := Heap.dictOf_iff.mp hD; refine kq ?_; clear kq Dq
  exact Heap.dictOf_iff.mpr ⟨o, S.out _ _ ho (hout' _ (by k_mem)), rr⟩
 have hdag : ∀ n ∈ ns, g.get? n.da = some (dictOf [] 0) := fun n hn => S.out _ _ (hda n hn) (hout' _ (.tail _ (.tail _ (List.mem_append_left _ (List.mem_map_of_mem hn)))))
 have hsag : ∀ n ∈ ns, g.get? n.sa = some (listOf n.sv.toArray n.sn) := fun n hn => S.out _ _ (hsu n hn).1 (hout' _ (.tail _ (.tail _ (List.mem_append_right _ (List.mem_map_of_mem hn)))))
 have ndx : dx ∉ ns.map (·.a) := fun h => (List.nodup_cons.mp hnod).1 (.tail _ h)
 have nr : r ∉ ns.map (·.a) := (List.nodup_cons.mp (List.nodup_cons.mp hnod).2).1
 have ndr : dx ≠ r := fun h => (List.nodup_cons.mp hnod).1 (h ▸ .head _)
 have hna : (ns.map (·.a)).Nodup := (List.nodup_cons.mp (List.nodup_cons.mp hnod).2).2
 have d1 : dx ≠ D := Nat.ne_of_lt (hlt _ (.head _))
 have d2 : r ≠ D := Nat.ne_of_lt (hlt _ (.tail _ (.head _)))
 have d3 : D ∉ ns.map (·.a) := fun hm => by
  refine hide fun Dq kq => ?_; obtain ⟨n, hn, e⟩ := List.mem_map.mp hm; refine kq ?_; clear kq Dq
  exact Nat.ne_of_lt (hlt _ (.tail _ (.tail _ (List.mem_map_of_mem (f := nk cf cft) hn)))) e
 have hv := valueAt_kvs hkn hnn rfl
 have gD := hdag nn hnn
 have gS := hsag nn hnn
 have nm := List.mem_map_of_mem (f := (·.a)) hnn
 k_steps
 rename (Fr g _ _ _) => F₂
 rename (News g _ _ _) => N₂
 refine For_H ?_ (hE := ?hE)
 k_steps
 ·refine Hold.mk ?_
  refine for_tup (g := g) (T := D) (vs := [.str nn.k tq]) (fun i m news => (i = 0 ∧ m = _ ∧ news = (D, tupOf [.str nn.k tq]) :: (dx, dictOf (sdict h1 h2 h3 h4 t1 t2 t3 t4 d (.ref r) np nf tp tf) en) :: (r, listOf rv.toArray rn) :: nks cf cft ns) ∨
   (i = 1 ∧ E9 fun u1 u2 tf' en' rn' cf' cft' av as => A6 (m = dmap x d D nn.a (.str nn.k tq) (.int (-1) (cft nn.k)) u1 u2) (news = (D, tupOf [.str nn.k tq]) :: (dx, dictOf (sdict h1 h2 h3 h4 t1 t2 t3 t4 d (.ref r) np (nf + 1) tp tf') en') :: (r, listOf (rv ++ av).toArray rn') :: nks cf' cft' ns) (StrsAre av as) ((∀ v ∈ av, v ∈ nn.sv)) (as.length ≤ nn.ss.length) (DoneTo nn.ss cf cf' nn.k as))) rfl ?_ F₂ N₂ (.inl ⟨rfl, rfl, rfl⟩) rfl rfl ?_ ?_
  ·rintro i m news (⟨rfl, rfl, rfl⟩ | ⟨rfl, u1, u2, tf', en', rn', cf', cft', av, as, rfl, rfl, _⟩)
   ·exact .head _
   ·exact .head _
  ·rintro i v m news h tk₁ I oI hvi (⟨rfl, rfl, rfl⟩ | ⟨rfl, _⟩) F₁ N₁ hap
   case inr => cases hvi
   clear F₂ N₂
   have hvi : Value.str nn.k tq = v := Option.some.inj hvi
   subst hvi
   have N₃ : News g L' h ((nn.a, nodeObj nn.v (-1) (cft nn.k) nn.sa nn.da) :: (I, oI) :: (D, tupOf [.str nn.k tq]) :: (dx, dictOf (sdict h1 h2 h3 h4 t1 t2 t3 t4 d (.ref r) np nf tp tf) en) :: (r, listOf rv.toArray rn) :: nks cf cft (others nn.k ns)) := by
    intro p hp
    refine N₁ p ?_
    have := nks_out (cf := cf) (tf := cft) hnn
    rw [hm1] at this
    exact mem_outK (A := [_, _, _, _]) this p hp
   have q1 := hap _ (.head _); have q2 := hap _ (.tail _ (.head _)); have q3 := hap _ (.tail _ (.tail _ (.head _)))
   have o1 := others_off (cf := cf) (tf := cft) hna hnn
   have o2 : nn.a ≠ I := hap _ (.tail _ (.tail _ (.tail _ (nks_out hnn _ (.head _)))))
   have o3 : nn.a ≠ D := fun e => d3 (e ▸ nm)
   have o4 : nn.a ≠ dx := fun e => ndx (e ▸ nm)
   have o5 : nn.a ≠ r := fun e => nr (e ▸ nm)
   clear N₁
   k_steps
   rename (Fr g _ _ _) => F₄
   rename (News g _ _ _) => N₄
   rename Heap => h₄
   rw [dmap0] at F₄
   refine Hold.mk ?_
   refine For_H ?_ (hE := ?hE2)
   k_steps
   ·refine Hold.mk ?_
    have N₅ : News g L' h₄ ((I, oI) :: (D, tupOf [.str nn.k tq]) :: (dx, dictOf (sdict h1 h2 h3 h4 t1 t2 t3 t4 d (.ref r) np nf tp tf) en) :: (r, listOf (rv ++ []).toArray rn) :: nks (cfAt nn.ss cf nn.k 0) (fun z => if z = nn.k then 239 else cft z) ns) := by
     intro p hp
     refine N₄ p ?_
     rw [List.append_nil] at hp
     have := nks_in (cf := cf) (cf' := cfAt nn.ss cf nn.k 0) (c' := -2) (t' := 239) (tf := cft) (tf' := fun z => if z = nn.k then 239 else cft z) hkn hnn (if_pos rfl) (if_pos rfl) (fun n _ hne => ⟨by simp [cfAt, hne], if_neg hne⟩) p
     exact mem_inK (A := [_, _, _, _]) this hp
    clear N₄
    refine for_base (g := g) (fun i m news => E6 fun (u1 u2 : Option Value) (rn' : Nat) (cft' : Str → Tok) (av : List Value) (as : List Str) => A7 (m = dmap x d D nn.a (.str nn.k tq) (.int (-1) (cft nn.k)) u1 u2) (news = (I, oI) :: (D, tupOf [.str nn.k tq]) :: (dx, dictOf (sdict h1 h2 h3 h4 t1 t2 t3 t4 d (.ref r) np nf tp tf) en) :: (r, listOf (rv ++ av).toArray rn') :: nks (cfAt nn.ss cf nn.k i) cft' ns) (StrsAre av as) ((∀ v ∈ av, v ∈ nn.sv)) (as.Nodup) (as.length ≤ i) ((∀ y, y ∈ as ↔ y ∈ nn.ss.take i ∧ cfAt nn.ss cf nn.k i y = 0))) rfl (PySem.IsL.isList (n := nn.sn) gS) F₄ N₅ ⟨none, none, rn, _, [], [], rfl, rfl, .nil, (fun _ h => nomatch h), List.nodup_nil, Nat.le_refl _, fun y => by simp⟩ rfl rfl ?_ ?_
    ·rintro i v m news h tk₂ J oJ hvi ⟨u1, u2, rn', cft', av, as, rfl, rfl, hav, hsub, hand, hal, hmem⟩ F₅ N₆ hap₂
     clear F₄ N₅
     refine hide fun Dq kq => ?_; obtain ⟨y, tv, hy, rfl⟩ := strs_at (hsu nn hnn).2.1 hvi; refine kq ?_; clear kq Dq
     have hi : i < nn.ss.length := by
      rcases Nat.lt_or_ge i nn.ss.length with z | z
      ·exact z
      ·rw [List.getElem?_eq_none z] at hy; cases hy
     have hye : nn.ss[i] = y := by rw [List.getElem?_eq_getElem hi] at hy; exact Option.some.inj hy
     have htk : nn.ss.take (i + 1) = nn.ss.take i ++ [y] := by rw [← hye]; exact (List.take_append_getElem hi).symm
     have hyk := hsk y (List.mem_of_getElem? hy)
     refine hide fun Dq kq => ?_; obtain ⟨mm, hmm, hmk⟩ := List.mem_map.mp hyk.1; refine kq ?_; clear kq Dq
     have hv₂ := valueAt_kvs hkn hmm hmk
     have gD₂ := hdag mm hmm
     rw [dmap_set2] at F₅
     have hcy : cfAt nn.ss cf nn.k i mm.k = cf y - ((nn.ss.take i).count y : Nat) := by rw [hmk]; exact if_neg hyk.2.1
     have hcy' : cfAt nn.ss cf nn.k (i + 1) mm.k = cf y - ((nn.ss.take i).count y : Nat) - 1 := by rw [hmk]; simp only [cfAt, if_neg hyk.2.1, htk, List.count_append]; simp; omega
     have hoth : ∀ z, z ≠ y → cfAt nn.ss cf nn.k (i + 1) z = cfAt nn.ss cf nn.k i z := fun z hz => by
      simp only [cfAt, htk, List.count_append]
      have : List.count z [y] = 0 := by simp [Ne.symm hz]
      rw [this, Nat.add_zero]
     have hge : ((nn.ss.take i).count y : Int) + 1 ≤ cf y := by
      have h1 : (nn.ss.take (i + 1)).count y ≤ nn.ss.count y := List.Sublist.count_le _ (List.take_sublist ..)
      rw [htk, List.count_append] at h1
      have h2 := hyk.2.2
      simp at h1; omega
     have nm₂ := List.mem_map_of_mem (f := (·.a)) hmm
     have N₇ : News g L' h ((mm.a, nodeObj mm.v (cf y - ((nn.ss.take i).count y : Nat)) (cft' mm.k) mm.sa mm.da) :: (J, oJ) :: (I, oI) :: (D, tupOf [.str nn.k tq]) :: (dx, dictOf (sdict h1 h2 h3 h4 t1 t2 t3 t4 d (.ref r) np nf tp tf) en) :: (r, listOf (rv ++ av).toArray rn') :: nks (cfAt nn.ss cf nn.k i) cft' (others mm.k ns)) := by
      intro p hp
      refine N₆ p ?_
      have := nks_out (cf := cfAt nn.ss cf nn.k i) (tf := cft') hmm
      rw [hcy] at this
      exact mem_outK (A := [_, _, _, _, _]) this p hp
     have p1 := hap₂ _ (.head _); have p2 := hap₂ _ (.tail _ (.head _)); have p3 := hap₂ _ (.tail _ (.tail _ (.head _))); have p4 := hap₂ _ (.tail _ (.tail _ (.tail _ (.head _))))
     have m0 := others_off (cf := cfAt nn.ss cf nn.k i) (tf := cft') hna hmm
     have m1 : mm.a ≠ J := hap₂ _ (.tail _ (.tail _ (.tail _ (.tail _ (nks_out hmm _ (.head _))))))
     have m2 : mm.a ≠ I := hap _ (.tail _ (.tail _ (.tail _ (nks_out hmm _ (.head _)))))
     have m3 : mm.a ≠ D := fun e => d3 (e ▸ nm₂)
     have m4 : mm.a ≠ dx := fun e => ndx (e ▸ nm₂)
     have m5 : mm.a ≠ r := fun e => nr (e ▸ nm₂)
     have m6 := others_ne (cf := cfAt nn.ss cf nn.k i) (tf := cft') (k := mm.k) nr
     have hz2 : (rv ++ av).length < 1000 := by rw [List.length_append, hrs.length, hav.length]; have := (hsu nn hnn).2.2; omega
     have pk : ∀ (t₉ : Tok) (ro : Obj) (p : Addr × Obj), p ∈ [(J, oJ)] ++ ((I, oI) :: (D, tupOf [.str nn.k tq]) :: (dx, dictOf (sdict h1 h2 h3 h4 t1 t2 t3 t4 d (.ref r) np nf tp tf) en) :: (r, ro) :: nks (cfAt nn.ss cf nn.k (i + 1)) (fun z => if z = mm.k then t₉ else cft' z) ns) →
       p ∈ (mm.a, nodeObj mm.v (cf y - ((nn.ss.take i).count y : Nat) - 1) t₉ mm.sa mm.da) :: (J, oJ) :: (I, oI) :: (D, tupOf [.str nn.k tq]) :: (dx, dictOf (sdict h1 h2 h3 h4 t1 t2 t3 t4 d (.ref r) np nf tp tf) en) :: (r, ro) :: nks (cfAt nn.ss cf nn.k i) cft' (others mm.k ns) := by
      intro t₉ ro p hp
      have := nks_in (cf := cfAt nn.ss cf nn.k i) (cf' := cfAt nn.ss cf nn.k (i + 1)) (t' := t₉) (tf := cft') (tf' := fun z => if z = mm.k then t₉ else cft' z) hkn hmm hcy' (if_pos rfl) (fun n _ hne => ⟨hoth _ (by rw [← hmk]; exact hne), if_neg hne⟩) p
      exact mem_inK (A := [_, _, _, _, _]) this hp
     have pa : ∀ (t₉ : Tok) (ro : Obj), ∀ p ∈ (I, oI) :: (D, tupOf [.str nn.k tq]) :: (dx, dictOf (sdict h1 h2 h3 h4 t1 t2 t3 t4 d (.ref r) np nf tp tf) en) :: (r, ro) :: nks (cfAt nn.ss cf nn.k (i + 1)) (fun z => if z = mm.k then t₉ else cft' z) ns, ∀ q ∈ [(J, oJ)], p.1 ≠ q.1 := by
      intro t₉ ro p hp q hq
      rw [List.mem_singleton.mp hq]
      revert p
      refine all_cons p1 (all_cons p2 (all_cons p3 (all_cons p4 fun p hp => ?_)))
      ·refine hide fun Dq kq => ?_; obtain ⟨n, hn, rfl⟩ := List.mem_map.mp hp; refine kq ?_; clear kq Dq
       have := hap₂ (nk (cfAt nn.ss cf nn.k i) cft' n) (.tail _ (.tail _ (.tail _ (.tail _ (List.mem_map_of_mem hn)))))
       exact this
     have hnin : y ∉ as := fun hy' => by
      have := ((hmem y).mp hy').2
      rw [← hmk, hcy] at this; omega
     have hmemz : ∀ z, z ≠ y → (z ∈ as ↔ z ∈ nn.ss.take (i + 1) ∧ cfAt nn.ss cf nn.k (i + 1) z = 0) := fun z hz => by
      rw [hmem z, htk, List.mem_append, hoth z hz]
      simp [hz]
     clear N₆
     k_steps
     ·rename (_ - 1 = 0) => h0
      rename Heap => hX
      rename (Fr g _ _ _) => FX
      rename (News g _ _ _) => NX
      rw [dmap_set1] at FX
      obtain ⟨t₉, NX⟩ : ∃ t₉, News g L' hX ((mm.a, nodeObj mm.v (cf y - ((nn.ss.take i).count y : Nat) - 1) t₉ mm.sa mm.da) :: (J, oJ) :: (I, oI) :: (D, tupOf [.str nn.k tq]) :: (dx, dictOf (sdict h1 h2 h3 h4 t1 t2 t3 t4 d (.ref r) np nf tp tf) en) :: (r, listOf (rv ++ av ++ [Value.str y tv]).toArray (rn' + 1)) :: nks (cfAt nn.ss cf nn.k i) cft' (others mm.k ns)) := ⟨_, NX⟩
      rw [List.append_assoc] at NX
      refine ⟨_, _, _, (I, oI) :: (D, tupOf [.str nn.k tq]) :: (dx, dictOf (sdict h1 h2 h3 h4 t1 t2 t3 t4 d (.ref r) np nf tp tf) en) :: (r, listOf (rv ++ (av ++ [Value.str y tv])).toArray (rn' + 1)) :: nks (cfAt nn.ss cf nn.k (i + 1)) (fun z => if z = mm.k then t₉ else cft' z) ns, rfl, FX, fun p hp => NX p (pk t₉ _ p hp), pa t₉ _, _, _, _, _, av ++ [Value.str y tv], as ++ [y], rfl, rfl, strs_cat hav (.cons _ _ .nil), ?_, ?_, ?_, ?_⟩
      ·intro v hv
       rcases List.mem_append.mp hv with hv | hv
       ·exact hsub v hv
       ·rw [List.mem_singleton.mp hv]; exact List.mem_of_getElem? hvi
      ·rw [List.nodup_append]
       exact ⟨hand, by simp, fun a ha b hb e => hnin (by rw [← List.mem_singleton.mp hb, ← e]; exact ha)⟩
      ·simp; omega
      ·intro z
       by_cases hz : z = y
       ·subst hz
        have : cfAt nn.ss cf nn.k (i + 1) z = 0 := by rw [← hmk, hcy']; exact h0
        simp [htk, this]
       ·rw [List.mem_append, ← hmemz z hz]; simp [hz]
     ·rename (_ - 1 ≠ 0) => h0
      rename Heap => hX
      rename (Fr g _ _ _) => FX
      rename (News g _ _ _) => NX
      rw [dmap_set1] at FX
      obtain ⟨t₉, NX⟩ : ∃ t₉, News g L' hX ((mm.a, nodeObj mm.v (cf y - ((nn.ss.take i).count y : Nat) - 1) t₉ mm.sa mm.da) :: (J, oJ) :: (I, oI) :: (D, tupOf [.str nn.k tq]) :: (dx, dictOf (sdict h1 h2 h3 h4 t1 t2 t3 t4 d (.ref r) np nf tp tf) en) :: (r, listOf (rv ++ av).toArray rn') :: nks (cfAt nn.ss cf nn.k i) cft' (others mm.k ns)) := ⟨_, NX⟩
      refine ⟨_, _, _, (I, oI) :: (D, tupOf [.str nn.k tq]) :: (dx, dictOf (sdict h1 h2 h3 h4 t1 t2 t3 t4 d (.ref r) np nf tp tf) en) :: (r, listOf (rv ++ av).toArray rn') :: nks (cfAt nn.ss cf nn.k (i + 1)) (fun z => if z = mm.k then t₉ else cft' z) ns, rfl, FX, fun p hp => NX p (pk t₉ _ p hp), pa t₉ _, _, _, _, _, av, as, rfl, rfl, hav, hsub, hand, by omega, ?_⟩
      intro z
      by_cases hz : z = y
      ·subst hz
       have : cfAt nn.ss cf nn.k (i + 1) z ≠ 0 := by rw [← hmk, hcy']; exact h0
       simp [hnin, this]
      ·exact hmemz z hz
    ·rintro m news h tk₂ ⟨u1, u2, rn', cft', av, as, rfl, rfl, hav, hsub, hand, hal, hmem⟩ F₅ N₆
     clear F₄ N₅
     rw [(hsu nn hnn).2.1.length] at hmem N₆
     have e1 := Ne.symm q2
     have e2 := Ne.symm ndr
     have e3 := nks_ne (cf := cfAt nn.ss cf nn.k nn.ss.length) (tf := cft') ndx
     k_steps
     rename (Fr g _ _ _) => FX
     rename (News g _ _ _) => NX
     rw [(hsu nn hnn).2.1.length] at hal
     refine ⟨_, _, _, _, rfl, FX, NX, ?_, .inr ⟨trivial, u1, u2, _, _, rn', _, cft', av, as, rfl, rfl, hav, hsub, hal, ?_⟩⟩
     ·intro p hp q hq
      rw [List.mem_singleton.mp hq]
      simp only [List.mem_cons] at hp
      rcases hp with rfl | rfl | rfl | hp
      ·exact q1
      ·exact q2
      ·exact q3
      ·refine hide fun Dq kq => ?_; obtain ⟨n, hn, rfl⟩ := List.mem_map.mp hp; refine kq ?_; clear kq Dq
       have := hap (nk cf cft n) (.tail _ (.tail _ (.tail _ (List.mem_map_of_mem hn))))
       exact this
     ·refine ⟨if_pos rfl, fun y hy => ?_, hand, ?_⟩
      ·simp only [if_neg hy, List.take_length]
      ·intro y
       have := hmem y
       rw [List.take_length] at this
       exact this
  ·rintro m news h tk₁ (⟨z, _⟩ | ⟨_, u1, u2, tf', en', rn', cf', cft', av, as, rfl, rfl, hav, hsub, hal, hdo⟩) F₁ N₁
   ·cases z
   ·clear F₂ N₂
    k_steps
    show Q _ _
    have kp := S.keep F₁
    rw [List.map_cons, List.map_cons, nks_keys] at kp
    exact hret _ _ cf' cft' tf' en' rn' av as kp (N₁ _ (.tail _ (.head _))).1 (N₁ _ (.tail _ (.tail _ (.head _)))).1 (fun n hn => (N₁ _ (.tail _ (.tail _ (.tail _ (List.mem_map_of_mem (f := nk cf' cft') hn))))).1) hav hsub hal hdo
end

end
section
theorem repr_len (c : Nat) (hc : c ∈ works) : (reprText (ltr c)).length ≤ 12 := by
 refine StrLaws.reprText_len (ltr c) fun z hz => ?_
 have : z = c := by simpa using hz
 subst this
 simp only [works, List.mem_cons, List.not_mem_nil, or_false] at hc
 rcases hc with rfl | rfl | rfl | rfl | rfl <;> decide
section
local macro_rules | `(tactic| walk_at "leaving ref") => `(tactic| (refine Hold.out ?_))
local macro_rules | `(tactic| walk_at "pyReprObj str") => `(tactic| (refine Hold.out ?_))
theorem done_raise {w : World} {dp un : Nat} {fr : List Env} {s : Shared} {Q E : Value → Shared → Prop} {x dx d r : Addr} {h1 h2 h3 h4 : Int} {t1 t2 t3 t4 tp tf : Tok} {np nf : Int} {en : Nat} {ns : List Nd} {nn : Nd} {c : Int} {ct tq : Tok}
 (C : Cx w fr s.heap []) (hd : dp + 20 < recursionLimit) (hu : un + 300 < cLine)
 (hx : s.heap.get? x = some (instObj 165 dx)) (hdx : s.heap.get? dx = some (dictOf (sdict h1 h2 h3 h4 t1 t2 t3 t4 d (.ref r) np nf tp tf) en))
 (hD : s.heap.DictOf (PySem.strKind Pg w) d (kvsOf ns)) (hd1 : (d == sysModules) = false) (hkn : (ns.map (·.k)).Nodup)
 (hnn : nn ∈ ns) (hno : s.heap.get? nn.a = some (nodeObj nn.v c ct nn.sa nn.da)) (hda : s.heap.get? nn.da = some (dictOf [] 0)) (hc : 0 ≤ c) (hw : ∃ c ∈ works, nn.k = ltr c)
 (hexc : ∀ (h' : Heap) (tk' : Nat) (e T : Addr), KeepW fr s.heap h' [] → s.heap.get? e = none → s.heap.get? T = none → Flown h' e T (.type "ValueError") → E (.ref e) { s with heap := h', toks := tk' }) :
 wpAny (model Pg w) (Ar dp un fr) (call (.ref 148) [.ref x, .str nn.k tq]) Q E s := by
 revert w dp un fr s Q E x dx d r h1 h2 h3 h4 t1 t2 t3 t4 tp tf np nf en ns nn c ct tq
 refine @(pk29 ((((w00, δ), ((δ, s00), δ)), δ), (δ, (δ, ((⟨δ, δ, δ, δ, δ, δ, δ, δ, δ, δ⟩, δ), δ)))) ?_)
 generalize z29 _ _ = Z; generalize Z.1.1.1.1 = w, Z.1.1.1.2.1 = dp, Z.1.1.1.2.2 = un, Z.1.1.2.1.1 = fr, Z.1.1.2.1.2 = s, Z.1.1.2.2.1 = Q, Z.1.1.2.2.2 = E, Z.1.2.1.1 = x, Z.1.2.1.2.1 = dx, Z.1.2.1.2.2 = d, Z.1.2.2.1.1 = r, Z.1.2.2.1.2 = h1, Z.1.2.2.2.1 = h2, Z.1.2.2.2.2 = h3, Z.2.1.1.1 = h4, Z.2.1.1.2.1 = t1, Z.2.1.1.2.2 = t2, Z.2.1.2.1.1 = t3, Z.2.1.2.1.2 = t4, Z.2.1.2.2.1 = tp, Z.2.1.2.2.2 = tf, Z.2.2.1.1.1 = np, Z.2.2.1.1.2 = nf, Z.2.2.1.2.1 = en, Z.2.2.1.2.2 = ns, Z.2.2.2.1.1 = nn, Z.2.2.2.1.2 = c, Z.2.2.2.2.1 = ct, Z.2.2.2.2.2 = tq
 intro C hd hu hx hdx hD hd1 hkn hnn hno hda hc hw hexc
 k_dflt (refine' enterV (news := []) (vs := [.str nn.k tq]) (binds := fun D => [(Str.ofString "self", .ref x), (Str.ofString "nodes", .ref D)]) ?C ?N ?k6 ?k7 ?k8 ?kP ?kG ?kB ?_ ?c2 ?c3 ?c4 ?c5; walk_at "m_inV")
 refine @(pk10 δ ?_); generalize z10 _ _ = Z; generalize Z.1.1.1 = D, Z.1.1.2 = g, Z.1.2.1 = L', Z.1.2.2.1 = h₁, Z.1.2.2.2 = base, Z.2.1.1 = p, Z.2.1.2 = loose, Z.2.2.1 = mean, Z.2.2.2.1 = mg, Z.2.2.2.2 = mb; intro BO F N B X T S hlt hL
 have gx := S.out _ _ hx nN
 have gdx := S.out _ _ hdx nN
 have hDg : g.DictOf (PySem.strKind Pg w) d (kvsOf ns) := by
  refine hide fun Dq kq => ?_; obtain ⟨o, ho, rr⟩ := Heap.dictOf_iff.mp hD; refine kq ?_; clear kq Dq
  exact Heap.dictOf_iff.mpr ⟨o, S.out _ _ ho nN, rr⟩
 have hv := valueAt_kvs hkn hnn rfl
 have gD := S.out _ _ hda nN
 have gN := S.out _ _ hno nN
 k_steps
 ·have hrl : (reprText nn.k).length ≤ 12 := by
   refine hide fun Dq kq => ?_; obtain ⟨c, h1, h2⟩ := hw; refine kq ?_; clear kq Dq
   rw [h2]; exact repr_len c h1
  have hrl' : (reprText nn.k).length ≤ sizeLine := by rw [sizeLine_eq]; omega
  refine Hold.mk (pyReprObj_str (hx := hrl') ?_)
  generalize reprText nn.k = ry at *
  (try dsimp only)
  walk1
  (try dsimp only)
  have l1 : (Str.empty ++ Str.ofString "node " ++ ry).length ≤ 20 := by
   have : (Str.empty ++ Str.ofString "node " ++ ry).length = 5 + ry.length := by
    show ((Str.empty ++ Str.ofString "node ").cps ++ ry.cps).size = _
    rw [Array.size_append]; rfl
   omega
  generalize Str.empty ++ Str.ofString "node " ++ ry = rz at *
  refine ⟨by rw [sizeLine_eq]; omega, ?_⟩
  walk1
  (try dsimp only)
  walk1
  (try dsimp only)
  have l2 : (rz ++ Str.ofString " was not passed out (still not ready)").length ≤ 100 := by
   have : (rz ++ Str.ofString " was not passed out (still not ready)").length = rz.length + 37 := by
    show (rz.cps ++ (Str.ofString " was not passed out (still not ready)").cps).size = _
    rw [Array.size_append]; rfl
   omega
  generalize rz ++ Str.ofString " was not passed out (still not ready)" = rw at *
  refine ⟨by rw [sizeLine_eq]; omega, ?_⟩
  k_steps
  refine Hold.mk ?_
  rename (Heap.NewExc _ _ _ _) => hxx
  rename (Fr g L' _ _) => FX
  have hNs := fr_ext FX hxx.keeps
  refine hide fun Dq kq => ?_; obtain ⟨ob, tt, he, hcl, hdd⟩ := hxx.there; refine kq ?_; clear kq Dq
  have hfun : Heap.FunFrames _ base (envOf (Str.ofString "TopologicalSorter.done") (fnS w 148) L' 148 (.ref 147) :: fr) := (pushX B hNs rfl rfl).frames
  refine leave_X (fr := fr) (base := base) rfl hfun rfl he hdd rfl fun h' T' z f => ?_
  rw [hcl] at z f
  have old : ∀ b o, s.heap.get? b = some o → g.get? b = some o := fun b o e => S.out b o e nN
  have nofr : ∀ b o, s.heap.get? b = some o → _ := fun b o e => FX.keep b o (old b o e)
  refine hexc _ _ _ T' ?_ ?_ ?_ f
  ·intro b o e _
   have hb := hxx.keeps b o (nofr b o e)
   have hbe : b ≠ _ := fun q => by rw [q] at e; have := nofr _ o e; rw [hxx.new] at this; cases this
   by_cases ho : Off fr b
   ·refine ⟨o.slots, z.keep b o hbe (fun hm => ?_) hb, fun _ => rfl⟩
    refine hide fun Dq kq => ?_; obtain ⟨ev, hev, hq⟩ := List.mem_filterMap.mp hm; refine kq ?_; clear kq Dq
    rcases List.mem_cons.mp hev with rfl | hev
    ·have : L' = b := Option.some.inj hq
     subst this
     have := old _ o e
     rw [Heap.get?_none_of_le FX.above] at this; cases this
    ·exact ho ev hev hq
   ·obtain ⟨sl, q⟩ := z.slots b o hbe hb
    exact ⟨sl, q, fun y => absurd y ho⟩
  ·cases e : s.heap.get? _ with
   | none => rfl
   | some o => have := nofr _ o e; rw [hxx.new] at this; cases this
  ·cases e : s.heap.get? T' with
   | none => rfl
   | some o => have := hxx.keeps _ _ (nofr _ o e); rw [z.new] at this; cases this
 ·omega
end

end
section
def freeB (ps : List (Nat × Nat)) (dn : List Nat) (c : Nat) : Bool := works.contains c && !dn.contains c && ps.all fun p => p.1 != c || dn.contains p.2
theorem freeB_iff {ps : List (Nat × Nat)} {dn : List Nat} {c : Nat} : freeB ps dn c = true ↔ c ∈ works ∧ c ∉ dn ∧ ∀ p ∈ ps, p.1 = c → p.2 ∈ dn := by
 simp only [freeB, Bool.and_eq_true, List.contains_iff_mem, Bool.not_eq_true', List.all_eq_true, Bool.or_eq_true, bne_iff_ne, ne_eq]
 constructor
 ·rintro hJq; refine hide fun Dq kq => ?_; obtain ⟨⟨a, b⟩, h⟩ := hJq; refine kq ?_; clear kq Dq
  refine ⟨a, fun z => ?_, fun p hp e => ?_⟩
  ·rw [List.contains_iff_mem.mpr z] at b; exact nomatch b
  ·rcases h p hp with n | n
   ·exact absurd e n
   ·exact n
 ·rintro hJq; refine hide fun Dq kq => ?_; obtain ⟨a, b, h⟩ := hJq; refine kq ?_; clear kq Dq
  refine ⟨⟨a, ?_⟩, fun p hp => ?_⟩
  ·cases q : dn.contains c with
   | false => rfl
   | true => exact absurd (List.contains_iff_mem.mp q) b
  ·by_cases e : p.1 = c
   ·exact .inr (h p hp e)
   ·exact .inl e
def cnt (ps : List (Nat × Nat)) (dn : List Nat) (c : Nat) : Nat := ps.countP fun p => p.1 = c ∧ p.2 ∉ dn
structure TS (ps : List (Nat × Nat)) (dn outs rs : List Nat) (np nf : Int) (cf : Str → Int) : Prop where
 sub : ∀ c ∈ dn, c ∈ works
 closed : ∀ p ∈ ps, p.1 ∈ dn → p.2 ∈ dn
 cfd : ∀ c ∈ dn, cf (ltr c) = -2
 cfo : ∀ c ∈ outs, cf (ltr c) = -1
 cfw : ∀ c ∈ works, c ∉ dn → c ∉ outs → cf (ltr c) = (cnt ps dn c : Nat)
 ofree : ∀ c ∈ outs, freeB ps dn c = true
 onod : outs.Nodup
 rnod : rs.Nodup
 rmem : ∀ c, c ∈ rs ↔ freeB ps dn c = true ∧ c ∉ outs
 num : np = nf + (outs.length : Nat)
theorem nodup_of_map {α β : Type} {f : α → β} : ∀ {l : List α}, (l.map f).Nodup → l.Nodup
 | [], _ => List.nodup_nil
 | a :: l, h => by
  rw [List.map_cons, List.nodup_cons] at h
  exact List.nodup_cons.mpr ⟨fun z => h.1 (List.mem_map_of_mem z), nodup_of_map h.2⟩
theorem map_ltr_mem {c : Nat} {l : List Nat} : ltr c ∈ l.map ltr ↔ c ∈ l := by
 constructor
 ·intro h
  refine hide fun Dq kq => ?_; obtain ⟨z, hz, e⟩ := List.mem_map.mp h; refine kq ?_; clear kq Dq
  rw [← ltr_inj e]; exact hz
 ·exact fun h => List.mem_map_of_mem h
theorem cnt_zero {ps : List (Nat × Nat)} {dn : List Nat} {c : Nat} : cnt ps dn c = 0 ↔ ∀ p ∈ ps, p.1 = c → p.2 ∈ dn := by
 unfold cnt
 rw [List.countP_eq_zero]
 constructor
 ·intro h p hp e
  have := h p hp
  simp only [decide_eq_true_eq, not_and] at this
  exact Classical.byContradiction fun z => this e z
 ·intro h p hp
  simp only [decide_eq_true_eq, not_and]
  intro e z
  exact z (h p hp e)
theorem TS.start {ps : List (Nat × Nat)} {ns : List Nd} (h : NsFor ps ns) {cf : Str → Int} (hc : ∀ n ∈ ns, cf n.k = n.c) : TS ps [] [] (works.filter (freeB ps [])) 0 0 cf where
 sub := fun _ h => nomatch h
 closed := fun _ _ h => nomatch h
 cfd := fun _ h => nomatch h
 cfo := fun _ h => nomatch h
 cfw := fun c hc' _ _ => by
  obtain ⟨n, hn, e⟩ := List.mem_map.mp (show ltr c ∈ ns.map (·.k) from by rw [h.keys]; exact List.mem_map_of_mem hc')
  rw [← e, hc n hn, h.cnt n hn, e]
  unfold cnt
  congr 1
  refine List.countP_congr fun p _ => ?_
  simp only [decide_eq_true_eq, List.not_mem_nil, not_false_eq_true, and_true]
  exact ⟨fun h => ltr_inj h, fun h => by rw [h]⟩
 ofree := fun _ h => nomatch h
 onod := List.nodup_nil
 rnod := List.Nodup.sublist (List.filter_sublist) (by decide)
 rmem := fun c => by
  rw [List.mem_filter]
  exact ⟨fun h => ⟨h.2, by simp⟩, fun h => ⟨(freeB_iff.mp h.1).1, h.1⟩⟩
 num := rfl
theorem TS.get {ps : List (Nat × Nat)} {dn outs rs : List Nat} {np nf : Int} {cf : Str → Int} (h : TS ps dn outs rs np nf cf) : TS ps dn (outs ++ rs) [] (np + (rs.length : Nat)) nf (fun y => if y ∈ rs.map ltr then -1 else cf y) ∧ ∀ c, c ∈ outs ++ rs ↔ freeB ps dn c = true := by
 have hm : ∀ c, c ∈ outs ++ rs ↔ freeB ps dn c = true := fun c => by
  rw [List.mem_append, h.rmem c]
  by_cases ho : c ∈ outs
  ·exact ⟨fun _ => h.ofree c ho, fun _ => .inl ho⟩
  ·exact ⟨fun x => x.elim (fun y => absurd y ho) (·.1), fun x => .inr ⟨x, ho⟩⟩
 refine ⟨⟨h.sub, h.closed, fun c hc => ?_, fun c hc => ?_, fun c hc h1 h2 => ?_, fun c hc => (hm c).mp hc, ?_, List.nodup_nil, fun c => ?_, ?_⟩, hm⟩
 ·rw [if_neg]
  ·exact h.cfd c hc
  ·rw [map_ltr_mem, h.rmem c]
   exact fun z => (freeB_iff.mp z.1).2.1 hc
 ·by_cases hr : c ∈ rs
  ·rw [if_pos (map_ltr_mem.mpr hr)]
  ·rw [if_neg (fun z => hr (map_ltr_mem.mp z))]
   exact h.cfo c ((List.mem_append.mp hc).resolve_right hr)
 ·rw [List.mem_append, not_or] at h2
  rw [if_neg (fun z => h2.2 (map_ltr_mem.mp z))]
  exact h.cfw c hc h1 h2.1
 ·rw [List.nodup_append]
  exact ⟨h.onod, h.rnod, fun a ha b hb e => ((h.rmem b).mp hb).2 (e ▸ ha)⟩
 ·constructor
  ·exact fun z => nomatch z
  ·rintro ⟨a, b⟩
   exact absurd ((hm c).mpr a) b
 ·rw [List.length_append, h.num]; omega
theorem ss_count {ps : List (Nat × Nat)} {w c : Nat} : ((ps.filter fun p => ltr p.2 = ltr w).map fun p => ltr p.1).count (ltr c) = ps.countP fun p => p.1 = c ∧ p.2 = w := by
 induction ps with
 | nil => rfl
 | cons p ps ih =>
  rw [List.countP_cons, ← ih, List.filter_cons]
  have e1 : (ltr p.2 = ltr w) = (p.2 = w) := propext ⟨ltr_inj, fun h => by rw [h]⟩
  have e2 : (ltr p.1 = ltr c) = (p.1 = c) := propext ⟨ltr_inj, fun h => by rw [h]⟩
  by_cases h : p.2 = w
  ·by_cases h' : p.1 = c
   ·simp [h, h']
   ·have : ¬ ltr p.1 = ltr c := by rw [e2]; exact h'
    simp [h, h']
  ·have : ¬ ltr p.2 = ltr w := by rw [e1]; exact h
   simp [h]
theorem cnt_step {ps : List (Nat × Nat)} {dn : List Nat} {w c : Nat} (hw : w ∉ dn) : cnt ps dn c = cnt ps (dn ++ [w]) c + ps.countP fun p => p.1 = c ∧ p.2 = w := by
 unfold cnt
 induction ps with
 | nil => rfl
 | cons p ps ih =>
  rw [List.countP_cons, List.countP_cons, List.countP_cons, ih]
  by_cases h1 : p.1 = c
  ·by_cases h2 : p.2 = w
   ·subst h2; simp [h1, hw]; omega
   ·by_cases h3 : p.2 ∈ dn
    ·simp [h1, h2, h3]
    ·simp [h1, h2, h3]; omega
  ·simp [h1]
theorem TS.ask {ps : List (Nat × Nat)} {dn outs : List Nat} {np nf : Int} {cf : Str → Int} {w : Nat} (h : TS ps dn outs [] np nf cf) (hw : w ∈ outs) (hps : ∀ p ∈ ps, p.1 ∈ works ∧ p.2 ∈ works ∧ p.2 < p.1) (ss : List Str) (hss : ss = (ps.filter fun p => ltr p.2 = ltr w).map fun p => ltr p.1) :
  ∀ y ∈ ss, y ∈ works.map ltr ∧ y ≠ ltr w ∧ (ss.count y : Int) ≤ cf y := by
 subst hss
 intro y hy
 refine hide fun Dq kq => ?_; obtain ⟨p, hp, rfl⟩ := List.mem_map.mp hy; refine kq ?_; clear kq Dq
 obtain ⟨hp, he⟩ := List.mem_filter.mp hp
 have hpw : p.2 = w := ltr_inj (of_decide_eq_true he)
 have hpp := hps p hp
 have hwf := freeB_iff.mp (h.ofree w hw)
 have n1 : p.1 ∉ dn := fun z => hwf.2.1 (hpw ▸ h.closed p hp z)
 have n2 : p.1 ∉ outs := fun z => hwf.2.1 (hpw ▸ (freeB_iff.mp (h.ofree _ z)).2.2 p hp rfl)
 refine ⟨List.mem_map_of_mem hpp.1, fun e => ?_, ?_⟩
 ·have := ltr_inj e; omega
 ·rw [ss_count, h.cfw _ hpp.1 n1 n2, cnt_step hwf.2.1]
  omega
theorem TS.done {ps : List (Nat × Nat)} {dn outs as : List Nat} {np nf : Int} {cf cf' : Str → Int} {w : Nat} (h : TS ps dn outs [] np nf cf) (hw : w ∈ outs) (hps : ∀ p ∈ ps, p.1 ∈ works ∧ p.2 ∈ works ∧ p.2 < p.1) (ss : List Str) (hss : ss = (ps.filter fun p => ltr p.2 = ltr w).map fun p => ltr p.1)
  (hd : DoneTo ss cf cf' (ltr w) (as.map ltr)) : TS ps (dn ++ [w]) (outs.erase w) as np (nf + 1) cf' := by
 subst hss
 have hwf := freeB_iff.mp (h.ofree w hw)
 have hm : ∀ c, c ∈ outs ↔ freeB ps dn c = true := fun c => ⟨h.ofree c, fun z => Classical.byContradiction fun y => nomatch (h.rmem c).mpr ⟨z, y⟩⟩
 have hcf : ∀ c, c ≠ w → cf' (ltr c) = cf (ltr c) - (ps.countP fun p => p.1 = c ∧ p.2 = w : Nat) := fun c hc => by
  rw [hd.rest _ (fun e => hc (ltr_inj e)), ss_count]
 have hno : ∀ c, (c ∈ dn ∨ c ∈ outs) → (ps.countP fun p => p.1 = c ∧ p.2 = w) = 0 := fun c hc => by
  rw [List.countP_eq_zero]
  intro p hp
  simp only [decide_eq_true_eq, not_and]
  intro e1 e2
  rcases hc with hc | hc
  ·exact hwf.2.1 (e2 ▸ h.closed p hp (e1 ▸ hc))
  ·exact hwf.2.1 (e2 ▸ (freeB_iff.mp (h.ofree _ hc)).2.2 p hp e1)
 have hme : ∀ c, c ∈ outs.erase w ↔ c ≠ w ∧ c ∈ outs := fun c => List.Nodup.mem_erase_iff h.onod
 have hcw : ∀ c ∈ works, c ∉ dn → c ∉ outs → cf' (ltr c) = (cnt ps (dn ++ [w]) c : Nat) := fun c hc h1 h2 => by
  have hne : c ≠ w := fun e => h2 (e ▸ hw)
  rw [hcf c hne, h.cfw c hc h1 h2, cnt_step hwf.2.1]; omega
 refine ⟨fun c hc => ?_, fun p hp hc => ?_, fun c hc => ?_, fun c hc => ?_, fun c hc h1 h2 => ?_, fun c hc => ?_, h.onod.erase w, ?_, fun c => ?_, ?_⟩
 ·rcases List.mem_append.mp hc with hc | hc
  ·exact h.sub c hc
  ·rw [List.mem_singleton.mp hc]; exact hwf.1
 ·rcases List.mem_append.mp hc with hc | hc
  ·exact List.mem_append_left _ (h.closed p hp hc)
  ·exact List.mem_append_left _ (hwf.2.2 p hp (List.mem_singleton.mp hc))
 ·rcases List.mem_append.mp hc with hc | hc
  ·have hne : c ≠ w := fun e => hwf.2.1 (e ▸ hc)
   rw [hcf c hne, hno c (.inl hc), h.cfd c hc]; rfl
  ·rw [List.mem_singleton.mp hc]; exact hd.own
 ·obtain ⟨hne, ho⟩ := (hme c).mp hc
  rw [hcf c hne, hno c (.inr ho), h.cfo c ho]; rfl
 ·rw [List.mem_append, not_or] at h1
  refine hcw c hc h1.1 fun ho => h2 ((hme c).mpr ⟨fun e => h1.2 (by rw [e]; simp), ho⟩)
 ·obtain ⟨hne, ho⟩ := (hme c).mp hc
  have := freeB_iff.mp (h.ofree c ho)
  refine freeB_iff.mpr ⟨this.1, fun z => ?_, fun p hp e => List.mem_append_left _ (this.2.2 p hp e)⟩
  rcases List.mem_append.mp z with z | z
  ·exact this.2.1 z
  ·exact hne (List.mem_singleton.mp z)
 ·have := hd.nod
  exact nodup_of_map this
 ·rw [← map_ltr_mem, hd.mem (ltr c)]
  constructor
  ·rintro ⟨hs, h0⟩
   refine hide fun Dq kq => ?_; obtain ⟨p, hp, e⟩ := List.mem_map.mp hs; refine kq ?_; clear kq Dq
   obtain ⟨hp, he⟩ := List.mem_filter.mp hp
   have hpw : p.2 = w := ltr_inj (of_decide_eq_true he)
   have hpc : p.1 = c := ltr_inj e
   have n1 : c ∉ dn := fun z => hwf.2.1 (hpw ▸ h.closed p hp (hpc ▸ z))
   have n2 : c ∉ outs := fun z => hwf.2.1 (hpw ▸ (freeB_iff.mp (h.ofree _ z)).2.2 p hp hpc)
   have hcwk : c ∈ works := hpc ▸ (hps p hp).1
   rw [hcw c hcwk n1 n2] at h0
   refine ⟨freeB_iff.mpr ⟨hcwk, fun z => ?_, cnt_zero.mp (by omega)⟩, fun z => n2 ((hme c).mp z).2⟩
   rcases List.mem_append.mp z with z | z
   ·exact n1 z
   ·exact n2 (List.mem_singleton.mp z ▸ hw)
  ·rintro ⟨hf, hn⟩
   have hf' := freeB_iff.mp hf
   have hne : c ≠ w := fun e => hf'.2.1 (by rw [e]; simp)
   have n1 : c ∉ dn := fun z => hf'.2.1 (List.mem_append_left _ z)
   have n2 : c ∉ outs := fun z => hn ((hme c).mpr ⟨hne, z⟩)
   refine ⟨?_, by rw [hcw c hf'.1 n1 n2, cnt_zero.mpr hf'.2.2]; rfl⟩
   have : ¬ freeB ps dn c = true := fun z => n2 ((hm c).mpr z)
   rw [freeB_iff] at this
   have : ∃ p ∈ ps, p.1 = c ∧ p.2 ∉ dn := Classical.byContradiction fun y => this ⟨hf'.1, n1, fun p hp e => Classical.byContradiction fun z => y ⟨p, hp, e, z⟩⟩
   refine hide fun Dq kq => ?_; obtain ⟨p, hp, e, z⟩ := this; refine kq ?_; clear kq Dq
   have hp2 : p.2 = w := by
    have := hf'.2.2 p hp e
    rcases List.mem_append.mp this with y | y
    ·exact absurd y z
    ·exact List.mem_singleton.mp y
   exact List.mem_map.mpr ⟨p, List.mem_filter.mpr ⟨hp, by rw [hp2]; simp⟩, by rw [e]⟩
 ·have : (outs.erase w).length = outs.length - 1 := List.length_erase_of_mem hw
  have hpos : 0 < outs.length := List.length_pos_of_mem hw
  rw [this, h.num]; omega

end
section
abbrev sts (ns : List Nd) : List (Addr × Obj) := ns.flatMap fun n => [(n.da, dictOf [] 0), (n.sa, listOf n.sv.toArray n.sn)]
abbrev sLed (x dx d r : Addr) (odx od orr : Obj) (cf : Str → Int) (cft : Str → Tok) (ns : List Nd) : List (Addr × Obj) :=
 (x, instObj 165 dx) :: (dx, odx) :: (d, od) :: (r, orr) :: (nks cf cft ns ++ sts ns)
abbrev sKeys (x dx d r : Addr) (ns : List Nd) : List Addr := x :: dx :: d :: r :: (ns.map (·.a) ++ (sts ns).map (·.1))
theorem sLed_keys (x dx d r : Addr) (odx od orr : Obj) (cf : Str → Int) (cft : Str → Tok) (ns : List Nd) : (sLed x dx d r odx od orr cf cft ns).map (·.1) = sKeys x dx d r ns := by
 simp only [sLed, sKeys, List.map_cons, List.map_append, nks_keys]
structure SoS (w : World) (lo hi : Nat) (ps : List (Nat × Nat)) (x dx d r : Addr) (od : Obj) (ns : List Nd) : Prop where
 tks : NsTk lo hi ns
 nsf : NsFor ps ns
 dic : od.IsDictOf (PySem.strKind Pg w) (kvsOf ns)
 lo : (d == sysModules) = false
 nod : (sKeys x dx d r ns).Nodup
 psk : ∀ p ∈ ps, p.1 ∈ works ∧ p.2 ∈ works ∧ p.2 < p.1
 len : ps.length < 50
structure SoD (lo hi : Nat) (ps : List (Nat × Nat)) (d r : Addr) (odx orr : Obj) (dn outs rs : List Nat) (cf : Str → Int) : Prop where
 ex : E15 fun (h1 h2 h3 h4 : Int) (t1 t2 t3 t4 tp tf : Tok) (np nf : Int) (en rn : Nat) (rv : List Value) => A5 (odx = dictOf (sdict h1 h2 h3 h4 t1 t2 t3 t4 d (.ref r) np nf tp tf) en) (orr = listOf rv.toArray rn) (StrsAre rv (rs.map ltr)) ((∀ v ∈ rv, TkB lo hi v)) (TS ps dn outs rs np nf cf)
theorem sts_mem {ns : List Nd} {n : Nd} (h : n ∈ ns) : (n.da, dictOf [] 0) ∈ sts ns ∧ (n.sa, listOf n.sv.toArray n.sn) ∈ sts ns := ⟨List.mem_flatMap.mpr ⟨n, h, by simp⟩, List.mem_flatMap.mpr ⟨n, h, by simp⟩⟩
def UpG (fr : List Env) (g g' : Heap) : Prop := ∀ b o, g.get? b = some o → ∃ sl, g'.get? b = some { o with slots := sl } ∧ (Off fr b → sl = o.slots)
theorem UpG.off {fr : List Env} {g g' : Heap} (u : UpG fr g g') {b : Addr} {o : Obj} (e : g.get? b = some o) (f : Off fr b) : g'.get? b = some o := by
 refine hide fun Dq kq => ?_; obtain ⟨sl, q, z⟩ := u b o e; refine kq ?_; clear kq Dq
 rw [z f] at q; exact q
theorem rebase2 {w : World} {A₀ : Around} {base g h h' : Heap} {outer : List Env} {L : Addr} {m : Str → Option Value} {env : Env} {mu : List Addr} (B : Below A₀ base outer g) (F : Fr g L h m) (BO : BOk w base) (hf : env.frame = some L)
  (k : KeepW (env :: outer) h h' mu) (hm : ∀ b ∈ mu, g.get? b = none ∧ b ≠ L) :
  ∃ g', A4 (Below A₀ base outer g') (Fr g' L h' m) (UpG (env :: outer) g g') ((∀ b, g.get? b = none → g'.get? b = none)) := by
 have key : ∀ b o, g.get? b = some o → ∃ sl, h'.get? b = some { o with slots := sl } ∧ (Off (env :: outer) b → sl = o.slots) := fun b o e => k b o (F.keep b o e) fun z => by have := (hm _ z).1; rw [e] at this; cases this
 have up : UpG (env :: outer) g (reSlot g h') := fun b o e => by
  refine hide fun Dq kq => ?_; obtain ⟨sl, q, z⟩ := key b o e; refine kq ?_; clear kq Dq
  exact ⟨sl, by rw [reSlot_eq, e]; simp only [Option.map_some, fixS, q], z⟩
 refine ⟨reSlot g h', ⟨B.stack, fun b o e => up.off (B.stays b o e) fun ev he q => ?_, B.frames.of_keeps fun b o e _ => ⟨fixS h' b o, by rw [reSlot_eq, e]; rfl, fixS_data ..⟩⟩, ⟨?_, fun b o e => ?_, by rw [reSlot_size]; exact F.above⟩, up, fun b e => by rw [reSlot_eq, e]; rfl⟩
 ·rcases List.mem_cons.mp he with rfl | he
  ·rw [hf] at q
   have hL : L = b := Option.some.inj q
   subst hL
   exact absurd (Heap.lt_size (B.stays _ _ e)) (Nat.not_lt.mpr F.above)
  ·refine hide fun Dq kq => ?_; obtain ⟨L₁, o₁, hf₁, hb₁, _⟩ := funFrames_at B.frames ev he; refine kq ?_; clear kq Dq
   rw [hf₁] at q
   have hL : L₁ = b := Option.some.inj q
   subst hL
   rw [hb₁] at e; cases e
 ·refine hide fun Dq kq => ?_; obtain ⟨oL, es, ep, hL, hd, r⟩ := F.ns; refine kq ?_; clear kq Dq
  refine hide fun Dq kq => ?_; obtain ⟨sl, q, _⟩ := k L oL hL fun z => (hm _ z).2 rfl; refine kq ?_; clear kq Dq
  exact ⟨_, es, ep, q, hd, r⟩
 ·rw [reSlot_eq] at e
  cases q : g.get? b with
  | none => rw [q] at e; cases e
  | some o₀ =>
   rw [q] at e
   refine hide fun Dq kq => ?_; obtain ⟨sl, q', _⟩ := key b o₀ q; refine kq ?_; clear kq Dq
   simp only [Option.map_some, fixS, q'] at e
   rw [q']; exact e
theorem keepW_end {s g g' h : Heap} {fr : List Env} {env : Env} {L : Addr} {m : Str → Option Value} {mu : List Addr} (S : Sub s g mu) (u : UpG (env :: fr) g g') (F : Fr g' L h m) (hL : L = s.objs.size) (hf : env.frame = some L := by rfl) : KeepW fr s h mu := fun b o e n => by
 refine hide fun Dq kq => ?_; obtain ⟨sl, q, z⟩ := u b o (S.out b o e n); refine kq ?_; clear kq Dq
 refine ⟨sl, F.keep _ _ q, fun f => z fun ev he hq => ?_⟩
 rcases List.mem_cons.mp he with rfl | he
 ·rw [hf] at hq
  have := Option.some.inj hq
  subst this
  exact absurd (Heap.lt_size e) (by rw [hL]; exact Nat.lt_irrefl _)
 ·exact f ev he hq
theorem UpG.rfl' {fr : List Env} {g : Heap} : UpG fr g g := fun _ o e => ⟨o.slots, e, fun _ => rfl⟩
theorem UpG.trans {fr : List Env} {g g' g'' : Heap} (a : UpG fr g g') (b : UpG fr g' g'') : UpG fr g g'' := fun x o e => by
 refine hide fun Dq kq => ?_; obtain ⟨sl, q, z⟩ := a x o e; refine kq ?_; clear kq Dq
 refine hide fun Dq kq => ?_; obtain ⟨sl', q', z'⟩ := b x _ q; refine kq ?_; clear kq Dq
 exact ⟨sl', q', fun f => (z' f).trans (z f)⟩
theorem nodup_len {α : Type} [DecidableEq α] : ∀ {l m : List α}, l.Nodup → (∀ a ∈ l, a ∈ m) → l.length ≤ m.length
 | [], _, _, _ => Nat.zero_le _
 | a :: l, m, hn, hs => by
  rw [List.nodup_cons] at hn
  have ha := hs a (.head _)
  have := nodup_len (m := m.erase a) hn.2 fun b hb => (List.mem_erase_of_ne (show b ≠ a from fun e => hn.1 (e ▸ hb))).mpr (hs b (.tail _ hb))
  rw [List.length_erase_of_mem ha] at this
  have := List.length_pos_of_mem ha
  simp only [List.length_cons]; omega
theorem free_first {ps : List (Nat × Nat)} {ns : List Nd} (h : NsFor ps ns) : (works.filter (freeB ps [])).map ltr = (ns.filter (·.c == 0)).map (·.k) := by
 have key : ∀ (ws : List Nat) (ms : List Nd), ms.map (·.k) = ws.map ltr → (∀ n ∈ ms, n ∈ ns) → (∀ c ∈ ws, c ∈ works) → (ws.filter (freeB ps [])).map ltr = (ms.filter (·.c == 0)).map (·.k) := by
  intro ws
  induction ws with
  | nil =>
   intro ms hm _ _
   cases ms with
   | nil => rfl
   | cons _ _ => cases hm
  | cons c ws ih =>
   intro ms hm h1 h2
   cases ms with
   | nil => cases hm
   | cons n ms =>
    rw [List.map_cons, List.map_cons] at hm
    obtain ⟨e, hm⟩ := List.cons.inj hm
    have := ih ms hm (fun z hz => h1 z (.tail _ hz)) (fun z hz => h2 z (.tail _ hz))
    have hc : freeB ps [] c = (n.c == 0) := by
     rw [Bool.eq_iff_iff, freeB_iff, beq_iff_eq, h.cnt n (h1 n (.head _)), e]
     constructor
     ·rintro hJq; refine hide fun Dq kq => ?_; obtain ⟨_, _, h3⟩ := hJq; refine kq ?_; clear kq Dq
      have : ps.countP (fun p => ltr p.1 = ltr c) = 0 := by
       rw [List.countP_eq_zero]
       intro p hp he
       exact nomatch h3 p hp (ltr_inj (of_decide_eq_true he))
      rw [this]; rfl
     ·intro h3
      have h3 : ps.countP (fun p => ltr p.1 = ltr c) = 0 := by omega
      rw [List.countP_eq_zero] at h3
      exact ⟨h2 c (.head _), by simp, fun p hp he => absurd (show decide (ltr p.1 = ltr c) = true by rw [he]; simp) (h3 p hp)⟩
    rw [List.filter_cons, List.filter_cons, hc]
    split
    ·rw [List.map_cons, List.map_cons, this, e]
    ·exact this
 exact key works ns h.keys (fun _ h => h) (fun _ h => h)
section
variable {w : World} {dp un : Nat} {fr : List Env} {s : Shared} {Q E : Value → Shared → Prop} {base g : Heap} {L : Addr} {m : Str → Option Value} {env : Env} {own : List (Addr × Obj)} {lo hi : Nat} {ps : List (Nat × Nat)} {x dx d r : Addr} {odx od orr : Obj} {ns : List Nd} {dn outs rs : List Nat} {cf : Str → Int} {cft : Str → Tok}
theorem sorter_in {nl : Addr} {nv : List Value} {nn : Nat} (B : Below (Ar dp un fr) base fr g) (F : Fr g L s.heap m) (BO : BOk w base) (hf : env.frame = some L) (hke : env.scope.kind = .function) (hd : dp + 70 < recursionLimit) (hu : un + 800 < cLine)
  (hnl : g.get? nl = some (listOf nv.toArray nn)) (hnv : StrsAre nv (ps.map two)) (hps : ∀ p ∈ ps, p.1 ∈ works ∧ p.2 ∈ works ∧ p.2 < p.1) (hlen : ps.length < 50)
  (k : ∀ g' h' tk' x dx d r odx od orr ns cf cft, Below (Ar dp un fr) base fr g' → Fr g' L h' m → News g' L h' (sLed x dx d r odx od orr cf cft ns) → UpG (env :: fr) g g' → SoS w s.toks tk' ps x dx d r od ns → SoD s.toks tk' ps d r odx orr [] [] (works.filter (freeB ps [])) cf → Q (.ref x) { s with heap := h', toks := tk' }) :
  wpAny (model Pg w) ((Ar dp un fr).deeper env) (call (.ref 197) [.ref nl]) Q E s := by
 show wpAny (model Pg w) (Ar (dp + 1) (un + 3) (env :: fr)) _ _ _ _
 have C := cx_of (env := env) (mu := []) (news := []) B F BO (fun _ hp => by cases hp) no_mu hf hke
 refine sorter_spec (ps := ps) C (by omega) (by omega) (F.keep _ _ hnl) hnv hps hlen ?_
 intro h' tk' x dx d r od ns h1 h2 h3 h4 t1 t2 t3 t4 tp tf en n' kw hob hnod hod lo hN hTk
 refine hide fun Dq kq => ?_; obtain ⟨g', B', F', up, hnone⟩ := rebase2 B F BO hf kw (fun _ h => nomatch h); refine kq ?_; clear kq Dq
 have hkn : (ns.map (·.k)).Nodup := by rw [hN.keys]; decide
 have hmem : ∀ p ∈ sLed x dx d r (dictOf (sdict h1 h2 h3 h4 t1 t2 t3 t4 d (.ref r) 0 0 tp tf) en) od (listOf ((ns.filter (·.c == 0)).map (·.v)).toArray n') (fun y => ((ns.find? fun n => n.k = y).map (·.c)).getD 0) (fun y => ((ns.find? fun n => n.k = y).map (·.ct)).getD 0) ns,
   p ∈ (x, instObj 165 dx) :: (dx, dictOf (sdict h1 h2 h3 h4 t1 t2 t3 t4 d (.ref r) 0 0 tp tf) en) :: (d, od) :: (r, listOf ((ns.filter (·.c == 0)).map (·.v)).toArray n') :: allObjs ns := by
  intro p hp
  simp only [List.mem_cons, List.mem_append] at hp ⊢
  rcases hp with h | h | h | h | h | h
  ·exact .inl h
  ·exact .inr (.inl h)
  ·exact .inr (.inr (.inl h))
  ·exact .inr (.inr (.inr (.inl h)))
  ·refine hide fun Dq kq => ?_; obtain ⟨n, hn, rfl⟩ := List.mem_map.mp h; refine kq ?_; clear kq Dq
   have e : ns.find? (fun z => z.k = n.k) = some n := by
    cases q : ns.find? (fun z => z.k = n.k) with
    | none => exact absurd (List.find?_eq_none.mp q n hn) (by simp)
    | some z =>
     have := List.find?_some q
     exact congrArg some (same_k hkn (List.mem_of_find?_eq_some q) hn (by simpa using this))
   refine .inr (.inr (.inr (.inr (List.mem_flatMap.mpr ⟨n, hn, ?_⟩))))
   simp only [nk, e, Option.map_some, Option.getD_some]
   exact .head _
  ·refine hide fun Dq kq => ?_; obtain ⟨n, hn, h⟩ := List.mem_flatMap.mp h; refine kq ?_; clear kq Dq
   refine .inr (.inr (.inr (.inr (List.mem_flatMap.mpr ⟨n, hn, .tail _ h⟩))))
 have hfind : ∀ n ∈ ns, ((ns.find? fun z => z.k = n.k).map (·.c)).getD 0 = n.c := fun n hn => by
  have e : ns.find? (fun z => z.k = n.k) = some n := by
   cases q : ns.find? (fun z => z.k = n.k) with
   | none => exact absurd (List.find?_eq_none.mp q n hn) (by simp)
   | some z =>
    have := List.find?_some q
    exact congrArg some (same_k hkn (List.mem_of_find?_eq_some q) hn (by simpa using this))
  rw [e]; rfl
 have hfr : ∀ p ∈ (x, instObj 165 dx) :: (dx, dictOf (sdict h1 h2 h3 h4 t1 t2 t3 t4 d (.ref r) 0 0 tp tf) en) :: (d, od) :: (r, listOf ((ns.filter (·.c == 0)).map (·.v)).toArray n') :: allObjs ns, p.1 ≠ L ∧ g.get? p.1 = none := fun p hp => by
  have := (hob p hp).1
  refine ⟨fun e => ?_, ?_⟩
  ·refine hide fun Dq kq => ?_; obtain ⟨oL, es, ep, hL, _⟩ := F.ns; refine kq ?_; clear kq Dq
   rw [e, hL] at this; cases this
  ·cases q : g.get? p.1 with
   | none => rfl
   | some o => rw [F.keep _ _ q] at this; cases this
 refine k g' h' tk' x dx d r _ od _ ns _ _ B' F' (fun p hp => ⟨(hob p (hmem p hp)).2, (hfr p (hmem p hp)).1, hnone _ (hfr p (hmem p hp)).2⟩) up ⟨hTk, hN, hod, lo, ?_, hps, hlen⟩ ⟨h1, h2, h3, h4, t1, t2, t3, t4, tp, tf, 0, 0, en, n', _, rfl, rfl, ?_, ?_, ?_⟩
 ·refine (List.Perm.nodup_iff ?_).mp hnod
  simp only [sKeys]
  refine .cons _ (.cons _ (.cons _ (.cons _ ?_)))
  refine List.perm_iff_count.mpr fun a => ?_
  clear hnod hob hmem hfr hfind hkn hN hod hTk
  induction ns with
  | nil => rfl
  | cons n ns ih =>
   simp only [allObjs, sts, List.flatMap_cons, List.map_append, List.map_cons, List.map_nil, List.count_append, List.count_cons, List.count_nil] at ih ⊢
   omega
 ·have : (works.filter (freeB ps [])).map ltr = (ns.filter (·.c == 0)).map (·.k) := by
   exact free_first hN
  rw [this]
  clear hnod hob hmem hfr hfind hkn this
  have hv := hN.vals
  clear hN hod hTk
  induction ns with
  | nil => exact .nil
  | cons n ns ih =>
   rw [List.filter_cons]
   obtain ⟨t, ht⟩ := hv n (by k_mem)
   split
   ·rw [List.map_cons, List.map_cons, ht]
    exact .cons _ _ (ih fun z hz => hv z (.tail _ hz))
   ·exact ih fun z hz => hv z (.tail _ hz)
 ·intro v hv
  refine hide fun Dq kq => ?_; obtain ⟨n, hn, rfl⟩ := List.mem_map.mp hv; refine kq ?_; clear kq Dq
  exact (hTk n (List.mem_filter.mp hn).1).1
 ·exact TS.start hN hfind
theorem SoS.facts (st : SoS w lo hi ps x dx d r od ns) : (dx :: r :: ns.map (·.a)).Nodup ∧ (∀ b ∈ x :: d :: (ns.map (·.da) ++ ns.map (·.sa)), b ∉ dx :: r :: ns.map (·.a)) ∧ x ≠ dx := by
 have h := st.nod
 simp only [sKeys, List.nodup_cons, List.mem_cons, List.mem_append, not_or] at h
 refine hide fun Dq kq => ?_; obtain ⟨⟨a1, a2, a3, a4, a5⟩, ⟨b1, b2, b3, b4⟩, ⟨c1, c2, c3⟩, ⟨d1, d2⟩, e⟩ := h; refine kq ?_; clear kq Dq
 rw [List.nodup_append] at e
 refine ⟨?_, ?_, a1⟩
 ·simp only [List.nodup_cons, List.mem_cons, not_or]
  exact ⟨⟨b2, b3⟩, d1, e.1⟩
 ·intro b hb
  simp only [List.mem_cons, List.mem_append, not_or] at hb ⊢
  rcases hb with rfl | rfl | hb
  ·exact ⟨a1, a3, a4⟩
  ·exact ⟨Ne.symm b1, c1, c2⟩
  ·have hs : b ∈ (sts ns).map (·.1) := by
    rcases hb with hb | hb
    ·refine hide fun Dq kq => ?_; obtain ⟨n, hn, rfl⟩ := List.mem_map.mp hb; refine kq ?_; clear kq Dq
     exact List.mem_map_of_mem (f := (·.1)) (sts_mem hn).1
    ·refine hide fun Dq kq => ?_; obtain ⟨n, hn, rfl⟩ := List.mem_map.mp hb; refine kq ?_; clear kq Dq
     exact List.mem_map_of_mem (f := (·.1)) (sts_mem hn).2
   exact ⟨fun z => b4 (z ▸ hs), fun z => d2 (z ▸ hs), fun z => e.2.2 b z b hs rfl⟩
theorem active_in (B : Below (Ar dp un fr) base fr g) (F : Fr g L s.heap m) (BO : BOk w base) (hf : env.frame = some L) (hke : env.scope.kind = .function) (hd : dp + 70 < recursionLimit) (hu : un + 800 < cLine)
  (N : News g L s.heap (own ++ sLed x dx d r odx od orr cf cft ns)) (st : SoS w lo hi ps x dx d r od ns) (dy : SoD lo hi ps d r odx orr dn outs rs cf)
  (k : ∀ h' tk', Fr g L h' m → News g L h' (own ++ sLed x dx d r odx od orr cf cft ns) → Q (.bool (!(works.filter (freeB ps dn)).isEmpty)) { s with heap := h', toks := tk' }) :
  wpAny (model Pg w) ((Ar dp un fr).deeper env) (call (.ref 134) [.ref x]) Q E s := by
 show wpAny (model Pg w) (Ar (dp + 1) (un + 3) (env :: fr)) _ _ _ _
 refine hide fun Dq kq => ?_; obtain ⟨h1, h2, h3, h4, t1, t2, t3, t4, tp, tf, np, nf, en, rn, rv, rfl, rfl, hrv, hrt, hT⟩ := dy.ex; refine kq ?_; clear kq Dq
 have inS : ∀ p ∈ sLed x dx d r (dictOf (sdict h1 h2 h3 h4 t1 t2 t3 t4 d (.ref r) np nf tp tf) en) od (listOf rv.toArray rn) cf cft ns, s.heap.get? p.1 = some p.2 := fun p hp => (N p (List.mem_append_right _ hp)).1
 have hl : rv.length < 100 := by
  rw [hrv.length, List.length_map]
  have : rs.length ≤ works.length := nodup_len hT.rnod fun c hc => (freeB_iff.mp ((hT.rmem c).mp hc).1).1
  exact Nat.lt_of_le_of_lt this (by decide)
 refine active_spec (cx_of (env := env) (mu := []) B F BO N no_mu hf hke) (by omega) (by omega) (inS _ (.head _)) (inS _ (.tail _ (.head _))) (inS _ (.tail _ (.tail _ (.tail _ (.head _))))) hl ?_
 intro h' tk' kp
 have e : (decide (nf < np) || !rv.isEmpty) = !(works.filter (freeB ps dn)).isEmpty := by
  rw [Bool.eq_iff_iff]
  simp only [Bool.or_eq_true, decide_eq_true_eq, Bool.not_eq_true', List.isEmpty_eq_false_iff]
  rw [hT.num]
  constructor
  ·rintro (h | h)
   ·have : 0 < outs.length := by omega
    obtain ⟨c, hc⟩ := List.exists_mem_of_length_pos this
    have hcf := hT.ofree c hc
    exact List.ne_nil_of_mem (List.mem_filter.mpr ⟨(freeB_iff.mp hcf).1, hcf⟩)
   ·have hr : rs ≠ [] := fun z => h (by rw [z] at hrv; cases hrv; rfl)
    obtain ⟨c, hc⟩ := List.exists_mem_of_ne_nil _ hr
    have hcf := ((hT.rmem c).mp hc).1
    exact List.ne_nil_of_mem (List.mem_filter.mpr ⟨(freeB_iff.mp hcf).1, hcf⟩)
  ·intro h
   obtain ⟨c, hc⟩ := List.exists_mem_of_ne_nil _ h
   have hcf := (List.mem_filter.mp hc).2
   by_cases ho : c ∈ outs
   ·left
    have := List.length_pos_of_mem ho
    omega
   ·right
    have hr := (hT.rmem c).mpr ⟨hcf, ho⟩
    intro z
    subst z
    have hl0 := hrv.length
    have := List.length_pos_of_mem hr
    simp at hl0; omega
 rw [e]
 exact k h' tk' (fr_keep0 F kp) (news_keep0 N kp)
theorem led_after {h h' : Heap} {cf' : Str → Int} {cft' : Str → Tok} {odx' orr' : Obj} {more : List (Addr × Obj)} (F : Fr g L h m) (N : News g L h (own ++ sLed x dx d r odx od orr cf cft ns)) (st : SoS w lo hi ps x dx d r od ns) (hap : ∀ p ∈ own, p.1 ∉ sKeys x dx d r ns)
  (kp : Keep h h' (dx :: r :: ns.map (·.a))) (h1 : h'.get? dx = some odx') (h2 : h'.get? r = some orr') (h3 : ∀ n ∈ ns, h'.get? n.a = some (nodeObj n.v (cf' n.k) (cft' n.k) n.sa n.da)) (hm : ∀ p ∈ more, h.get? p.1 = none ∧ h'.get? p.1 = some p.2) :
  Fr g L h' m ∧ News g L h' (more ++ (own ++ sLed x dx d r odx' od orr' cf' cft' ns)) := by
 refine hide fun Dq kq => ?_; obtain ⟨f1, f2, f3⟩ := st.facts; refine kq ?_; clear kq Dq
 refine after_K (news' := more ++ (own ++ sLed x dx d r odx' od orr' cf' cft' ns)) F N kp ?_ ?_
 ·intro b hb
  rw [List.map_append, sLed_keys]
  refine List.mem_append_right _ ?_
  simp only [List.mem_cons] at hb
  rcases hb with rfl | rfl | hb
  ·exact .tail _ (.head _)
  ·exact .tail _ (.tail _ (.tail _ (.head _)))
  ·exact .tail _ (.tail _ (.tail _ (.tail _ (List.mem_append_left _ hb))))
 ·intro p hp
  simp only [List.mem_append, List.mem_cons] at hp
  have sub : ∀ b ∈ dx :: r :: ns.map (·.a), b ∈ sKeys x dx d r ns := fun b hb => by
   simp only [List.mem_cons] at hb
   rcases hb with rfl | rfl | hb
   ·exact .tail _ (.head _)
   ·exact .tail _ (.tail _ (.tail _ (.head _)))
   ·exact .tail _ (.tail _ (.tail _ (.tail _ (List.mem_append_left _ hb))))
  rcases hp with hp | hp | rfl | rfl | rfl | rfl | hp | hp
  ·exact .inr ⟨(hm p hp).2, .inr (hm p hp).1⟩
  ·exact .inl ⟨List.mem_append_left _ hp, fun z => hap p hp (sub _ z)⟩
  ·exact .inl ⟨List.mem_append_right _ (.head _), f2 _ (.head _)⟩
  ·exact .inr ⟨h1, .inl (.head _)⟩
  ·exact .inl ⟨List.mem_append_right _ (.tail _ (.tail _ (.head _))), f2 _ (.tail _ (.head _))⟩
  ·exact .inr ⟨h2, .inl (.tail _ (.head _))⟩
  ·refine hide fun Dq kq => ?_; obtain ⟨n, hn, rfl⟩ := List.mem_map.mp hp; refine kq ?_; clear kq Dq
   exact .inr ⟨h3 n hn, .inl (.tail _ (.tail _ (List.mem_map_of_mem (f := (·.a)) hn)))⟩
  ·refine .inl ⟨List.mem_append_right _ (.tail _ (.tail _ (.tail _ (.tail _ (List.mem_append_right _ hp))))), f2 _ (.tail _ (.tail _ ?_))⟩
   refine hide fun Dq kq => ?_; obtain ⟨n, hn, hp⟩ := List.mem_flatMap.mp hp; refine kq ?_; clear kq Dq
   simp only [List.mem_cons, List.not_mem_nil, or_false] at hp
   rcases hp with rfl | rfl
   ·exact List.mem_append_left _ (List.mem_map_of_mem (f := (·.da)) hn)
   ·exact List.mem_append_right _ (List.mem_map_of_mem (f := (·.sa)) hn)
theorem mu_in {h : Heap} (N : News g L h (own ++ sLed x dx d r odx od orr cf cft ns)) : ∀ b ∈ dx :: r :: ns.map (·.a), b ∈ (own ++ sLed x dx d r odx od orr cf cft ns).map (·.1) := fun b hb => by
 rw [List.map_append, sLed_keys]
 refine List.mem_append_right _ ?_
 simp only [List.mem_cons] at hb
 rcases hb with rfl | rfl | hb
 ·exact .tail _ (.head _)
 ·exact .tail _ (.tail _ (.tail _ (.head _)))
 ·exact .tail _ (.tail _ (.tail _ (.tail _ (List.mem_append_left _ hb))))
theorem ready_in (B : Below (Ar dp un fr) base fr g) (F : Fr g L s.heap m) (BO : BOk w base) (hf : env.frame = some L) (hke : env.scope.kind = .function) (hd : dp + 70 < recursionLimit) (hu : un + 800 < cLine)
  (N : News g L s.heap (own ++ sLed x dx d r odx od orr cf cft ns)) (hap : ∀ p ∈ own, p.1 ∉ sKeys x dx d r ns) (st : SoS w lo hi ps x dx d r od ns) (dy : SoD lo hi ps d r odx orr dn outs rs cf)
  (k : ∀ h' tk' T rv odx' orr' cft', Fr g L h' m → News g L h' ((T, tupOf rv) :: (own ++ sLed x dx d r odx' od orr' (fun y => if y ∈ rs.map ltr then -1 else cf y) cft' ns)) → (∀ p ∈ own, p.1 ≠ T) → T ∉ sKeys x dx d r ns → StrsAre rv (rs.map ltr) → (∀ v ∈ rv, TkB lo hi v) →
   SoD lo hi ps d r odx' orr' dn (outs ++ rs) [] (fun y => if y ∈ rs.map ltr then -1 else cf y) → Q (.ref T) { s with heap := h', toks := tk' }) :
  wpAny (model Pg w) ((Ar dp un fr).deeper env) (call (.ref 127) [.ref x]) Q E s := by
 show wpAny (model Pg w) (Ar (dp + 1) (un + 3) (env :: fr)) _ _ _ _
 refine hide fun Dq kq => ?_; obtain ⟨h1, h2, h3, h4, t1, t2, t3, t4, tp, tf, np, nf, en, rn, rv, rfl, rfl, hrv, hrt, hT⟩ := dy.ex; refine kq ?_; clear kq Dq
 have inS : ∀ p ∈ sLed x dx d r (dictOf (sdict h1 h2 h3 h4 t1 t2 t3 t4 d (.ref r) np nf tp tf) en) od (listOf rv.toArray rn) cf cft ns, s.heap.get? p.1 = some p.2 := fun p hp => (N p (List.mem_append_right _ hp)).1
 have hln : rs.length ≤ works.length := nodup_len hT.rnod fun c hc => (freeB_iff.mp ((hT.rmem c).mp hc).1).1
 have hl : rv.length < 100 := by
  rw [hrv.length, List.length_map]
  exact Nat.lt_of_le_of_lt hln (by decide)
 refine hide fun Dq kq => ?_; obtain ⟨f1, f2, f3⟩ := st.facts; refine kq ?_; clear kq Dq
 have hkn : (ns.map (·.k)).Nodup := by rw [st.nsf.keys]; decide
 refine ready_spec (rs := rs.map ltr) (ns := ns) (cf := cf) (cft := cft) (cx_of (env := env) B F BO N (mu_in N) hf hke) (by omega) (by omega) (inS _ (.head _)) (inS _ (.tail _ (.head _))) (inS _ (.tail _ (.tail _ (.tail _ (.head _))))) hrv ?_ hl
  (Heap.dictOf_iff.mpr ⟨od, inS _ (.tail _ (.tail _ (.head _))), st.dic⟩) st.lo hkn (fun n hn => inS _ (.tail _ (.tail _ (.tail _ (.tail _ (List.mem_append_left _ (List.mem_map_of_mem (f := nk cf cft) hn))))))) (fun n hn => inS _ (.tail _ (.tail _ (.tail _ (.tail _ (List.mem_append_right _ (sts_mem hn).1)))))) f1 ?_ ?_
 ·intro y hy
  refine hide fun Dq kq => ?_; obtain ⟨c, hc, rfl⟩ := List.mem_map.mp hy; refine kq ?_; clear kq Dq
  rw [st.nsf.keys]
  exact List.mem_map_of_mem (freeB_iff.mp ((hT.rmem c).mp hc).1).1
 ·intro b hb
  refine f2 b ?_
  simp only [List.mem_cons, List.mem_append] at hb ⊢
  rcases hb with h | h | h
  ·exact .inl h
  ·exact .inr (.inl h)
  ·exact .inr (.inr (.inl h))
 ·intro h' tk' T cft' tp' en' rn' kp hfr hT' hdx hr hno
  obtain ⟨F', N'⟩ := led_after (own := own) (cf' := fun y => if y ∈ rs.map ltr then -1 else cf y) (more := [(T, tupOf rv)]) F N st hap kp hdx hr hno (by
   intro p hp; rw [List.mem_singleton.mp hp]; exact ⟨hfr, hT'⟩)
  refine k h' tk' T rv _ _ cft' F' N' ?_ ?_ hrv hrt ⟨h1, h2, h3, h4, t1, t2, t3, t4, tp', tf, _, nf, en', rn', [], rfl, rfl, .nil, (fun _ h => nomatch h), ?_⟩
  ·intro p hp e
   have := (N p (List.mem_append_left _ hp)).1
   rw [e, hfr] at this; cases this
  ·intro hm
   rw [← sLed_keys x dx d r (dictOf (sdict h1 h2 h3 h4 t1 t2 t3 t4 d (.ref r) np nf tp tf) en) od (listOf rv.toArray rn) cf cft ns] at hm
   refine hide fun Dq kq => ?_; obtain ⟨p, hp, e⟩ := List.mem_map.mp hm; refine kq ?_; clear kq Dq
   have := inS p hp
   rw [e, hfr] at this; cases this
  ·have := hT.get.1
   rw [hrv.length, List.length_map]
   exact this
theorem done_in {c : Nat} {tq : Tok} (B : Below (Ar dp un fr) base fr g) (F : Fr g L s.heap m) (BO : BOk w base) (hf : env.frame = some L) (hke : env.scope.kind = .function) (hd : dp + 70 < recursionLimit) (hu : un + 800 < cLine)
  (N : News g L s.heap (own ++ sLed x dx d r odx od orr cf cft ns)) (hap : ∀ p ∈ own, p.1 ∉ sKeys x dx d r ns) (st : SoS w lo hi ps x dx d r od ns) (dy : SoD lo hi ps d r odx orr dn outs [] cf) (hc : c ∈ outs)
  (k : ∀ h' tk' odx' orr' cf' cft' as, Fr g L h' m → News g L h' (own ++ sLed x dx d r odx' od orr' cf' cft' ns) → SoD lo hi ps d r odx' orr' (dn ++ [c]) (outs.erase c) as cf' → Q .none { s with heap := h', toks := tk' }) :
  wpAny (model Pg w) ((Ar dp un fr).deeper env) (call (.ref 148) [.ref x, .str (ltr c) tq]) Q E s := by
 show wpAny (model Pg w) (Ar (dp + 1) (un + 3) (env :: fr)) _ _ _ _
 refine hide fun Dq kq => ?_; obtain ⟨h1, h2, h3, h4, t1, t2, t3, t4, tp, tf, np, nf, en, rn, rv, rfl, rfl, hrv, hrt, hT⟩ := dy.ex; refine kq ?_; clear kq Dq
 have inS : ∀ p ∈ sLed x dx d r (dictOf (sdict h1 h2 h3 h4 t1 t2 t3 t4 d (.ref r) np nf tp tf) en) od (listOf rv.toArray rn) cf cft ns, s.heap.get? p.1 = some p.2 := fun p hp => (N p (List.mem_append_right _ hp)).1
 refine hide fun Dq kq => ?_; obtain ⟨f1, f2, f3⟩ := st.facts; refine kq ?_; clear kq Dq
 have hkn : (ns.map (·.k)).Nodup := by rw [st.nsf.keys]; decide
 have hcw := (freeB_iff.mp (hT.ofree c hc)).1
 obtain ⟨nn, hnn, hnk⟩ := List.mem_map.mp (show ltr c ∈ ns.map (·.k) from by rw [st.nsf.keys]; exact List.mem_map_of_mem hcw)
 have hss := st.nsf.suc nn hnn
 rw [hnk] at hss
 have hask := hT.ask hc st.psk nn.ss hss
 have hsl : ∀ n ∈ ns, n.ss.length < 100 := fun n hn => by
  rw [st.nsf.suc n hn, List.length_map]
  exact Nat.lt_of_le_of_lt (List.length_filter_le ..) (by have := st.len; omega)
 rw [← hnk]
 refine done_spec (rs := []) (ns := ns) (cf := cf) (cft := cft) (nn := nn) (cx_of (env := env) B F BO N (mu_in N) hf hke) (by omega) (by omega) (inS _ (.head _)) (inS _ (.tail _ (.head _))) (inS _ (.tail _ (.tail _ (.tail _ (.head _))))) hrv (by decide)
  (Heap.dictOf_iff.mpr ⟨od, inS _ (.tail _ (.tail _ (.head _))), st.dic⟩) st.lo hkn (fun n hn => inS _ (.tail _ (.tail _ (.tail _ (.tail _ (List.mem_append_left _ (List.mem_map_of_mem (f := nk cf cft) hn))))))) (fun n hn => inS _ (.tail _ (.tail _ (.tail _ (.tail _ (List.mem_append_right _ (sts_mem hn).1))))))
  (fun n hn => ⟨inS _ (.tail _ (.tail _ (.tail _ (.tail _ (List.mem_append_right _ (sts_mem hn).2))))), st.nsf.sare n hn, hsl n hn⟩) f1 f2 hnn (by rw [hnk]; exact hT.cfo c hc) (fun y hy => by rw [st.nsf.keys, hnk]; exact hask y hy) ?_
 intro h' tk' cf' cft' tf' en' rn' av as kp hdx hr hno hav hsub hal hdo
 obtain ⟨F', N'⟩ := led_after (own := own) (cf' := cf') (more := []) F N st hap kp hdx hr hno (fun _ h => nomatch h)
 have has : ∃ as' : List Nat, as = as'.map ltr := by
  have : ∀ l : List Str, (∀ y ∈ l, y ∈ nn.ss) → ∃ l' : List Nat, l = l'.map ltr := by
   intro l
   induction l with
   | nil => exact fun _ => ⟨[], rfl⟩
   | cons y l ih =>
    intro h
    obtain ⟨l', rfl⟩ := ih fun z hz => h z (.tail _ hz)
    have := h y (.head _)
    rw [hss] at this
    refine hide fun Dq kq => ?_; obtain ⟨p, _, rfl⟩ := List.mem_map.mp this; refine kq ?_; clear kq Dq
    exact ⟨p.1 :: l', rfl⟩
  exact this as fun y hy => ((hdo.mem y).mp hy).1
 obtain ⟨as', rfl⟩ := has
 have hrv0 : rv = [] := by cases hrv; rfl
 subst hrv0
 rw [hnk] at hdo
 exact k h' tk' _ _ cf' cft' as' F' N' ⟨h1, h2, h3, h4, t1, t2, t3, t4, tp, tf', np, _, en', rn', av, rfl, rfl, hav, (fun v hv => (st.tks nn hnn).2 v (hsub v hv)), hT.done hc st.psk nn.ss hss hdo⟩
end

end
section
def isS (x : Str) : Value → Bool
 | .str a _ => decide (a = x)
 | _ => false
theorem eq_isS {vs : List Value} {xs : List Str} (h : StrsAre vs xs) (x : Str) (t : Tok) : ∀ y ∈ vs, MeetsSeq.EqGives y (.str x t) (isS x y) := fun y hy => by
 refine hide fun Dq kq => ?_; obtain ⟨a, u, rfl⟩ := h.all y hy; refine kq ?_; clear kq Dq
 exact fun _ _ _ _ _ _ h => wpAny_eqBool_str h
theorem isS_at {vs : List Value} {xs : List Str} (h : StrsAre vs xs) (x : Str) : ∀ (i : Nat) (hi : i < vs.length) (hi' : i < xs.length), isS x vs[i] = decide (xs[i] = x) := fun i hi hi' => by
 refine hide fun Dq kq => ?_; obtain ⟨y, t, hy, e⟩ := strs_at h (List.getElem?_eq_getElem hi); refine kq ?_; clear kq Dq
 rw [List.getElem?_eq_getElem hi'] at hy
 rw [e, Option.some.inj hy]; rfl
theorem strs_erase {vs : List Value} {xs : List Str} (h : StrsAre vs xs) : ∀ j, StrsAre (vs.eraseIdx j) (xs.eraseIdx j) := by
 induction h with
 | nil => intro j; exact .nil
 | cons y t _ ih =>
  intro j
  cases j with
  | zero => assumption
  | succ j => exact .cons y t (ih j)
theorem lt_idx {x : Str} : ∀ (xs : List Str) (i : Nat) (hi : i < xs.length), i < xs.idxOf x → xs[i] ≠ x
 | [], _, hi, _ => absurd hi (Nat.not_lt_zero _)
 | y :: xs, i, hi, h => by
  rw [List.idxOf_cons] at h
  cases q : (y == x) with
  | true => rw [q] at h; exact absurd h (Nat.not_lt_zero _)
  | false =>
   rw [q] at h
   cases i with
   | zero => simpa using q
   | succ i => exact lt_idx xs i (by simpa using hi) (by simpa using h)
def pickV (side : Int) (vs : List Value) : Value := if side = 0 then vs.headD .none else vs.getLastD .none
section
variable {prog : Program} {w : World} {A : Around} {E : Value → Shared → Prop} {s : Shared} {h₀ : Heap} {L a b D : Addr} {m : Str → Option Value} {news news' : List (Addr × Obj)} {vs us : List Value} {xs : List Str} {n k : Nat} {x : Str} {t u : Tok}
theorem add_K {Q : Value → Shared → Prop} (F : Fr h₀ L s.heap m) (N : News h₀ L s.heap news) (ha : (a, listOf vs.toArray n) ∈ news) (hb : (b, listOf us.toArray k) ∈ news) (hz : vs.length + us.length < 1000)
  (h : ∀ D h', Fr h₀ L h' m → News h₀ L h' ((D, listOf (vs ++ us).toArray 0) :: news) → (∀ p ∈ news, p.1 < D) → Q (.ref D) { s with heap := h' }) : wpAny (model prog w) A (binaryOp .Add (.ref a) (.ref b)) Q E s := by
 refine add_arrays F N (PySem.IsL.isList (n := n) (N _ ha).1) (PySem.IsL.isList (n := k) (N _ hb).1) (fun h' F' N' => h _ h' F' N' fun p hp => Heap.lt_size (N p hp).1) (hsz := by rw [sizeLine_eq, List.size_toArray, List.size_toArray]; omega)
theorem sorted_K {Q : Value → Shared → Prop} (F : Fr h₀ L s.heap m) (N : News h₀ L s.heap news) (ha : (a, listOf vs.toArray n) ∈ news) (hS : StrsAre vs xs) (h64 : vs.length < 64)
  (h : ∀ D h' vs' xs' e, Fr h₀ L h' m → News h₀ L h' ((D, listOf vs'.toArray e) :: news) → (∀ p ∈ news, p.1 < D) → StrsAre vs' xs' → xs'.Perm xs → sortedS xs' = true → (∀ v ∈ vs', v ∈ vs) → Q (.ref D) { s with heap := h' }) : wpAny (model prog w) A (call (.builtin "sorted") [.ref a]) Q E s := by
 refine sortedK strKind_oneLt (PySem.IsL.isList (n := n) (N _ ha).1) hS.keysOf (fun v₁ v₂ rest e => keyKind_strs (by rw [← e]; exact hS)) h64 fun st' hp hs => ?_
 refine hide fun Dq kq => ?_; obtain ⟨ss', h1, h2, h3⟩ := sorted_out_str hS hp hs; refine kq ?_; clear kq Dq
 obtain ⟨e, he⟩ := sortedAll_at s.heap vs ((arrOf st').map (·.2))
 refine h _ _ ((arrOf st').map (·.2)).toList ss' e (F.kept fun _ _ => sortedAll_old) (N.kept_cons F (fun _ _ => sortedAll_old) (Nat.le_succ _) he) (fun p hp => Nat.lt_succ_of_lt (Heap.lt_size (N p hp).1)) h1 h2 h3 fun v hv => ?_
 rw [Array.toList_map] at hv
 refine hide fun Dq kq => ?_; obtain ⟨p, hp', rfl⟩ := List.mem_map.mp hv; refine kq ?_; clear kq Dq
 have hl : (arrOf st').toList.Perm (vs.zip vs) := by rw [← pairsOf_toList]; exact Array.perm_iff_toList_perm.mp hp
 exact (List.of_mem_zip (hl.mem_iff.mp hp')).2
theorem remove_K {Q : Value → Shared → Prop} (F : Fr h₀ L s.heap m) (N : News h₀ L s.heap news) (hS : StrsAre vs xs) (hx : x ∈ xs) (U : Upd D (listOf vs.toArray n) (listOf (vs.eraseIdx (xs.idxOf x)).toArray (n + 1)) news news') (hz : vs.length < 1000)
  (h : ∀ h', Fr h₀ L h' m → News h₀ L h' news' → Q .none { s with heap := h' }) : wpAny (model prog w) A (call (.builtin "list.remove") [.ref D, .str x t]) Q E s := by
 refine hide fun Dq kq => ?_; obtain ⟨pre, post, rfl, rfl, a', b'⟩ := U.split; refine kq ?_; clear kq Dq
 have z := N (D, listOf vs.toArray n) (List.mem_append.mpr (.inr (.head _)))
 have hlen : vs.length = xs.length := hS.length
 have hj : xs.idxOf x < xs.length := List.idxOf_lt_length_of_mem hx
 have hj' : xs.idxOf x < vs.toArray.size := by rw [List.size_toArray, hlen]; exact hj
 refine call_meets PySem.F.slot_list_remove ⟨_, z.1, rfl⟩ PySem.F.entry_list_remove (PySem.F.args_list_remove_2 _ _)
  (MeetsSeq.list_remove D vs.toArray n (.str x t) (isS x) (fun y hy => eq_isS hS x t y (by simpa using hy)) (xs.idxOf x) hj' ?_ ?_ (by rw [sizeLine_eq, List.size_toArray]; omega))
  ⟨z.1, h _ (F.change (Heap.SameBut.update ..) z.2.1 z.2.2) (ki_turn _ N a' b' ?_ ?_)⟩
 ·have := isS_at hS x (xs.idxOf x) (by simpa using hj') hj
  simp only [List.getElem_toArray, this, decide_eq_true_eq]
  exact List.getElem_idxOf hj
 ·intro i hi hlt
  have := isS_at hS x i (by simpa using hi) (by omega)
  simp only [List.getElem_toArray, this, decide_eq_false_iff_not]
  exact lt_idx xs i (by omega) hlt
 ·show vs.toArray.eraseIdxIfInBounds (xs.idxOf x) = (vs.eraseIdx (xs.idxOf x)).toArray
  apply Array.toList_inj.mp
  simp
 ·have hq : (vs.eraseIdx (xs.idxOf x)).toArray.size ≠ vs.toArray.size := by
   rw [List.size_toArray, List.size_toArray, List.length_eraseIdx, if_pos (by simpa using hj')]
   have : 0 < vs.length := by omega
   omega
  rw [if_neg (by simpa using hq)]
theorem side_K {value slice : PySem.Expr} {side : Int} {Q : Value → Shared → Prop} (N : News h₀ L s.heap news) (ha : (a, listOf vs.toArray n) ∈ news) (hs : side = 0 ∨ side = -1) (hne : vs ≠ []) (h : Q (pickV side vs) s)
  (hs' : subscripted slice false (.ref a) (.int side t) = operate [.ref a, .int side t] (getItem (.ref a) (.int side t)) := by with_unfolding_all rfl) : wpAny (model prog w) A (subscriptTail value slice (.ref a) (.int side t)) Q E s := by
 have hl := PySem.IsL.isList (n := n) (N _ ha).1
 rcases hs with rfl | rfl
 ·refine hide fun Dq kq => ?_; obtain ⟨v, r, rfl⟩ := List.exists_cons_of_ne_nil hne; refine kq ?_; clear kq Dq
  exact tail_any hl.typeIs slot_list_getitem.lookup (wpAny_getItem_list hl (by decide) (by decide) (by simp [pickV]) h) hs'
 ·obtain ⟨r, v, rfl⟩ : E2 fun r v => vs = r ++ [v] := by
   rcases List.eq_nil_or_concat vs with e | ⟨r, v, e⟩
   ·exact absurd e hne
   ·exact ⟨r, v, by rw [e, List.concat_eq_append]⟩
  have : pickV (-1) (r ++ [v]) = v := by simp [pickV]
  rw [this] at h
  exact last_cat N ha h hs'
end

end
section
theorem sorted_eq : ∀ {a b : List Nat}, a.Pairwise (· < ·) → b.Pairwise (· < ·) → (∀ x, x ∈ a ↔ x ∈ b) → a = b
 | [], [], _, _, _ => rfl
 | [], y :: b, _, _, h => nomatch (h y).mpr (.head _)
 | x :: a, [], _, _, h => nomatch (h x).mp (.head _)
 | x :: a, y :: b, ha, hb, h => by
  rw [List.pairwise_cons] at ha hb
  have e : x = y := by
   rcases List.mem_cons.mp ((h x).mp (.head _)) with e | e
   ·exact e
   ·rcases List.mem_cons.mp ((h y).mpr (.head _)) with e' | e'
    ·exact e'.symm
    ·have := ha.1 y e'; have := hb.1 x e; omega
  subst e
  rw [sorted_eq ha.2 hb.2 fun z => ?_]
  constructor
  ·intro hz
   rcases List.mem_cons.mp ((h z).mp (.tail _ hz)) with e | e
   ·have := ha.1 z hz; omega
   ·exact e
  ·intro hz
   rcases List.mem_cons.mp ((h z).mpr (.tail _ hz)) with e | e
   ·have := hb.1 z hz; omega
   ·exact e
theorem rising_le : ∀ (l : List Nat) (p : Nat), risingS (ltr p) (l.map ltr) = true → (∀ x ∈ l, p ≤ x) ∧ l.Pairwise (· ≤ ·)
 | [], p, _ => ⟨(fun _ h => by cases h), List.Pairwise.nil⟩
 | x :: l, p, h => by
  have h' : (!Spec.ltCps (ltr x).cps.toList (ltr p).cps.toList && risingS (ltr x) (l.map ltr)) = true := h
  rw [Bool.and_eq_true] at h'
  have h1 : p ≤ x := by
   have := h'.1
   by_cases hlt : x < p
   ·simp [Spec.ltCps, hlt] at this
   ·omega
  obtain ⟨a, b⟩ := rising_le l x h'.2
  refine ⟨fun y hy => ?_, List.pairwise_cons.mpr ⟨a, b⟩⟩
  rcases List.mem_cons.mp hy with rfl | hy
  ·exact h1
  ·exact Nat.le_trans h1 (a y hy)
theorem sorted_works {l : List Nat} {xs : List Str} (hn : l.Nodup) (hp : xs.Perm (l.map ltr)) (hs : sortedS xs = true) (P : Nat → Bool) (hP : ∀ c, c ∈ l ↔ c ∈ works ∧ P c = true) : xs = (works.filter P).map ltr := by
 have : ∃ l' : List Nat, xs = l'.map ltr ∧ l'.Perm l := by
  have key : ∀ (xs ys : List Str), xs.Perm ys → ∀ l : List Nat, ys = l.map ltr → ∃ l' : List Nat, xs = l'.map ltr ∧ l'.Perm l := by
   intro xs ys h
   have := h.symm
   clear h
   induction this with
   | nil => intro l e; exact ⟨l, e, .refl _⟩
   | cons a _ ih =>
    intro l e
    cases l with
    | nil => cases e
    | cons c l =>
     rw [List.map_cons] at e
     obtain ⟨e1, e2⟩ := List.cons.inj e
     refine hide fun Dq kq => ?_; obtain ⟨l', e3, q⟩ := ih l e2; refine kq ?_; clear kq Dq
     exact ⟨c :: l', by rw [List.map_cons, e1, e3], q.cons c⟩
   | swap a b _ =>
    intro l e
    match l, e with
    | c :: c' :: l, e =>
     rw [List.map_cons, List.map_cons] at e
     obtain ⟨e1, e2⟩ := List.cons.inj e
     obtain ⟨e3, e4⟩ := List.cons.inj e2
     exact ⟨c' :: c :: l, by rw [List.map_cons, List.map_cons, e1, e3, e4], .swap _ _ _⟩
   | trans _ _ ih1 ih2 =>
    intro l e
    refine hide fun Dq kq => ?_; obtain ⟨l', rfl, q⟩ := ih1 l e; refine kq ?_; clear kq Dq
    refine hide fun Dq kq => ?_; obtain ⟨l'', rfl, q'⟩ := ih2 l' rfl; refine kq ?_; clear kq Dq
    exact ⟨l'', rfl, q'.trans q⟩
  exact key _ _ hp l rfl
 refine hide fun Dq kq => ?_; obtain ⟨l', rfl, hp'⟩ := this; refine kq ?_; clear kq Dq
 congr 1
 refine sorted_eq ?_ (List.Pairwise.sublist List.filter_sublist (by decide)) fun x => ?_
 ·have hle : l'.Pairwise (· ≤ ·) := by
   cases l' with
   | nil => exact .nil
   | cons c r =>
    obtain ⟨a, b⟩ := rising_le r c hs
    exact List.pairwise_cons.mpr ⟨a, b⟩
  have hnd : l'.Pairwise (· ≠ ·) := (hp'.nodup_iff).mpr hn
  exact List.Pairwise.imp (fun h => Nat.lt_of_le_of_ne h.1 h.2) (hle.and hnd)
 ·rw [hp'.mem_iff, hP, List.mem_filter]
def pickN (side : Int) (l : List Nat) : Nat := if side = 0 then l.headD 0 else l.getLastD 0
def iterP (ps : List (Nat × Nat)) (side : Int) : Nat → List Nat
 | 0 => []
 | k + 1 => iterP ps side k ++ [pickN side (works.filter (freeB ps (iterP ps side k)))]
theorem pick_mem {side : Int} {l : List Nat} (h : l ≠ []) : pickN side l ∈ l := by
 unfold pickN
 split
 ·refine hide fun Dq kq => ?_; obtain ⟨c, r, rfl⟩ := List.exists_cons_of_ne_nil h; refine kq ?_; clear kq Dq
  exact .head _
 ·rcases List.eq_nil_or_concat l with e | ⟨r, c, e⟩
  ·exact absurd e h
  ·rw [e, List.concat_eq_append]; simp
theorem pickV_strs {side : Int} {vs : List Value} {l : List Nat} (h : StrsAre vs (l.map ltr)) (hne : l ≠ []) : ∃ t, pickV side vs = .str (ltr (pickN side l)) t ∧ pickV side vs ∈ vs := by
 have hl := h.length
 unfold pickV pickN
 split
 ·refine hide fun Dq kq => ?_; obtain ⟨c, r, rfl⟩ := List.exists_cons_of_ne_nil hne; refine kq ?_; clear kq Dq
  rw [List.map_cons] at h
  refine hide fun Dq kq => ?_; obtain ⟨t, vs', rfl, _⟩ := h.cons_inv; refine kq ?_; clear kq Dq
  exact ⟨t, rfl, .head _⟩
 ·rcases List.eq_nil_or_concat l with e | ⟨r, c, e⟩
  ·exact absurd e hne
  ·rw [List.concat_eq_append] at e
   subst e
   rcases List.eq_nil_or_concat vs with e | ⟨us, v, e⟩
   ·subst e; simp at hl
   ·rw [List.concat_eq_append] at e
    subst e
    have hlen : us.length = r.length := by simp at hl; exact hl
    refine hide fun Dq kq => ?_; obtain ⟨x, t, hx, e⟩ := strs_at h (i := us.length) (v := v) (by simp); refine kq ?_; clear kq Dq
    rw [List.map_append, hlen] at hx
    have : x = ltr c := by
     rw [List.getElem?_append_right (by simp)] at hx
     simpa using hx.symm
    exact ⟨t, by rw [List.getLastD_concat, List.getLastD_concat, e, this], by simp⟩
theorem all_done {ps : List (Nat × Nat)} {dn : List Nat} (hps : ∀ p ∈ ps, p.1 ∈ works ∧ p.2 ∈ works ∧ p.2 < p.1) (h : works.filter (freeB ps dn) = []) : ∀ c ∈ works, c ∈ dn := by
 have key : ∀ n c, c < n → c ∈ works → c ∈ dn := by
  intro n
  induction n with
  | zero => intro c hc; exact absurd hc (Nat.not_lt_zero _)
  | succ n ih =>
   intro c hc hw
   by_cases hd : c ∈ dn
   ·exact hd
   ·have hf : freeB ps dn c = true := freeB_iff.mpr ⟨hw, hd, fun p hp e => ih p.2 (by have := hps p hp; omega) (hps p hp).2.1⟩
    have := List.mem_filter.mpr ⟨hw, hf⟩
    rw [h] at this; cases this
 exact fun c hc => key (c + 1) c (Nat.lt_succ_self _) hc

end
section
abbrev lmap (sv : Value) (u v : Option Value) : Str → Option Value := fun y => if y = Str.ofString "free" then u else if y = Str.ofString "turn" then v else if y = Str.ofString "side" then some sv else none
theorem lmap0 {sv : Value} : (fun y => if y = Str.ofString "side" then some sv else none) = lmap sv none none := by
 funext y
 by_cases h : y = Str.ofString "free"
 ·subst h; rfl
 ·by_cases h' : y = Str.ofString "turn"
  ·subst h'; rfl
  ·simp only [lmap, if_neg h, if_neg h']
theorem lmap_turn {sv w : Value} {u v : Option Value} : (fun y => if y = Str.ofString "turn" then some w else lmap sv u v y) = lmap sv u (some w) := by
 funext y
 by_cases h : y = Str.ofString "turn"
 ·subst h; rfl
 ·simp only [lmap, if_neg h]
theorem ltr_ok {c : Nat} (h : c ∈ works) : PyData.strOk (ltr c) = true := by
 have key : ∀ c ∈ works, c < 0x110000 := by decide
 have a := key _ h
 simp [PyData.strOk, a]
theorem two_ok {p : Nat × Nat} (h : p.1 ∈ works) (h' : p.2 ∈ works) : PyData.strOk (two p) = true := by
 have key : ∀ c ∈ works, c < 0x110000 := by decide
 have a := key _ h
 have b := key _ h'
 simp [PyData.strOk, a, b]
theorem iterP_len (ps : List (Nat × Nat)) (side : Int) : ∀ k, (iterP ps side k).length = k
 | 0 => rfl
 | k + 1 => by rw [iterP, List.length_append, iterP_len ps side k]; rfl
def wantB (dn : List Nat) (c : Nat) (p : Nat × Nat) : Bool := p.1 == c && !dn.contains p.2
theorem want_free {ps : List (Nat × Nat)} {dn : List Nat} {c : Nat} (hc : c ∈ works) (hd : c ∉ dn) : freeB ps dn c = decide ((ps.filter (wantB dn c)).map two = []) := by
 by_cases h : (ps.filter (wantB dn c)).map two = []
 ·rw [decide_eq_true h]
  rw [List.map_eq_nil_iff, List.filter_eq_nil_iff] at h
  refine freeB_iff.mpr ⟨hc, hd, fun p hp e => Classical.byContradiction fun z => h p hp ?_⟩
  simp [wantB, e, z]
 ·rw [decide_eq_false h]
  cases q : freeB ps dn c with
  | false => rfl
  | true =>
   refine absurd ?_ h
   rw [List.map_eq_nil_iff, List.filter_eq_nil_iff]
   intro p hp z
   have := (freeB_iff.mp q).2.2 p hp
   simp only [wantB, Bool.and_eq_true, beq_iff_eq, Bool.not_eq_true'] at z
   have := this z.1
   rw [List.contains_iff_mem.mpr this] at z; cases z.2
section
local macro_rules | `(tactic| walk_at "exec For Name Call cons nil") => `(tactic| (refine Hold.out ?_))
local macro_rules | `(tactic| walk_at "exec Assign cons ListComp") => `(tactic| (refine Hold.out ?_))
local macro_rules | `(tactic| walk_at "subscriptTail Name Name ref int") => `(tactic| (refine Hold.out ?_))
local macro_rules | `(tactic| walk_at "compareOp Eq ref ref") => `(tactic| (refine Hold.out ?_))
local macro_rules | `(tactic| walk_at "pyIter ref") => `(tactic| (refine Hold.out ?_))
local macro_rules | `(tactic| walk_at "eval ListComp") => `(tactic| (refine Hold.out ?_))
theorem least_spec {w : World} {dp un : Nat} {fr : List Env} {s : Shared} {Q E : Value → Shared → Prop} {nl : Addr} {nv : List Value} {nn : Nat} {ps : List (Nat × Nat)} {side : Int} {ts : Tok}
 (C : Cx w fr s.heap []) (hd : dp + 20 < recursionLimit) (hu : un + 300 < cLine)
 (hnl : s.heap.get? nl = some (listOf nv.toArray nn)) (hnv : StrsAre nv (ps.map two)) (hps : ∀ p ∈ ps, p.1 ∈ works ∧ p.2 ∈ works ∧ p.2 < p.1) (hlen : ps.length < 50) (hside : side = 0 ∨ side = -1)
 (hret : ∀ (ra : Addr) (h' : Heap) (tk' : Nat) (dvs : List Value) (rn : Nat), Keep s.heap h' [] → s.heap.get? ra = none → h'.get? ra = some (listOf dvs.toArray rn) → StrsAre dvs ((iterP ps side 5).map ltr) → Q (.ref ra) { s with heap := h', toks := tk' }) :
 wpAny (model Pg w) (Ar dp un fr) (call (.ref 231) [.ref nl, .int side ts]) Q E s := by
 revert w dp un fr s Q E nl nv nn ps side ts
 refine @(pk13 (((w00, δ), (δ, (s00, δ))), δ) ?_)
 generalize z13 _ _ = Z; generalize Z.1.1.1 = w, Z.1.1.2.1 = dp, Z.1.1.2.2 = un, Z.1.2.1 = fr, Z.1.2.2.1 = s, Z.1.2.2.2 = Q, Z.2.1.1 = E, Z.2.1.2.1 = nl, Z.2.1.2.2 = nv, Z.2.2.1.1 = nn, Z.2.2.1.2 = ps, Z.2.2.2.1 = side, Z.2.2.2.2 = ts
 intro C hd hu hnl hnv hps hlen hside hret
 k_dflt (refine' enterC (news := []) (binds := [(Str.ofString "needs", .ref nl), (Str.ofString "side", .int side ts)]) ?C ?N ?k6 ?k7 ?k8 ?k9 ?kB ?_ ?_ ?c2 ?c3 ?c4; (case N => exact no_news); (case C => assumption); (case k6 => k_is); (case k7 => k_is); (case k8 => ktr_room); (case k9 => exact BindsTo.of_eq rfl); (case kB => exact rfl); (case c2 => exact rfl); (case c3 => exact rfl); (case c4 => exact rfl))
 ·decide
 refine @(pk11 δ ?_); generalize z11 _ _ = Z; generalize Z.1.1.1 = g, Z.1.1.2 = L', Z.1.2.1 = h₁, Z.1.2.2.1 = tk, Z.1.2.2.2 = cells, Z.2.1.1 = base, Z.2.1.2.1 = p, Z.2.1.2.2 = loose, Z.2.2.1 = mean, Z.2.2.2.1 = mg, Z.2.2.2.2 = mb; intro BO F N Y B X T S hlt hL
 have gnl := S.out _ _ hnl nN
 refine hide fun Dq kq => ?_; obtain ⟨o1', o2', hE', d1', d2'⟩ := CellsAre.two Y; refine kq ?_; clear kq Dq
 subst hE'
 clear Y
 simp only [List.cons_append, List.nil_append] at N
 k_steps
 rename_i l0 hA lA hB oc F₂ N₂ dc
 refine Hold.mk (For_H ?_ (hE := ?hE))
 k_steps
 ·rename_i hC tkC t1 u1 v1 hR F₃ N₃ hK
  clear hK
  refine Hold.mk ?_
  replace F₃ : Fr g L' hC (fun y => if y = Str.ofString "side" then some (Value.int side ts) else none) := F₃
  rw [lmap0] at F₃
  refine for_range (g := g) (n := 5) (fun i m news => E4 fun (u v : Option Value) (dvs : List Value) (rn : Nat) => A3 (m = lmap (.int side ts) u v) (news = [(l0, listOf dvs.toArray rn), (L' + 1 + 1, oc), (L' + 1, o2')]) (StrsAre dvs ((iterP ps side i).map ltr))) rfl hR (by decide) (by decide) F₃ N₃ ⟨none, none, [], 0, rfl, rfl, .nil⟩ rfl rfl ?_ ?_
  ·rintro i tv m news h tk₁ I oI hi ⟨u, v, dvs, rn, rfl, rfl, hdv⟩ F₄ N₄ hap
   rw [lmap_turn] at F₄
   clear F₃ N₃
   k_steps
   refine Hold.mk ?_
   k_dflt (refine' Assign_CX ?F ?k0 ?k1 ?k2 ?k3 ?k4 ?k5 ?k6 ?k7 ?k8 ?_; (case F => k_asm); (case k0 => rfl); (case k1 => with_unfolding_all rfl); (case k2 => with_unfolding_all rfl); (case k3 => exact ⟨fun _ _ => rfl, fun _ => rfl⟩); (case k4 => rfl); (case k5 => decide); (case k6 => rfl); (case k7 => rfl); (case k8 => rfl))
   k_steps
   refine Hold.mk ?_
   have hapI := hap
   refine src_str rfl F₄ N₄ (by decide +kernel) (by decide +kernel) ?_
   intro h₅
   dsimp only
   refine ⟨fun k ys nw => nw = [(I, oI), (l0, listOf dvs.toArray rn), (L' + 1 + 1, oc), (L' + 1, o2')] ∧ StrsAre ys (((works.take k).filter (freeB ps (iterP ps side i))).map ltr), ⟨rfl, .nil⟩, ?_, ?_⟩
   ·rintro k ys nw wv I₂ oI₂ Cc oC D K oK m₂ h₆ tk₆ E' hk ⟨rfl, hys⟩ ⟨c', u₆, hc', rfl⟩ hCo hKo F₆ N₆ off offK ne
    have hcw : works[k]? = some c' := by rw [← hc', show (Str.ofString "abcde").cps = works.toArray from by decide +kernel, List.getElem?_toArray]
    generalize c' = c at *
    have hk5 : k < works.length := by
     rcases Nat.lt_or_ge k works.length with z | z
     ·exact z
     ·rw [List.getElem?_eq_none z] at hcw; cases hcw
    have htk : works.take (k + 1) = works.take k ++ [c] := by rw [List.take_add_one, hcw]; rfl
    have hcm : c ∈ works := List.mem_of_getElem? hcw
    clear F₄ N₄
    simp only [LCg.Off3, LCg.Off1, and_true] at off offK
    k_steps
    ·rename (List.any _ _ = true) => hin
     have hnf : freeB ps (iterP ps side i) c = false := by
      cases q : freeB ps (iterP ps side i) c with
      | false => rfl
      | true =>
       refine hide fun Dq kq => ?_; obtain ⟨y, hy, e⟩ := List.any_eq_true.mp hin; refine kq ?_; clear kq Dq
       refine hide fun Dq kq => ?_; obtain ⟨z, hz, rfl⟩ := List.mem_map.mp hy; refine kq ?_; clear kq Dq
       have : z = c := ltr_inj (by simpa using e)
       exact absurd (this ▸ hz) (freeB_iff.mp q).2.1
     refine Hold.mk ⟨_, _, _, rfl, F₆, N₆, ?_, ?_, trivial, rfl, ?_⟩
     ·simp only [LCg.Off3, and_true]; exact off
     ·simp only [LCg.Off1, and_true]; exact offK
     ·rw [htk, List.filter_append, show [c].filter (freeB ps (iterP ps side i)) = [] from by simp [hnf], List.append_nil]; exact hys
    ·rename_i hnin
     refine Hold.mk ?_
     k_dflt (refine' ListComp_TX ?F ?k1 ?k2 ?k3 ?k4 ?k5 ?_; (case F => k_asm); (case k1 => with_unfolding_all rfl); (case k2 => decide); (case k3 => rfl); (case k4 => decide); (case k5 => rfl))
     k_steps
     refine Hold.mk ?_
     have hnl5 : nv.length = ps.length := by rw [hnv.length, List.length_map]
     refine src_list rfl F₆ N₆ (.inl (PySem.IsL.isList (n := nn) gnl)) (by omega) ?_
     intro h₇
     dsimp only
     refine rest_invT (n := nv.length) (fun q zs nw => nw = [(I₂, oI₂), (Cc, oC), (D, LCg.lst ys), (K, oK), (I, oI), (l0, listOf dvs.toArray rn), (L' + 1 + 1, oc), (L' + 1, o2')] ∧ StrsAre zs (((ps.take q).filter (wantB (iterP ps side i) c)).map two)) ?_ ?_ _ 0 [] _ (Nat.zero_add _) ⟨rfl, .nil⟩
     ·rintro q zs nw nv' I₃ oI₃ C₃ oC₃ D₃ m₃ h₈ tk₈ E₃ hq ⟨rfl, hzs⟩ hP hC₃ hv₃ F₈ N₈ off₃ ne₃
      clear F₆ N₆
      refine hide fun Dq kq => ?_; obtain ⟨y, tv₃, hy, rfl⟩ := strs_at hnv hP; refine kq ?_; clear kq Dq
      have hqp : q < ps.length := by rw [← hnl5]; exact hq
      have hye : y = two ps[q] := by rw [List.getElem?_map, List.getElem?_eq_getElem hqp] at hy; exact (Option.some.inj hy).symm
      subst hye
      have htq : ps.take (q + 1) = ps.take q ++ [ps[q]] := (List.take_append_getElem hqp).symm
      generalize ps[q] = pp at *
      obtain ⟨pa, pb⟩ := pp
      have hbad : wantB (iterP ps side i) c (pa, pb) = (decide (pa = c) && !(iterP ps side i).contains pb) := rfl
      dsimp only
      repeat' first | (k_unfold; try dsimp only) | walk1 | (dsimp only; walk1)
      ·rename (Txt.item (two (pa, pb)) 0 == _) = true => e1
       rename (List.any _ _ = true) => e2
       have q1 : pa = c := ltr_inj (show ltr pa = ltr c from eq_of_beq e1)
       have q2 : pb ∈ iterP ps side i := by
        refine hide fun Dq kq => ?_; obtain ⟨y, hy, e⟩ := List.any_eq_true.mp e2; refine kq ?_; clear kq Dq
        refine hide fun Dq kq => ?_; obtain ⟨z, hz, rfl⟩ := List.mem_map.mp hy; refine kq ?_; clear kq Dq
        have : z = pb := ltr_inj (show ltr z = ltr pb from eq_of_beq e)
        exact this ▸ hz
       have hw : wantB (iterP ps side i) c (pa, pb) = false := by simp [wantB, q2]
       refine ⟨_, _, _, rfl, F₈, N₈, off₃, .inl (PySem.IsL.isList (n := nn) gnl), rfl, ?_⟩
       rw [htq, List.filter_append, show [(pa, pb)].filter (wantB (iterP ps side i) c) = [] from by simp [hw], List.append_nil]; exact hzs
      ·rename (Txt.item (two (pa, pb)) 0 == _) = true => e1
       rename (List.any _ _ = false) => e2
       have q1 : pa = c := ltr_inj (show ltr pa = ltr c from eq_of_beq e1)
       have q2 : pb ∉ iterP ps side i := fun hm => by
        have : (List.any ((iterP ps side i).map ltr) fun x => x == Txt.item (two (pa, pb)) 1) = true := List.any_eq_true.mpr ⟨ltr pb, List.mem_map_of_mem hm, by simp [show Txt.item (two (pa, pb)) 1 = ltr pb from rfl]⟩
        rw [e2] at this; cases this
       have hw : wantB (iterP ps side i) c (pa, pb) = true := by simp [wantB, q1, q2]
       refine ⟨_, _, _, rfl, F₈, N₈, off₃, .inl (PySem.IsL.isList (n := nn) gnl), rfl, ?_⟩
       rw [htq, List.filter_append, show [(pa, pb)].filter (wantB (iterP ps side i) c) = [(pa, pb)] from by simp [hw], List.map_append]; exact strs_cat hzs (.cons _ _ .nil)
      ·rename (Txt.item (two (pa, pb)) 0 == _) = false => e1
       have hw : wantB (iterP ps side i) c (pa, pb) = false := by
        have : pa ≠ c := fun e => by subst e; simp [show Txt.item (two (pa, pb)) 0 = ltr pa from rfl] at e1
        simp [wantB, this]
       refine ⟨_, _, _, rfl, F₈, N₈, off₃, .inl (PySem.IsL.isList (n := nn) gnl), rfl, ?_⟩
       rw [htq, List.filter_append, show [(pa, pb)].filter (wantB (iterP ps side i) c) = [] from by simp [hw], List.append_nil]; exact hzs
     ·rintro zs nw ⟨rfl, hzs⟩
      intro D₃ h₈ tk₈ F₈ N₈ o1
      clear F₆ N₆
      rw [hnl5, List.take_length] at hzs
      dsimp only
      repeat' first | (k_unfold; try dsimp only) | walk1 | (dsimp only; walk1)
      rename (Fr g _ _ _) => F₉
      rename (News g _ _ _) => N₉
      refine Hold.mk (eq_strs (vs := zs) (us := []) (ys := []) (PySem.IsL.isList (N₉ _ (.tail _ (.head _))).1) (PySem.IsL.isList (N₉ _ (.head _)).1) hzs .nil ?_ (fun _ h => nomatch h) (by ktr_units) ?_)
      ·intro x hx
       refine hide fun Dq kq => ?_; obtain ⟨p, hp, rfl⟩ := List.mem_map.mp hx; refine kq ?_; clear kq Dq
       have := hps p (List.mem_filter.mp hp).1
       exact two_ok this.1 this.2.1
      ·dsimp only
       have hcn : c ∉ iterP ps side i := fun hm => by
        have : (List.any ((iterP ps side i).map ltr) fun x => x == ltr c) = true := List.any_eq_true.mpr ⟨ltr c, List.mem_map_of_mem hm, by simp⟩
        rw [hnin] at this; cases this
       rw [← want_free (ps := ps) hcm hcn]
       have N₀ : News g L' _ [(I₂, oI₂), (Cc, oC), (D, LCg.lst ys), (K, oK), (I, oI), (l0, listOf dvs.toArray rn), (L' + 1 + 1, oc), (L' + 1, o2')] := fun p hp => N₉ p (.tail _ (.tail _ hp))
       repeat' first | (k_unfold; try dsimp only) | walk1 | (dsimp only; walk1)
       ·rename (freeB _ _ _ = true) => hf
        refine Hold.mk ⟨_, _, _, rfl, F₉, N₀, ?_, ?_, trivial, rfl, ?_⟩
        ·simp only [LCg.Off3, and_true]; exact off
        ·simp only [LCg.Off1, and_true]; exact offK
        ·rw [htk, List.filter_append, show [c].filter (freeB ps (iterP ps side i)) = [c] from by simp [hf], List.map_append]; exact strs_cat hys (.cons _ _ .nil)
       ·rename (freeB _ _ _ = false) => hf
        refine Hold.mk ⟨_, _, _, rfl, F₉, N₀, ?_, ?_, trivial, rfl, ?_⟩
        ·simp only [LCg.Off3, and_true]; exact off
        ·simp only [LCg.Off1, and_true]; exact offK
        ·rw [htk, List.filter_append, show [c].filter (freeB ps (iterP ps side i)) = [] from by simp [hf], List.append_nil]; exact hys
   ·rintro ys nw ⟨rfl, hys⟩
    intro D h₆ tk₆ F₆ N₆ o1
    clear F₄ N₄
    rw [show works.take (Str.ofString "abcde").cps.size = works from by decide +kernel] at hys
    dsimp only
    have hfl : works.filter (freeB ps (iterP ps side i)) ≠ [] := fun e => by
     have b := nodup_len (l := works) (m := iterP ps side i) (by decide) (all_done hps e)
     rw [iterP_len] at b
     have : works.length = 5 := rfl
     omega
    refine hide fun Dq kq => ?_; obtain ⟨tv', hpv, hpm⟩ := pickV_strs (side := side) hys hfl; refine kq ?_; clear kq Dq
    have hne' : ys ≠ [] := fun q => by rw [q] at hpm; cases hpm
    have hz3 : dvs.length < 1000 := by
     rw [hdv.length, List.length_map, iterP_len]; omega
    simp only [LCg.Off1, and_true] at o1
    have p1 := hap _ (.head _); have p2 := hap _ (.tail _ (.head _)); have p3 := hap _ (.tail _ (.tail _ (.head _)))
    have p4 := o1.1; have p5 := o1.2.1; have p6 := o1.2.2.1; have p7 := o1.2.2.2
    have r1 : l0 ≠ L' + 1 + 1 := Nat.ne_of_gt lA.1
    have r2 : l0 ≠ L' + 1 := Nat.ne_of_gt lA.2
    repeat' first | (k_unfold; try dsimp only) | walk1 | (dsimp only; walk1)
    refine Hold.mk (side_K (n := ys.length) N₆ (.head _) hside hne' ?_)
    rw [hpv]
    dsimp only
    repeat' first | (k_unfold; try dsimp only) | walk1 | (dsimp only; walk1)
    rename (Fr g _ _ _) => F₇
    rename (News g _ _ _) => N₇
    refine ⟨_, _, _, [(l0, listOf (dvs ++ [Value.str (ltr (pickN side (works.filter (freeB ps (iterP ps side i))))) tv']).toArray (rn + 1)), (L' + 1 + 1, oc), (L' + 1, o2')], rfl, F₇, fun p hp => N₇ p ?_, ?_, ?_⟩
    ·simp only [List.cons_append, List.nil_append, List.mem_cons, List.not_mem_nil, or_false] at hp ⊢
     rcases hp with e | e | e | e <;> simp only [e, true_or, or_true]
    ·intro p hp q hq
     rw [List.mem_singleton.mp hq]
     simp only [List.mem_cons, List.not_mem_nil, or_false] at hp
     rcases hp with rfl | rfl | rfl
     ·exact p1
     ·exact p2
     ·exact p3
    ·refine ⟨some (.ref D), some (.int (0 + (i : Nat)) tv), _, _, ?_, rfl, ?_⟩
     ·funext y
      by_cases h : y = Str.ofString "free"
      ·subst h; rfl
      ·simp only [lmap, if_neg h]
     ·show StrsAre _ ((iterP ps side i ++ [pickN side (works.filter (freeB ps (iterP ps side i)))]).map ltr)
      rw [List.map_append]; exact strs_cat hdv (.cons _ _ .nil)
  ·rintro m news h tk₁ ⟨u, v, dvs, rn, rfl, rfl, hdv⟩ F₄ N₄
   clear F₃ N₃
   repeat' first | (k_unfold; try dsimp only) | walk1 | (dsimp only; walk1)
   show Q (.ref l0) _
   exact hret l0 _ _ dvs rn (S.keep F₄) (fresh_of S N₄ (.head _)) (N₄ _ (.head _)).1 hdv
end

end
section
section
variable {prog : Program} {w : World} {A : Around} {E : Value → Shared → Prop} {s : Shared} {h₀ : Heap} {L l : Addr} {m : Str → Option Value} {news : List (Addr × Obj)} {value slice : PySem.Expr} {vs : List Value} {xs : List Str} {x : Str} {t : Tok} {k : Nat} {Q : Value → Shared → Prop}
theorem index_strs (hl : s.heap.IsList l vs.toArray) (hi : StrsAre vs xs) (hk : x ∈ xs) (hz : xs.length < 1000) (h : Q (.int (xs.idxOf x : Nat) s.toks) { s with toks := s.toks + 1 }) :
  wpAny (model prog w) A (call (.builtin "list.index") [.ref l, .str x t]) Q E s := by
 refine hide fun Dq kq => ?_; obtain ⟨⟨cls, dd, data, sl⟩, ho, hc, n, hd⟩ := id hl; refine kq ?_; clear kq Dq
 simp only at hc hd
 subst hc hd
 have hlen := hi.length
 have hj : xs.idxOf x < xs.length := List.idxOf_lt_length_iff.mpr hk
 refine call_meets PySem.F.slot_list_index ⟨_, ho, rfl⟩ PySem.F.entry_list_index (PySem.F.args_list_index_2 _ _)
  (PySem.SeqAt.list_indexAt l vs.toArray n dd sl (.str x t) (isS x) (xs.idxOf x) (by simpa [hlen] using hj) (by omega) ?_ ?_) ⟨ho, fun y hy => (eq_isS hi x t y (by simpa using hy)).at _ _, h⟩
 ·show isS x vs[xs.idxOf x] = true
  rw [isS_at hi x _ (by omega) hj]
  simpa using List.getElem_idxOf hj
 ·intro j hjs hlt
  show isS x vs[j] = false
  rw [isS_at hi x j (by simp at hjs; exact hjs) (by omega)]
  exact decide_eq_false (lt_idx xs j (by omega) hlt)
theorem slice_upto (F : Fr h₀ L s.heap m) (N : News h₀ L s.heap news) (hl : s.heap.IsList l vs.toArray) (hw : k ≤ vs.length) (hz : vs.length < 1000)
  (h : ∀ D h', Fr h₀ L h' m → News h₀ L h' ((D, listOf (vs.take k).toArray 0) :: news) → (∀ p ∈ news, p.1 < D) → Q (.ref D) { s with heap := h' })
  (hs : subscripted slice false (.ref l) (.ref s.heap.objs.size) = operate [.ref s.heap.objs.size, .ref l] (getItem (.ref l) (.ref s.heap.objs.size)) := by with_unfolding_all rfl) (ht : ∀ r, letTemporaryGo value (.ref l) r = pure () := by intro _; with_unfolding_all rfl) :
  wpAny (model prog w) A (subscriptTail value slice (.ref l) (.ref s.heap.objs.size)) Q E { s with heap := s.heap.push { cls := .type "slice", data := .fields #[.none, .int (k : Nat) t, .none] } } :=
 kmk_slice_lit F N hl .none (.int _ _) (by rw [slicePick_upto _ _ (by simpa using hw)]) h hs ht (by rw [sizeLine_eq, List.size_toArray]; omega)
theorem slice_from (F : Fr h₀ L s.heap m) (N : News h₀ L s.heap news) (hl : s.heap.IsList l vs.toArray) (hw : k ≤ vs.length) (hz : vs.length < 1000)
  (h : ∀ D h', Fr h₀ L h' m → News h₀ L h' ((D, listOf (vs.drop k).toArray 0) :: news) → (∀ p ∈ news, p.1 < D) → Q (.ref D) { s with heap := h' })
  (hs : subscripted slice false (.ref l) (.ref s.heap.objs.size) = operate [.ref s.heap.objs.size, .ref l] (getItem (.ref l) (.ref s.heap.objs.size)) := by with_unfolding_all rfl) (ht : ∀ r, letTemporaryGo value (.ref l) r = pure () := by intro _; with_unfolding_all rfl) :
  wpAny (model prog w) A (subscriptTail value slice (.ref l) (.ref s.heap.objs.size)) Q E { s with heap := s.heap.push { cls := .type "slice", data := .fields #[.int (k : Nat) t, .none, .none] } } :=
 kmk_slice_lit F N hl (.int _ _) .none (by rw [slicePick_from _ _ (by simpa using hw)]) h hs ht (by rw [sizeLine_eq, List.size_toArray]; omega)
theorem index_method {its : Array Value} {n : Nat} {pl : Sem Bool} {Q : Value × List Value → Shared → Prop} (ho : s.heap.get? l = some (listOf its n)) (h : Q (.builtin "list.index", [.ref l]) s) : wpAny (model prog w) A (getMethod (.ref l) (Str.ofString "index") pl) Q E s :=
 getMethod_builtin ⟨_, ho, rfl⟩ PySem.F.plainAttrs_list PySem.F.slot_list_index PySem.F.type_list_index (fun a e => by cases e; exact ⟨_, ho, rfl⟩) h
end

end
section
local macro_rules | `(tactic| walk_at "zz") => `(tactic| skip)
theorem Cx.fresh {w : World} {fr : List Env} {h h' : Heap} {mu : List Addr} (C : Cx w fr h []) (k : KeepW fr h h' []) (hm : ∀ b ∈ mu, h.get? b = none) : Cx w fr h' mu := by
 refine hide fun Dq kq => ?_; obtain ⟨A₀, base, h₀, outer, L, m, env, rfl, B, F, BO, hf, hk, _⟩ := C; refine kq ?_; clear kq Dq
 refine hide fun Dq kq => ?_; obtain ⟨g', B', F', _, h4⟩ := rebase B F BO hf k (fun _ h => nomatch h); refine kq ?_; clear kq Dq
 refine ⟨A₀, base, g', outer, L, m, env, rfl, B', F', BO, hf, hk, fun b q => ⟨h4 b ?_, fun e => ?_⟩⟩
 ·cases z : h₀.get? b with
  | none => rfl
  | some o => have := F.keep _ _ z; rw [hm b q] at this; cases this
 ·refine hide fun Dq kq => ?_; obtain ⟨oL, es, ep, hL, _⟩ := F.ns; refine kq ?_; clear kq Dq
  have := hm b q; rw [e, hL] at this; cases this
theorem Cx.funs {w : World} {fr : List Env} {h : Heap} {mu : List Addr} (C : Cx w fr h mu) : ∃ base, h.FunFrames base fr := by
 refine hide fun Dq kq => ?_; obtain ⟨A₀, base, h₀, outer, L, m, env, rfl, B, F, BO, hf, hk, _⟩ := C; refine kq ?_; clear kq Dq
 exact ⟨base, (pushX B F hf hk).frames⟩
section
variable {w : World} {A : Around} {E : Value → Shared → Prop} {s : Shared}
theorem caught_B {X T : String} {env : Env} {fr : List Env} {L e Tb : Addr} {t : Expr} {b₀ : Stmt} {suite : List Stmt} {pos : Pos} {rest : List ExceptHandler} {Q : Flow → Shared → Prop}
  (C : Cx w (env :: fr) s.heap [e, Tb]) (hfr : A.frames = some (env :: fr)) (hf : env.frame = some L) (hx : Flown s.heap e Tb (.type X))
  (hexc : isSubtype (.type T) (.type "BaseException") = pure true) (hnt : isSubtype (.type ((Manifest.find? T).elim "type" fun x => x.metatype)) (.type "tuple") = pure false) (hsub : isSubtype (.type X) (.type T) = pure true)
  (ht : ∀ (s' : Shared) (Q' : Value → Shared → Prop) (E' : Value → Shared → Prop), Cx w (env :: fr) s'.heap [e, Tb] → Q' (.type T) s' → wpAny (model Pg w) (A.mark (some (.ref e))) (eval t env) Q' E' s')
  (k : ∀ h', KeepW (env :: fr) s.heap h' [e, Tb] → wpAny (model Pg w) (A.mark (some (.ref e))) (execs (b₀ :: suite) env) Q (fun _ _ => False) { s with heap := h' }) :
  wpAny (model Pg w) A (noteFrame (.ref e) env) (fun _ s₂ => wpAny (model Pg w) A (setFlight (.ref e) none) (fun _ s₃ => wpAny (model Pg w) A (handleBy (.ref e) env (.ExceptHandler (some t) none (b₀ :: suite) pos :: rest)) Q E s₃) E s₂) E s := by
 obtain ⟨base, hfun⟩ := C.funs
 refine note_more hfr hfun hf hx fun h₁ h₂ T' hk₁ hs₁ z₁ => ?_
 have kw : ∀ h', Noted ((env :: fr).filterMap (·.frame)) h₁ h' e T' (.type X) → KeepW (env :: fr) s.heap h' [e, Tb] := fun h' z b o q hn => by
  simp only [List.mem_cons, List.not_mem_nil, or_false, not_or] at hn
  have q₁ := hk₁ b o hn.2 q
  by_cases ho : Off (env :: fr) b
  ·refine ⟨o.slots, z.keep b o hn.1 (fun hm => ?_) q₁, fun _ => rfl⟩
   refine hide fun Dq kq => ?_; obtain ⟨ev, hev, hq⟩ := List.mem_filterMap.mp hm; refine kq ?_; clear kq Dq
   exact ho ev hev hq
  ·obtain ⟨sl, q'⟩ := z.slots b o hn.1 q₁
   exact ⟨sl, q', fun y => absurd y ho⟩
 refine flight_new (s := { s with heap := h₂ }) z₁ fun h₃ z₃ => ?_
 refine wpAny_handleBy_builtin (b := true) hexc hnt hsub ?_
 refine ht _ _ _ (C.keepW (kw h₃ z₃)) ⟨rfl, ?_, ?_⟩
 ·refine hide fun Dq kq => ?_; obtain ⟨o, vs, a, b, _⟩ := z₃.exc; refine kq ?_; clear kq Dq
  exact ⟨o, a, b⟩
 ·rw [if_pos rfl]
  refine flight_new (s := { s with heap := h₃ }) z₃ fun h₄ z₄ => ?_
  exact wpAny_E (k h₄ (kw h₄ z₄))
end
section
variable {w : World} {dp un : Nat} {fr : List Env} {s : Shared} {Q E : Value → Shared → Prop} {base g : Heap} {L : Addr} {m : Str → Option Value} {env : Env} {own : List (Addr × Obj)} {lo hi : Nat} {ps : List (Nat × Nat)} {x dx d r : Addr} {odx od orr : Obj} {ns : List Nd} {dn outs rs : List Nat} {cf : Str → Int} {cft : Str → Tok}
theorem raise_in {c : Nat} {tq : Tok} (B : Below (Ar dp un fr) base fr g) (F : Fr g L s.heap m) (BO : BOk w base) (hf : env.frame = some L) (hke : env.scope.kind = .function) (hd : dp + 70 < recursionLimit) (hu : un + 800 < cLine)
  (N : News g L s.heap (own ++ sLed x dx d r odx od orr cf cft ns)) (st : SoS w lo hi ps x dx d r od ns) (dy : SoD lo hi ps d r odx orr dn outs rs cf) (hcw : c ∈ works) (hcd : c ∉ dn) (hco : c ∉ outs)
  (k : ∀ (h' : Heap) (tk' : Nat) (e T : Addr), KeepW (env :: fr) s.heap h' [] → s.heap.get? e = none → s.heap.get? T = none → Flown h' e T (.type "ValueError") → E (.ref e) { s with heap := h', toks := tk' }) :
  wpAny (model Pg w) ((Ar dp un fr).deeper env) (call (.ref 148) [.ref x, .str (ltr c) tq]) Q E s := by
 show wpAny (model Pg w) (Ar (dp + 1) (un + 3) (env :: fr)) _ _ _ _
 refine hide fun Dq kq => ?_; obtain ⟨h1, h2, h3, h4, t1, t2, t3, t4, tp, tf, np, nf, en, rn, rv, rfl, rfl, hrv, _, hT⟩ := dy.ex; refine kq ?_; clear kq Dq
 have inS : ∀ p ∈ sLed x dx d r (dictOf (sdict h1 h2 h3 h4 t1 t2 t3 t4 d (.ref r) np nf tp tf) en) od (listOf rv.toArray rn) cf cft ns, s.heap.get? p.1 = some p.2 := fun p hp => (N p (List.mem_append_right _ hp)).1
 have hkn : (ns.map (·.k)).Nodup := by rw [st.nsf.keys]; decide
 obtain ⟨nn, hnn, hnk⟩ := List.mem_map.mp (show ltr c ∈ ns.map (·.k) from by rw [st.nsf.keys]; exact List.mem_map_of_mem hcw)
 rw [← hnk]
 refine done_raise (ns := ns) (nn := nn) (c := cf nn.k) (ct := cft nn.k) (cx_of (env := env) (mu := []) B F BO N no_mu hf hke) (by omega) (by omega) (inS _ (.head _)) (inS _ (.tail _ (.head _)))
  (Heap.dictOf_iff.mpr ⟨od, inS _ (.tail _ (.tail _ (.head _))), st.dic⟩) st.lo hkn hnn (inS _ (.tail _ (.tail _ (.tail _ (.tail _ (List.mem_append_left _ (List.mem_map_of_mem (f := nk cf cft) hnn))))))) (inS _ (.tail _ (.tail _ (.tail _ (.tail _ (List.mem_append_right _ (sts_mem hnn).1)))))) ?_ ⟨c, hcw, hnk⟩ k
 rw [hnk, hT.cfw c hcw hcd hco]
 exact Int.natCast_nonneg _
end
def throughP (ps : List (Nat × Nat)) : List Nat → List Nat → Nat
 | _, [] => 0
 | dn, c :: r => if freeB ps dn c then throughP ps (dn ++ [c]) r + 1 else 0
theorem throughP_cons (ps : List (Nat × Nat)) (dn : List Nat) (c : Nat) (r : List Nat) : throughP ps dn (c :: r) = if freeB ps dn c then throughP ps (dn ++ [c]) r + 1 else 0 := rfl
abbrev tmap (ol nl x : Addr) (many : Value) (u : Option Value) : Str → Option Value := fun y =>
 if y = Str.ofString "work" then u else if y = Str.ofString "many" then some many else if y = Str.ofString "sorter" then some (Value.ref x) else List.lookup y [(Str.ofString "needs", Value.ref nl), (Str.ofString "order", Value.ref ol)]
theorem tmap0 {ol nl x : Addr} {many : Value} : (fun y => if y = Str.ofString "sorter" then some (Value.ref x) else if y = Str.ofString "many" then some many else List.lookup y [(Str.ofString "needs", Value.ref nl), (Str.ofString "order", Value.ref ol)]) = tmap ol nl x many none := by
 funext y
 by_cases h : y = Str.ofString "work"
 ·subst h; rfl
 ·by_cases h2 : y = Str.ofString "many"
  ·subst h2; rfl
  ·by_cases h3 : y = Str.ofString "sorter"
   ·subst h3; rfl
   ·simp only [tmap, if_neg h, if_neg h2, if_neg h3]
theorem tmap_set {ol nl x : Addr} {many : Value} {u : Option Value} {v : Value} : (fun y => if y = Str.ofString "work" then some v else tmap ol nl x many u y) = tmap ol nl x many (some v) := by
 funext y
 by_cases h : y = Str.ofString "work"
 ·subst h; rfl
 ·simp only [tmap, if_neg h]
theorem tmap_many {ol nl x : Addr} {many v : Value} {u : Option Value} : (fun y => if y = Str.ofString "many" then some v else tmap ol nl x many u y) = tmap ol nl x v u := by
 funext y
 by_cases h : y = Str.ofString "many"
 ·subst h; rfl
 ·simp only [tmap, if_neg h]
section
local macro_rules | `(tactic| walk_at "call ref") => `(tactic| (with_reducible refine hold_call 197 ?_))
local macro_rules | `(tactic| walk_at "call ref") => `(tactic| (with_reducible refine hold_call 127 ?_))
local macro_rules | `(tactic| walk_at "call ref") => `(tactic| (with_reducible refine hold_call 148 ?_))
local macro_rules | `(tactic| walk_at "exec For Name Name cons nil") => `(tactic| (refine Hold.out ?_))
local macro_rules | `(tactic| walk_at "exec For") => `(tactic| (refine Hold.out ?_))
local macro_rules | `(tactic| walk_at "exec Try") => `(tactic| (refine Hold.out ?_))
theorem through_spec {w : World} {dp un : Nat} {fr : List Env} {s : Shared} {Q E : Value → Shared → Prop} {nl ol : Addr} {nv ov : List Value} {nn on : Nat} {ps : List (Nat × Nat)} {order : List Nat}
 (C : Cx w fr s.heap []) (hd : dp + 90 < recursionLimit) (hu : un + 1000 < cLine)
 (hnl : s.heap.get? nl = some (listOf nv.toArray nn)) (hnv : StrsAre nv (ps.map two)) (hps : ∀ p ∈ ps, p.1 ∈ works ∧ p.2 ∈ works ∧ p.2 < p.1) (hlen : ps.length < 50)
 (hol : s.heap.get? ol = some (listOf ov.toArray on)) (hov : StrsAre ov (order.map ltr)) (hon : order.Nodup) (how : ∀ c ∈ order, c ∈ works) (fol : Off fr ol) (fnl : Off fr nl)
 (hret : ∀ (t : Tok) (h' : Heap) (tk' : Nat), KeepW fr s.heap h' [] → Q (.int (throughP ps [] order : Nat) t) { s with heap := h', toks := tk' }) :
 wpAny (model Pg w) (Ar dp un fr) (call (.ref 209) [.ref ol, .ref nl]) Q E s := by
 revert w dp un fr s Q E nl ol nv ov nn on ps order
 refine @(pk15 (((w00, δ), ((δ, s00), δ)), δ) ?_)
 generalize z15 _ _ = Z; generalize Z.1.1.1 = w, Z.1.1.2.1 = dp, Z.1.1.2.2 = un, Z.1.2.1.1 = fr, Z.1.2.1.2 = s, Z.1.2.2.1 = Q, Z.1.2.2.2 = E, Z.2.1.1.1 = nl, Z.2.1.1.2 = ol, Z.2.1.2.1 = nv, Z.2.1.2.2 = ov, Z.2.2.1.1 = nn, Z.2.2.1.2 = on, Z.2.2.2.1 = ps, Z.2.2.2.2 = order
 intro C hd hu hnl hnv hps hlen hol hov hon how fol fnl hret
 k_dflt (refine' enter (binds := [(Str.ofString "order", .ref ol), (Str.ofString "needs", .ref nl)]) ?C ?N ?k6 ?k7 ?k8 ?k9 ?kB ?_ ?c2 ?c3 ?c4 ?c5; walk_at "m_in")
 refine @(pk9 δ ?_); generalize z9 _ _ = Z; generalize Z.1.1.1 = g, Z.1.1.2 = L', Z.1.2.1 = h₁, Z.1.2.2 = base, Z.2.1.1 = p, Z.2.1.2 = loose, Z.2.2.1 = mean, Z.2.2.2.1 = mg, Z.2.2.2.2 = mb; intro BO F N B X T S hlt hL
 have gnl := S.out _ _ hnl nN
 have gol := S.out _ _ hol nN
 k_steps
 refine Hold.mk ?_
 refine sorter_in (ps := ps) B F BO rfl rfl (by omega) (by omega) gnl hnv hps hlen ?_
 intro g' h' tk' x dx d r odx od orr ns cf cft B' F' N' up st dy
 refine hide fun Dq kq => ?_; obtain ⟨p', loose', mean', mg', mb', TB⟩ := BO.T; refine kq ?_; clear kq Dq
 have X' := BO.X.keeps B'.stays
 have T' := TB.keeps B'.stays
 clear F N X T
 have offL : ∀ b o, s.heap.get? b = some o → Off fr b → g'.get? b = some o := fun b o e f => up.off (S.out b o e nN) fun ev he hq => by
  rcases List.mem_cons.mp he with rfl | he
  ·have hq : L' = b := Option.some.inj hq
   subst hq
   exact absurd (Heap.lt_size e) (by rw [hL]; exact Nat.lt_irrefl _)
  ·exact f ev he hq
 have gol' := offL _ _ hol fol
 k_steps
 rename (Fr g' _ _ _) => F₂
 rename (News g' _ _ _) => N₂
 rename Heap => h₂
 rw [tmap0] at F₂
 have N₃ : News g' L' h₂ (sLed x dx d r odx od orr cf cft ns) := fun p hp => N₂ p (.tail _ hp)
 clear N₂
 refine Hold.mk ?_
 refine For_H ?_ (hE := ?hE)
 k_steps
 ·refine Hold.mk ?_
  refine for_base (g := g') (fun i m news => E8 fun (t : Tok) (u : Option Value) (odx orr : Obj) (cf : Str → Int) (cft : Str → Tok) (outs rs : List Nat) => A4 (m = tmap ol nl x (.int (i : Nat) t) u) (news = sLed x dx d r odx od orr cf cft ns) (SoD _ _ ps d r odx orr (order.take i) outs rs cf) (throughP ps [] order = throughP ps (order.take i) (order.drop i) + i)) rfl (PySem.IsL.isList (n := on) gol') F₂ N₃ ⟨_, none, odx, orr, cf, cft, [], _, rfl, rfl, by rw [List.take_zero]; exact dy, by simp⟩ rfl rfl ?_ ?_
  ·rintro i v m news h tk₁ I oI hvi ⟨tm, u, odx, orr, cf, cft, outs, rs, rfl, rfl, dy, hth⟩ F₁ N₁ hap
   clear F₂ N₃
   refine hide fun Dq kq => ?_; obtain ⟨y, tv, hy, rfl⟩ := strs_at hov hvi; refine kq ?_; clear kq Dq
   have hi : i < order.length := by
    rcases Nat.lt_or_ge i order.length with z | z
    ·exact z
    ·rw [List.getElem?_eq_none (by simpa using z)] at hy; cases hy
   have hye : y = ltr order[i] := by rw [List.getElem?_map, List.getElem?_eq_getElem hi] at hy; exact (Option.some.inj hy).symm
   subst hye
   have htk : order.take (i + 1) = order.take i ++ [order[i]] := (List.take_append_getElem hi).symm
   have hdr : order.drop i = order[i] :: order.drop (i + 1) := List.drop_eq_getElem_cons hi
   have hcw := how _ (List.getElem_mem hi)
   have hcn : order[i] ∉ order.take i := by
    have := hon
    rw [← List.take_append_drop i order, List.nodup_append] at this
    intro hm
    exact this.2.2 _ hm order[i] (by rw [hdr]; exact .head _) rfl
   generalize order[i] = c at *
   rw [tmap_set] at F₁
   have hapS : ∀ p ∈ [(I, oI)], p.1 ∉ sKeys x dx d r ns := fun p hp hm => by
    rw [List.mem_singleton.mp hp, ← sLed_keys x dx d r odx od orr cf cft ns] at hm
    refine hide fun Dq kq => ?_; obtain ⟨q, hq, e⟩ := List.mem_map.mp hm; refine kq ?_; clear kq Dq
    exact hap q hq e
   refine hide fun Dq kq => ?_; obtain ⟨h1, h2, h3, h4, t1, t2, t3, t4, tp, tf, np, nf, en, rn, rv, rfl, rfl, hrv, _, hT⟩ := id dy.ex; refine kq ?_; clear kq Dq
   k_steps
   refine Hold.mk ?_
   refine ready_in (own := [(I, oI)]) B' F₁ BO rfl rfl (by omega) (by omega) N₁ hapS st dy ?_
   intro h₃ tk₃ U rv' odx' orr' cft' F₃ N₃ hU1 hU2 hrv' _ dy'
   clear F₁ N₁ hap
   replace N₃ : News g' L' h₃ ((I, oI) :: sLed x dx d r odx' od orr' (fun y => if y ∈ rs.map ltr then -1 else cf y) cft' ns) := fun p hp => N₃ p (.tail _ hp)
   have hout := hT.get.2
   refine hide fun Dq kq => ?_; obtain ⟨h1', h2', h3', h4', t1', t2', t3', t4', tp', tf', np', nf', en', rn', rv'', rfl, rfl, hrv'', _, hT'⟩ := id dy'.ex; refine kq ?_; clear kq Dq
   dsimp only
   k_steps
   refine Hold.mk ?_
   refine wpAny_Try_except ?_
   k_steps
   refine Hold.mk ?_
   by_cases hfree : freeB ps (order.take i) c = true
   ·refine done_in (own := [(I, oI)]) B' F₃ BO rfl rfl (by omega) (by omega) N₃ hapS st dy' ((hout c).mpr hfree) ?_
    intro h₄ tk₄ odx₄ orr₄ cf₄ cft₄ as₄ F₄ N₄ dy₄
    clear F₃ N₃
    dsimp only
    k_steps
    rename (Fr g' _ _ _) => F₅
    rename (News g' _ _ _) => N₅
    rw [tmap_many, show ((i : Nat) : Int) + 1 = ((i + 1 : Nat) : Int) from by omega] at F₅
    refine ⟨_, _, _, _, rfl, F₅, N₅, ?_, _, _, odx₄, orr₄, cf₄, cft₄, _, as₄, rfl, rfl, by rw [htk]; exact dy₄, ?_⟩
    ·intro p hp q hq e
     refine hapS q hq ?_
     rw [← sLed_keys x dx d r odx₄ od orr₄ cf₄ cft₄ ns, ← e]
     exact List.mem_map_of_mem hp
    ·rw [hth, hdr, throughP_cons, if_pos hfree, htk]; omega
   ·have hco : c ∉ outs ++ rs := fun z => hfree ((hout c).mp z)
    refine raise_in (own := [(I, oI)]) B' F₃ BO rfl rfl (by omega) (by omega) N₃ st dy' hcw hcn hco ?_
    intro h₄ tk₄ e Tb kw he hTb hfl
    have C₃ := cx_of (env := envOf (Str.ofString "_law_through") (fnS w 209) L' 209 (.ref 208)) (mu := []) B' F₃ BO N₃ no_mu
    have C₄ : Cx w (envOf (Str.ofString "_law_through") (fnS w 209) L' 209 (.ref 208) :: fr) h₄ [e, Tb] := Cx.fresh C₃ kw (by
     simp only [List.mem_cons, List.not_mem_nil, or_false]
     rintro b (rfl | rfl)
     ·exact he
     ·exact hTb)
    refine caught_B (T := "ValueError") C₄ rfl rfl hfl ?_ ?_ ?_ ?_ ?_
    ·rw [isSubtype_type]; kernel_rfl
    ·rw [isSubtype_type]; kernel_rfl
    ·rw [isSubtype_type]; kernel_rfl
    ·intro s' Q' E' C' hQ
     refine hide fun Dq kq => ?_; obtain ⟨A₀, base₂, g₂, outer₂, L₂, m₂, env₂, heq, B₂, F₂, BO₂, hf₂, hk₂, _⟩ := C'; refine kq ?_; clear kq Dq
     obtain ⟨rfl, rfl⟩ := List.cons.inj heq
     have hL₂ : L' = L₂ := Option.some.inj hf₂
     subst hL₂
     refine hide fun Dq kq => ?_; obtain ⟨p₂, loose₂, mean₂, mg₂, mb₂, TB₂⟩ := BO₂.T; refine kq ?_; clear kq Dq
     have X₂ := BO₂.X.keeps B₂.stays
     have T₂ := TB₂.keeps B₂.stays
     have N₂ : News g₂ L' s'.heap [] := fun _ hp => nomatch hp
     clear F₃ N₃ X' T' B'
     k_steps
     exact hQ
    ·intro h₅ kw₅
     have kw₆ : KeepW (envOf (Str.ofString "_law_through") (fnS w 209) L' 209 (.ref 208) :: fr) h₃ h₅ [] := fun b o q _ => by
      refine hide fun Dq kq => ?_; obtain ⟨sl, q1, z1⟩ := kw b o q nN; refine kq ?_; clear kq Dq
      obtain ⟨sl', q2, z2⟩ := kw₅ b _ q1 (by
       simp only [List.mem_cons, List.not_mem_nil, or_false, not_or]
       refine ⟨fun y => ?_, fun y => ?_⟩
       ·rw [y, he] at q; cases q
       ·rw [y, hTb] at q; cases q)
      exact ⟨sl', q2, fun f => (z2 f).trans (z1 f)⟩
     refine hide fun Dq kq => ?_; obtain ⟨g₅, B₅, F₅, up₅, _⟩ := rebase2 B' F₃ BO rfl kw₆ (fun _ h => nomatch h); refine kq ?_; clear kq Dq
     have X₅ := BO.X.keeps B₅.stays
     have T₅ := TB.keeps B₅.stays
     have N₅ : News g₅ L' h₅ [] := fun _ hp => nomatch hp
     have hti : throughP ps [] order = i := by
      rw [hth, hdr, throughP_cons, if_neg hfree]; omega
     clear F₃ N₃ X' T' B'
     k_steps
     rw [← hti]
     exact hret _ _ _ (keepW_end S (up.trans up₅) F₅ hL)
  ·rintro m news h tk₁ ⟨tm, u, odx, orr, cf, cft, outs, rs, rfl, rfl, dy, hth⟩ F₁ N₁
   clear F₂ N₃
   have hlo : ov.length = order.length := by rw [hov.length, List.length_map]
   rw [hlo] at hth F₁
   have hti : throughP ps [] order = order.length := by
    rw [hth, List.drop_length]
    exact Nat.zero_add _
   k_steps
   rw [← hti]
   exact hret _ _ _ (keepW_end S up F₁ hL)
end

end
section
def uldS (st : List Str × List Str) (x : Str) : List Str × List Str := if x ∈ st.2 then (st.1, st.2.eraseIdx (st.2.idxOf x)) else (st.1 ++ [x], st.2)
def uldP (exs axs : List Str) : List Str × List Str := exs.reverse.foldl uldS ([], axs)
theorem remove_no {prog : Program} {w : World} {A : Around} {E : Value → Shared → Prop} {s : Shared} {h₀ : Heap} {L D : Addr} {news : List (Addr × Obj)} {vs : List Value} {xs : List Str} {n : Nat} {x : Str} {t : Tok} {Q : Value → Shared → Prop} (hh : A.handled = none) (N : News h₀ L s.heap news) (hm : (D, listOf vs.toArray n) ∈ news) (hS : StrsAre vs xs) (hx : x ∉ xs)
  (h : ∀ h' tk e, NewX s.heap h' e "ValueError" → E (.ref e) { s with heap := h', toks := tk }) : wpAny (model prog w) A (call (.builtin "list.remove") [.ref D, .str x t]) Q E s := by
 refine call_meets PySem.F.slot_list_remove ⟨_, (N _ hm).1, rfl⟩ PySem.F.entry_list_remove (PySem.F.args_list_remove_2 _ _)
  (MeetsSeq.list_remove_none D vs.toArray n (.str x t) (isS x) (fun y hy => eq_isS hS x t y (by simpa using hy)) ?_) ⟨(N _ hm).1, ?_⟩
 ·intro i hi
  have hl := hS.length
  have hi' : i < xs.length := by rw [← hl]; simpa using hi
  have := isS_at hS x i (by simpa using hi) hi'
  simp only [List.getElem_toArray, this, decide_eq_false_iff_not]
  exact fun e => hx (e ▸ List.getElem_mem hi')
 ·exact ⟨hh, fun h' tk e x => h h' tk e (newX_of x)⟩
abbrev umap (el al M : Addr) (u : Option Value) : Str → Option Value := fun z => if z = Str.ofString "item" then u else if z = Str.ofString "missing" then some (Value.ref M) else List.lookup z [(Str.ofString "actual", Value.ref al), (Str.ofString "expected", Value.ref el)]
theorem umap0 {el al M : Addr} : (fun z => if z = Str.ofString "missing" then some (Value.ref M) else List.lookup z [(Str.ofString "actual", Value.ref al), (Str.ofString "expected", Value.ref el)]) = umap el al M none := by
 funext z
 by_cases h : z = Str.ofString "item"
 ·subst h; rfl
 ·simp only [umap, if_neg h]
theorem umap_set {el al M : Addr} {u : Option Value} {v : Value} : (fun z => if z = Str.ofString "item" then some v else umap el al M u z) = umap el al M (some v) := by
 funext z
 by_cases h : z = Str.ofString "item"
 ·subst h; rfl
 ·simp only [umap, if_neg h]
section
local macro_rules | `(tactic| walk_at "exec While") => `(tactic| (refine Hold.out ?_))
local macro_rules | `(tactic| walk_at "exec Try") => `(tactic| (refine Hold.out ?_))
local macro_rules | `(tactic| walk_at "call builtin:list.remove") => `(tactic| (refine Hold.out ?_))
theorem uld_spec {w : World} {dp un : Nat} {fr : List Env} {s : Shared} {Q E : Value → Shared → Prop} {el al : Addr} {evs avs : List Value} {en an : Nat} {exs axs : List Str}
 (C : Cx w fr s.heap [el, al]) (hd : dp + 10 < recursionLimit) (hu : un + 200 < cLine)
 (hel : s.heap.get? el = some (listOf evs.toArray en)) (hal : s.heap.get? al = some (listOf avs.toArray an)) (hne : el ≠ al) (he : StrsAre evs exs) (ha : StrsAre avs axs) (hez : exs.length < 100) (haz : axs.length < 100)
 (hret : ∀ (T M : Addr) (h' : Heap) (tk' : Nat) (mvs avs' : List Value) (mn an' : Nat), KeepW fr s.heap h' [el, al] → s.heap.get? T = none → s.heap.get? M = none → h'.get? T = some (tupOf [.ref M, .ref al]) → h'.get? M = some (listOf mvs.toArray mn) → h'.get? al = some (listOf avs'.toArray an') →
  StrsAre mvs (uldP exs axs).1 → StrsAre avs' (uldP exs axs).2 → Q (.ref T) { s with heap := h', toks := tk' }) :
 wpAny (model Pg w) (Ar dp un fr) (call (.ref 176) [.ref el, .ref al]) Q E s := by
 revert w dp un fr s Q E el al evs avs en an exs axs
 refine @(pk15 (((w00, δ), ((δ, s00), δ)), δ) ?_)
 generalize z15 _ _ = Z; generalize Z.1.1.1 = w, Z.1.1.2.1 = dp, Z.1.1.2.2 = un, Z.1.2.1.1 = fr, Z.1.2.1.2 = s, Z.1.2.2.1 = Q, Z.1.2.2.2 = E, Z.2.1.1.1 = el, Z.2.1.1.2 = al, Z.2.1.2.1 = evs, Z.2.1.2.2 = avs, Z.2.2.1.1 = en, Z.2.2.1.2 = an, Z.2.2.2.1 = exs, Z.2.2.2.2 = axs
 intro C hd hu hel hal hne he ha hez haz hret
 have hN : ∀ p ∈ [(el, listOf evs.toArray en), (al, listOf avs.toArray an)], s.heap.get? p.1 = some p.2 := fun p hp => by
  simp only [List.mem_cons, List.not_mem_nil, or_false] at hp
  rcases hp with rfl | rfl
  ·exact hel
  ·exact hal
 k_dflt (refine' enterF (news := [(el, listOf evs.toArray en), (al, listOf avs.toArray an)]) (binds := [(Str.ofString "expected", .ref el), (Str.ofString "actual", .ref al)]) ?C ?N ?k6 ?k7 ?k8 ?k9 ?kB ?_ ?c2 ?c3 ?c4 ?c5; walk_at "m_in")
 refine @(pk10 δ ?_); generalize z10 _ _ = Z; generalize Z.1.1.1 = g, Z.1.1.2 = L', Z.1.2.1 = h₁, Z.1.2.2.1 = base, Z.1.2.2.2 = frs, Z.2.1.1 = p, Z.2.1.2 = loose, Z.2.2.1 = mean, Z.2.2.2.1 = mg, Z.2.2.2.2 = mb; intro BO F N hF0 stb X T hout hfin hap hlt hback
 k_steps
 rename_i M hA lM hB F₂ N₂
 rw [umap0] at F₂
 have m1 : M ≠ el := Nat.ne_of_gt lM.1
 have m2 : M ≠ al := Nat.ne_of_gt lM.2.1
 have m3 : ∀ p ∈ frs, p.1 ≠ M := fun p hp => allLt_ne lM.2.2 p hp
 have m4 : ∀ p ∈ frs, p.1 ≠ el := fun p hp => hap (el, listOf evs.toArray en) (.head _) p hp
 have m5 : ∀ p ∈ frs, p.1 ≠ al := fun p hp => hap (al, listOf avs.toArray an) (.tail _ (.head _)) p hp
 have slk : ∀ {frs' : List (Addr × Obj)} {b : Addr}, SlR frs frs' → (∀ p ∈ frs, p.1 ≠ b) → ∀ p ∈ frs', p.1 ≠ b := fun hs h p hp => by
  have hkk : p.1 ∈ frs.map (·.1) := by rw [← hs.keys]; exact List.mem_map_of_mem hp
  refine hide fun Dq kq => ?_; obtain ⟨p', hp', e'⟩ := List.mem_map.mp hkk; refine kq ?_; clear kq Dq
  rw [← e']; exact h p' hp'
 refine Hold.mk (wpAny_E ?_)
 refine While_K (fun n s' => E13 fun (h : Heap) (tk : Nat) (u : Option Value) (mvs evs' avs' : List Value) (mn en' an' : Nat) (mxs exs' axs' : List Str) (frs' : List (Addr × Obj)) => A11 (s' = { s with heap := h, toks := tk }) (Fr g L' h (umap el al M u)) (News g L' h ((M, listOf mvs.toArray mn) :: (el, listOf evs'.toArray en') :: (al, listOf avs'.toArray an') :: frs')) (SlR frs frs') (StrsAre mvs mxs) (StrsAre evs' exs') (StrsAre avs' axs') (exs'.reverse.foldl uldS (mxs, axs') = uldP exs axs) (n = exs'.length) (mxs.length + exs'.length ≤ exs.length) (axs'.length ≤ axs.length)) exs.length
  ⟨_, _, none, [], evs, avs, 0, en, an, [], exs, axs, frs, rfl, F₂, N₂, SlR.rfl, .nil, he, ha, rfl, rfl, by simp, Nat.le_refl _⟩ ?_ PassesOwn.never
 clear F₂ N₂
 rintro n s' hJq; refine hide fun Dq kq => ?_; obtain ⟨h, tk, u, mvs, evs', avs', mn, en', an', mxs, exs', axs', frs', rfl, F₁, N₁, hsl, hm, he', ha', hfold, rfl, hl1, hl2⟩ := hJq; refine kq ?_; clear kq Dq
 have f3 := slk hsl m3; have f4 := slk hsl m4; have f5 := slk hsl m5
 rcases List.eq_nil_or_concat exs' with rfl | ⟨r, x, e⟩
 ·have : evs' = [] := by cases he'; rfl
  subst this
  k_steps
  rename (Fr g L' _ _) => FX
  rename (News g L' _ _) => NX
  rename (_ < _ ∧ _ < _ ∧ _ < _ ∧ AllLt _ _) => lD
  show Q _ _
  have hfold : (mxs, axs') = uldP exs axs := hfold
  have hDf : ∀ q ∈ frs, q.1 ≠ _ := fun q hq => by
   obtain ⟨sl, hq'⟩ := hsl.at hq
   have := allLt_ne lD.2.2.2 _ hq'
   exact this
  refine hret _ M _ _ mvs avs' mn an' (keepW_F FX NX (fun p hp => .tail _ (.tail _ (.tail _ (.tail _ hp)))) hF0 hsl hout hfin) ?_ ?_ (NX _ (.head _)).1 (NX _ (.tail _ (.head _))).1 (NX _ (.tail _ (.tail _ (.tail _ (.head _))))).1 (by rw [← hfold]; exact hm) (by rw [← hfold]; exact ha')
  ·refine fresh_F NX hF0 hout (.head _) ?_ hDf
   simp only [List.map_cons, List.map_nil, List.mem_cons, List.not_mem_nil, or_false, not_or]
   exact ⟨Nat.ne_of_gt lD.2.1, Nat.ne_of_gt lD.2.2.1⟩
  ·refine fresh_F NX hF0 hout (.tail _ (.head _)) ?_ m3
   simp only [List.map_cons, List.map_nil, List.mem_cons, List.not_mem_nil, or_false, not_or]
   exact ⟨m1, m2⟩
 ·rw [List.concat_eq_append] at e
  subst e
  obtain ⟨us, t, rfl, hus⟩ : E2 fun us t => evs' = us ++ [Value.str x t] ∧ StrsAre us r := by
   have hlen : evs'.length = r.length + 1 := by rw [he'.length]; simp
   rcases List.eq_nil_or_concat evs' with e | ⟨us, v, e⟩
   ·rw [e] at hlen; simp at hlen
   ·rw [List.concat_eq_append] at e
    subst e
    have hul : us.length = r.length := by simpa using hlen
    refine hide fun Dq kq => ?_; obtain ⟨y, t, hy, ev⟩ := strs_at he' (i := us.length) (v := v) (by simp); refine kq ?_; clear kq Dq
    rw [hul, List.getElem?_append_right (Nat.le_refl _)] at hy
    have hyx : y = x := by simpa using hy.symm
    refine ⟨us, t, by rw [ev, hyx], ?_⟩
    have := he'.take' us.length
    rw [List.take_left' rfl] at this
    rw [hul, List.take_left' rfl] at this
    exact this
  have hz : us.length < 1000 := by
   have := he'.length
   simp at this hl1; omega
  have hz2 : mvs.length < 1000 := by rw [hm.length]; simp at hl1; omega
  have hz3 : avs'.length < 1000 := by rw [ha'.length]; omega
  rw [List.reverse_append, List.reverse_singleton, List.singleton_append, List.foldl_cons] at hfold
  k_steps
  refine Hold.mk (wpAny_Try_except ?_)
  k_steps
  rename (Fr g L' _ _) => F₃
  rename (News g L' _ _) => N₃
  rename Heap => h₃
  rw [umap_set] at F₃
  refine Hold.mk ?_
  by_cases hx : x ∈ axs'
  ·have hst : uldS (mxs, axs') x = (mxs, axs'.eraseIdx (axs'.idxOf x)) := if_pos hx
   k_dflt (refine' remove_K (n := an') F₃ N₃ ha' hx ?U hz3 ?_; (case U => k_upd))
   intro h₄ F₄ N₄
   clear F₃ N₃
   dsimp only
   k_steps
   rw [hst] at hfold
   exact ⟨r.length, by simp, _, _, _, mvs, us, _, _, _, _, mxs, r, _, frs', rfl, F₄, N₄, hsl, hm, hus, strs_erase ha' _, hfold, rfl, by simp at hl1; omega, Nat.le_trans (List.length_eraseIdx_le ..) hl2⟩
  ·have hst : uldS (mxs, axs') x = (mxs ++ [x], axs') := if_neg hx
   refine remove_no rfl N₃ (.tail _ (.tail _ (.head _))) ha' hx ?_
   intro h₄ tk₄ e hnx
   refine caught_F (T := "ValueError") (base := base) (news := [(M, listOf mvs.toArray mn), (el, listOf us.toArray (en' + 1)), (al, listOf avs'.toArray an')]) rfl rfl rfl F₃ N₃ (hsl.frs hF0) stb ?_ hnx ?_ ?_ ?_ ?_ ?_
   ·simp only [List.mem_cons, List.not_mem_nil, or_false]
    rintro p (rfl | rfl | rfl) q hq
    ·exact f3 q hq
    ·exact f4 q hq
    ·exact f5 q hq
   ·rw [isSubtype_type]; kernel_rfl
   ·rw [isSubtype_type]; kernel_rfl
   ·rw [isSubtype_type]; kernel_rfl
   ·intro s' Q' E' F'' hQ
    k_steps
    exact hQ
   ·intro h₅ frs₅ F₅ N₅ hsl₅
    clear F₃ N₃
    have g3 := slk (hsl.trans hsl₅) m3; have g4 := slk (hsl.trans hsl₅) m4; have g5 := slk (hsl.trans hsl₅) m5
    simp only [List.cons_append, List.nil_append] at N₅
    k_steps
    rename (Fr g L' _ _) => F₆
    rename (News g L' _ _) => N₆
    rw [hst] at hfold
    exact ⟨r.length, by simp, _, _, _, _, us, avs', _, _, _, mxs ++ [x], r, axs', frs₅, rfl, F₆, N₆, hsl.trans hsl₅, strs_cat hm (.cons _ _ .nil), hus, ha', hfold, rfl, by simp at hl1 ⊢; omega, hl2⟩
end

end
section
theorem need_two (a b : Int) (h1 : 0 ≤ a) (h2 : a < 4) (h3 : 0 ≤ b) (h4 : b < 1 + a) : ∃ p : Nat × Nat, (p.1 ∈ works ∧ p.2 ∈ works ∧ p.2 < p.1) ∧ Txt.item (Str.ofString "abcde") (1 + a) ++ Txt.item (Str.ofString "abcde") b = two p := by
 have ha : a = 0 ∨ a = 1 ∨ a = 2 ∨ a = 3 := by omega
 have hb : b = 0 ∨ b = 1 ∨ b = 2 ∨ b = 3 := by omega
 rcases ha with rfl | rfl | rfl | rfl <;> rcases hb with rfl | rfl | rfl | rfl <;> first
  | (exfalso; omega)
  | exact ⟨(98, 97), by decide, by decide +kernel⟩
  | exact ⟨(99, 97), by decide, by decide +kernel⟩
  | exact ⟨(99, 98), by decide, by decide +kernel⟩
  | exact ⟨(100, 97), by decide, by decide +kernel⟩
  | exact ⟨(100, 98), by decide, by decide +kernel⟩
  | exact ⟨(100, 99), by decide, by decide +kernel⟩
  | exact ⟨(101, 97), by decide, by decide +kernel⟩
  | exact ⟨(101, 98), by decide, by decide +kernel⟩
  | exact ⟨(101, 99), by decide, by decide +kernel⟩
  | exact ⟨(101, 100), by decide, by decide +kernel⟩
theorem need_spec {w : World} {dp un : Nat} {fr : List Env} {s : Shared} {Q E : Value → Shared → Prop} {x : Int} {tx : Tok}
 (C : Cx w fr s.heap []) (hd : dp + 10 < recursionLimit) (hu : un + 200 < cLine)
 (hret : ∀ (p : Nat × Nat) (t : Tok) (h' : Heap) (tk' : Nat), (p.1 ∈ works ∧ p.2 ∈ works ∧ p.2 < p.1) → Keep s.heap h' [] → Q (.str (two p) t) { s with heap := h', toks := tk' }) :
 wpAny (model Pg w) (Ar dp un fr) (call (.ref 190) [.int x tx]) Q E s := by
 revert w dp un fr s Q E x tx
 refine @(pk9 (((w00, δ), δ), ((s00, δ), δ)) ?_)
 generalize z9 _ _ = Z; generalize Z.1.1.1 = w, Z.1.1.2 = dp, Z.1.2.1 = un, Z.1.2.2 = fr, Z.2.1.1 = s, Z.2.1.2 = Q, Z.2.2.1 = E, Z.2.2.2.1 = x, Z.2.2.2.2 = tx
 intro C hd hu hret
 k_dflt (refine' enter (binds := [(Str.ofString "x", .int x tx)]) ?C ?N ?k6 ?k7 ?k8 ?k9 ?kB ?_ ?c2 ?c3 ?c4 ?c5; walk_at "m_in")
 refine @(pk9 δ ?_); generalize z9 _ _ = Z; generalize Z.1.1.1 = g, Z.1.1.2 = L', Z.1.2.1 = h₁, Z.1.2.2 = base, Z.2.1.1 = p, Z.2.1.2 = loose, Z.2.2.1 = mean, Z.2.2.2.1 = mg, Z.2.2.2.2 = mb; intro BO F N B X T S hlt hL
 have f1 : 0 ≤ x.fmod 4 := Int.fmod_nonneg_of_pos x (by decide)
 have f2 : x.fmod 4 < 4 := Int.fmod_lt_of_pos x (by decide)
 have f3 : 1 + x.fmod 4 ≠ 0 := by omega
 have f4 : 0 ≤ (x.fdiv 4).fmod (1 + x.fmod 4) := Int.fmod_nonneg_of_pos _ (by omega)
 have f5 : (x.fdiv 4).fmod (1 + x.fmod 4) < 1 + x.fmod 4 := Int.fmod_lt_of_pos _ (by omega)
 k_steps
 show Q _ _
 refine hide fun Dq kq => ?_; obtain ⟨p, hp, e⟩ := need_two _ _ f1 f2 f4 f5; refine kq ?_; clear kq Dq
 rw [e]
 exact hret p _ _ _ hp (S.keep (by assumption))

end
section
local macro_rules | `(tactic| walk_at "execs cons") => `(tactic| (k_here; (with_reducible show wpAny _ _ _ _ _ (Shared.mk _ _ _ (HAdd.hAdd _ _) _)); k_dflt (refine gen_lo (TkLo.le (by assumption) (by omega)) ?_); intro tk hlo'))
local macro_rules | `(tactic| walk_at "execs nil") => `(tactic| (k_here; (with_reducible show wpAny _ _ _ _ _ (Shared.mk _ _ _ (HAdd.hAdd _ _) _)); k_dflt (refine gen_lo (TkLo.le (by assumption) (by omega)) ?_); intro tk hlo'))
local macro_rules | `(tactic| walk_at "execs cons") => `(tactic| (k_here; dsimp only))
local macro_rules | `(tactic| walk_at "execs nil") => `(tactic| (k_here; dsimp only))
section
def toldS (ys row : List Str) : List Int := (List.range 4).map fun k => cmpP ((ys.idxOf (row.getD k Str.empty) : Nat) : Int) ((ys.idxOf (row.getD (k + 1) Str.empty) : Nat) : Int)
def wayStep (ys : List Str) (rows : List (List Str)) : List (List Str) := let row := rows.getLastD []; if 1 ∈ toldS ys row then rows ++ [swapAt row ((toldS ys row).idxOf 1)] else rows
def wayS (xs ys : List Str) : Nat → List (List Str)
 | 0 => [xs]
 | n + 1 => wayStep ys (wayS xs ys n)
inductive RowsIn (g : Heap) (ol : Addr) (tail : List (Addr × Obj)) (ov : List Value) (m : Nat) : List Value → List (List Str) → Prop where
 | nil : RowsIn g ol tail ov m [] []
 | cons {a : Addr} {rv : List Value} {n : Nat} {r : List Str} {vs : List Value} {rows : List (List Str)} (ho : (a = ol ∧ g.get? a = some (listOf rv.toArray n)) ∨ (a, listOf rv.toArray n) ∈ tail) (hr : StrsAre rv r) (hl : r.length = m) (hv : ∀ v ∈ rv, v ∈ ov) (t : RowsIn g ol tail ov m vs rows) : RowsIn g ol tail ov m (.ref a :: vs) (r :: rows)
theorem RowsIn.mono {g : Heap} {ol : Addr} {tail tail' : List (Addr × Obj)} {ov : List Value} {m : Nat} {vs : List Value} {rows : List (List Str)} (x : RowsIn g ol tail ov m vs rows) (k : ∀ p ∈ tail, p ∈ tail') : RowsIn g ol tail' ov m vs rows := by
 induction x with
 | nil => exact .nil
 | cons ho hr hl hv _ ih => exact .cons (ho.imp id (k _)) hr hl hv ih
theorem RowsIn.append {g : Heap} {ol : Addr} {tail : List (Addr × Obj)} {ov : List Value} {m : Nat} {vs us : List Value} {rows rows' : List (List Str)} (x : RowsIn g ol tail ov m vs rows) (y : RowsIn g ol tail ov m us rows') : RowsIn g ol tail ov m (vs ++ us) (rows ++ rows') := by
 induction x with
 | nil => exact y
 | cons ho hr hl hv _ ih => exact .cons ho hr hl hv ih
theorem RowsIn.length {g : Heap} {ol : Addr} {tail : List (Addr × Obj)} {ov : List Value} {m : Nat} {vs : List Value} {rows : List (List Str)} (x : RowsIn g ol tail ov m vs rows) : vs.length = rows.length := by
 induction x with
 | nil => rfl
 | cons _ _ _ _ _ ih => rw [List.length_cons, List.length_cons, ih]
theorem RowsIn.last {g : Heap} {ol : Addr} {tail : List (Addr × Obj)} {ov : List Value} {m : Nat} {vs : List Value} {rows : List (List Str)} (x : RowsIn g ol tail ov m vs rows) (hne : rows ≠ []) :
  E6 fun vs' a rv n rows' r => A6 (vs = vs' ++ [.ref a]) (rows = rows' ++ [r]) (((a = ol ∧ g.get? a = some (listOf rv.toArray n)) ∨ (a, listOf rv.toArray n) ∈ tail)) (StrsAre rv r) (r.length = m) ((∀ v ∈ rv, v ∈ ov)) := by
 induction x with
 | nil => exact absurd rfl hne
 | @cons a rv n r vs rows ho hr hl hv t ih =>
  cases t with
  | nil => exact ⟨[], a, rv, n, [], r, rfl, rfl, ho, hr, hl, hv⟩
  | @cons a₂ rv₂ n₂ r₂ vs₂ rows₂ ho₂ hr₂ hl₂ hv₂ t₂ =>
   refine hide fun Dq kq => ?_; obtain ⟨vs', a', rv', n', rows', r', e1, e2, q1, q2, q3, q4⟩ := ih (by simp); refine kq ?_; clear kq Dq
   exact ⟨_ :: vs', a', rv', n', _ :: rows', r', by rw [e1]; rfl, by rw [e2]; rfl, q1, q2, q3, q4⟩
theorem RowsIn.are {g h : Heap} {ol : Addr} {L : Addr} {m₀ : Str → Option Value} {tail : List (Addr × Obj)} {ov : List Value} {m : Nat} {vs : List Value} {rows : List (List Str)} (x : RowsIn g ol tail ov m vs rows) (F : Fr g L h m₀) (N : ∀ p ∈ tail, h.get? p.1 = some p.2) : RowsAre h vs rows := by
 induction x with
 | nil => exact .nil
 | cons ho hr _ _ _ ih => exact .cons (ho.elim (fun e => F.keep _ _ e.2) fun e => N _ e) hr ih
theorem RowsIn.vals {g : Heap} {ol : Addr} {tail : List (Addr × Obj)} {ov : List Value} {m : Nat} {vs : List Value} {rows : List (List Str)} (x : RowsIn g ol tail ov m vs rows) : ∀ v ∈ vs, ∃ a, v = .ref a ∧ (a = ol ∨ ∃ o, (a, o) ∈ tail) := by
 induction x with
 | nil => exact fun _ h => nomatch h
 | cons ho _ _ _ _ ih =>
  intro v hv
  rcases List.mem_cons.mp hv with rfl | hv
  ·exact ⟨_, rfl, ho.imp (·.1) fun e => ⟨_, e⟩⟩
  ·exact ih v hv
theorem wayStep_snoc (ys r : List Str) (rows : List (List Str)) : wayStep ys (rows ++ [r]) = if 1 ∈ toldS ys r then rows ++ [r] ++ [swapAt r ((toldS ys r).idxOf 1)] else rows ++ [r] := by
 simp [wayStep]
theorem wayS_ne (xs ys : List Str) : ∀ n, wayS xs ys n ≠ []
 | 0 => by simp [wayS]
 | n + 1 => by
  simp only [wayS, wayStep]
  split
  ·simp
  ·exact wayS_ne xs ys n
theorem wayS_len (xs ys : List Str) : ∀ n, (wayS xs ys n).length ≤ n + 1
 | 0 => by simp [wayS]
 | n + 1 => by
  have := wayS_len xs ys n
  simp only [wayS, wayStep]
  split
  ·simp; omega
  ·omega
theorem news_in {g h : Heap} {L r : Addr} {m : Str → Option Value} (F : Fr g L h m) (hr : h.get? r = none) : g.get? r = none ∧ r ≠ L := by
 refine ⟨?_, fun e => ?_⟩
 ·cases q : g.get? r with
  | none => rfl
  | some o => have := F.keep _ _ q; rw [hr] at this; cases this
 ·refine hide fun Dq kq => ?_; obtain ⟨oL, _, _, hL, _⟩ := F.ns; refine kq ?_; clear kq Dq
  rw [e, hL] at hr; cases hr
theorem item_any {prog : Program} {w : World} {A : Around} {E : Value → Shared → Prop} {s : Shared} {l : Addr} {value slice : PySem.Expr} {vs : List Value} {n : Nat} {k : Int} {t : Tok} {v : Value} {Q : Value → Shared → Prop} (hl : s.heap.get? l = some (listOf vs.toArray n)) (hk : 0 ≤ k) (hv : vs[k.toNat]? = some v) (hz : vs.length < 1000) (h : Q v s)
  (hs : subscripted slice false (.ref l) (.int k t) = operate [.ref l, .int k t] (getItem (.ref l) (.int k t)) := by with_unfolding_all rfl) : wpAny (model prog w) A (subscriptTail value slice (.ref l) (.int k t)) Q E s := by
 have hl := PySem.IsL.isList (n := n) hl
 have hlt : k.toNat < vs.length := by
  rcases Nat.lt_or_ge k.toNat vs.length with z | z
  ·exact z
  ·rw [List.getElem?_eq_none z] at hv; cases hv
 exact tail_any hl.typeIs slot_list_getitem.lookup (wpAny_getItem_list hl hk (by omega) (by simpa using hv) h) hs
abbrev wmap (ol : Addr) (u v : Option Value) : Str → Option Value := fun y => if y = Str.ofString "told" then u else if y = Str.ofString "turn" then v else if y = Str.ofString "order" then some (.ref ol) else none
theorem wmap0 {ol : Addr} : (fun y => if y = Str.ofString "order" then some (Value.ref ol) else none) = wmap ol none none := by
 funext y
 by_cases h : y = Str.ofString "told"
 ·subst h; rfl
 ·by_cases h' : y = Str.ofString "turn"
  ·subst h'; rfl
  ·simp only [wmap, if_neg h, if_neg h']
theorem wmap_turn {ol : Addr} {x : Value} {u v : Option Value} : (fun y => if y = Str.ofString "turn" then some x else wmap ol u v y) = wmap ol u (some x) := by
 funext y
 by_cases h : y = Str.ofString "told"
 ·subst h; rfl
 ·by_cases h' : y = Str.ofString "turn"
  ·subst h'; rfl
  ·simp only [wmap, if_neg h, if_neg h']
theorem wmap_told {ol : Addr} {x : Value} {u v : Option Value} : (fun y => if y = Str.ofString "told" then some x else wmap ol u v y) = wmap ol (some x) v := by
 funext y
 by_cases h : y = Str.ofString "told"
 ·subst h; rfl
 ·simp only [wmap, if_neg h]
theorem toldS_succ {ys row : List Str} {q : Nat} (hq : q < 4) : (toldS ys row).take (q + 1) = (toldS ys row).take q ++ [cmpP ((ys.idxOf (row.getD q Str.empty) : Nat) : Int) ((ys.idxOf (row.getD (q + 1) Str.empty) : Nat) : Int)] := by
 rw [List.take_add_one]
 congr 1
 simp [toldS, hq]
theorem small_weight : ∀ ns : List Int, (∀ n ∈ ns, n = 1 ∨ n = -1 ∨ n = 0) → PyData.weightAll (ns.map .int) ≤ 2 * ns.length
 | [], _ => Nat.zero_le _
 | n :: r, h => by
  have ih := small_weight r fun m hm => h m (.tail _ hm)
  have hw : PyData.weight (.int n) ≤ 1 := by
   rcases h n (.head _) with rfl | rfl | rfl <;> simp only [PyData.weight] <;> decide
  simp only [List.map_cons, PyData.weightAll, List.length_cons]
  omega
theorem cmpP_small (a b : Int) : cmpP a b = 1 ∨ cmpP a b = -1 ∨ cmpP a b = 0 := by
 unfold cmpP; split
 ·exact .inl rfl
 ·split
  ·exact .inr (.inl rfl)
  ·exact .inr (.inr rfl)
theorem told_small (ys row : List Str) : ∀ n ∈ toldS ys row, n = 1 ∨ n = -1 ∨ n = 0 := fun n hn => by
 refine hide fun Dq kq => ?_; obtain ⟨k, _, rfl⟩ := List.mem_map.mp hn; refine kq ?_; clear kq Dq
 exact cmpP_small _ _
theorem lay_small (ns : List Int) (h : ∀ n ∈ ns, n = 1 ∨ n = -1 ∨ n = 0) (hl : ns.length < 1000) : PyData.layable0 (.list (ns.map .int)) = true := by
 have := small_weight ns h
 have h1 : (PyData.list (ns.map .int)).canLay0 = true := by simp only [PyData.canLay0, ke_canLayAll0]
 have h2 : (PyData.list (ns.map .int)).depth ≤ 64 := by simp only [PyData.depth, ke_depthAll]; decide
 have h3 : (PyData.list (ns.map .int)).weight ≤ 2 ^ 20 := by simp only [PyData.weight]; omega
 simp only [PyData.layable0, h1, decide_eq_true h2, decide_eq_true h3, Bool.and_self]
theorem lay_told (ys row : List Str) : PyData.layable0 (.list ((toldS ys row).map .int)) = true := lay_small _ (told_small ys row) (by simp [toldS])
theorem any_one (l : List Int) : (l.any fun x => x == 1) = decide (1 ∈ l) := by
 rw [List.any_beq', List.contains_eq_mem]
section
local macro_rules | `(tactic| walk_at "exec For Name Call cons nil") => `(tactic| (refine Hold.out ?_))
local macro_rules | `(tactic| walk_at "exec Assign cons ListComp") => `(tactic| (refine Hold.out ?_))
local macro_rules | `(tactic| walk_at "call builtin:list.index") => `(tactic| (refine Hold.out ?_))
local macro_rules | `(tactic| walk_at "compareOp In int ref") => `(tactic| (refine Hold.out ?_))
local macro_rules | `(tactic| walk_at "subscriptTail Subscript Name UnaryOp Name ref int") => `(tactic| (refine Hold.out ?_))
local macro_rules | `(tactic| walk_at "subscriptTail Subscript Name UnaryOp BinOp ref int") => `(tactic| (refine Hold.out ?_))
local macro_rules | `(tactic| walk_at "subscriptTail Name UnaryOp ref int") => `(tactic| (k_here; k_dflt (refine last_cat (by k_asm) (by k_mem) ?_)))
local macro_rules | `(tactic| walk_at "call ref") => `(tactic| (with_reducible refine hold_call 42 ?_))
local macro_rules | `(tactic| walk_at "call ref") => `(tactic| (with_reducible refine hold_call 183 ?_))
local macro_rules | `(tactic| walk_at "call ref") => `(tactic| (with_reducible refine hold_call 216 ?_))
set_option maxHeartbeats 1500000 in
theorem way_spec {w : World} {dp un : Nat} {fr : List Env} {s : Shared} {Q E : Value → Shared → Prop} {ol gl : Addr} {ov gv : List Value} {on gn : Nat} {xs ys : List Str}
 (C : Cx w fr s.heap []) (hd : dp + 20 < recursionLimit) (hu : un + 300 < cLine)
 (hol : s.heap.get? ol = some (listOf ov.toArray on)) (hov : StrsAre ov xs) (hgl : s.heap.get? gl = some (listOf gv.toArray gn)) (hgv : StrsAre gv ys) (hx5 : xs.length = 5) (hsub : ∀ x ∈ xs, x ∈ ys)
 (htk : ∀ x t, .str x t ∈ ov → t ≠ 0 ∧ ∀ v ∈ gv, Apt x t v)
 (hret : ∀ (R : Addr) (h' : Heap) (tk' : Nat) (rl : List Value) (rn : Nat), Keep s.heap h' [] → s.heap.get? R = none → h'.get? R = some (listOf rl.toArray rn) → RowsAre h' rl (wayS xs ys 11) → (∀ a, .ref a ∈ rl → a ≠ R ∧ (a = ol ∨ s.heap.get? a = none)) → Q (.ref R) { s with heap := h', toks := tk' }) :
 wpAny (model Pg w) (Ar dp un fr) (call (.ref 221) [.ref ol, .ref gl]) Q E s := by
 revert w dp un fr s Q E ol gl ov gv on gn xs ys
 refine @(pk15 (((w00, δ), ((δ, s00), δ)), δ) ?_)
 generalize z15 _ _ = Z; generalize Z.1.1.1 = w, Z.1.1.2.1 = dp, Z.1.1.2.2 = un, Z.1.2.1.1 = fr, Z.1.2.1.2 = s, Z.1.2.2.1 = Q, Z.1.2.2.2 = E, Z.2.1.1.1 = ol, Z.2.1.1.2 = gl, Z.2.1.2.1 = ov, Z.2.1.2.2 = gv, Z.2.2.1.1 = on, Z.2.2.1.2 = gn, Z.2.2.2.1 = xs, Z.2.2.2.2 = ys
 intro C hd hu hol hov hgl hgv hx5 hsub htk hret
 k_dflt (refine' enterC (news := []) (binds := [(Str.ofString "order", .ref ol), (Str.ofString "goal", .ref gl)]) ?C ?N ?k6 ?k7 ?k8 ?k9 ?kB ?_ ?_ ?c2 ?c3 ?c4; (case N => exact no_news); (case C => assumption); (case k6 => k_is); (case k7 => k_is); (case k8 => ktr_room); (case k9 => exact BindsTo.of_eq rfl); (case kB => exact rfl); (case c2 => exact rfl); (case c3 => exact rfl); (case c4 => exact rfl))
 ·decide
 refine @(pk11 δ ?_); generalize z11 _ _ = Z; generalize Z.1.1.1 = g, Z.1.1.2 = L', Z.1.2.1 = h₁, Z.1.2.2.1 = tk, Z.1.2.2.2 = cells, Z.2.1.1 = base, Z.2.1.2.1 = p, Z.2.1.2.2 = loose, Z.2.2.1 = mean, Z.2.2.2.1 = mg, Z.2.2.2.2 = mb; intro BO F N Y B X T S hlt hL
 have gol := S.out _ _ hol nN
 have ggl := S.out _ _ hgl nN
 refine hide fun Dq kq => ?_; obtain ⟨o1', o2', hE', d1', d2'⟩ := CellsAre.two Y; refine kq ?_; clear kq Dq
 subst hE'
 clear Y
 simp only [List.cons_append, List.nil_append] at N
 k_steps
 rename_i R hA lA hB oc F₂ N₂ dc
 refine Hold.mk (For_H ?_ (hE := ?hE))
 k_steps
 ·rename_i hC tkC t1 u1 v1 hR F₃ N₃ hK
  clear hK
  refine Hold.mk ?_
  replace F₃ : Fr g L' hC (wmap ol none none) := (show (fun y => if y = Str.ofString "order" then some (Value.ref ol) else none) = wmap ol none none from wmap0) ▸ F₃
  refine for_range (g := g) (n := 11) (fun i m news => E5 fun (u v : Option Value) (rl : List Value) (rn : Nat) (tail : List (Addr × Obj)) => A4 (m = wmap ol u v) (news = (R, listOf rl.toArray rn) :: (L' + 1 + 1, oc) :: (L' + 1, o2') :: tail) (RowsIn g ol tail ov 5 rl (wayS xs ys i)) (∀ p ∈ tail, p.1 ≠ R ∧ s.heap.get? p.1 = none)) rfl hR (by decide) (by decide) F₃ N₃
   ⟨none, none, [.ref ol], 0, [], rfl, rfl, .cons (.inl ⟨rfl, gol⟩) hov hx5 (fun _ h => h) .nil, fun _ h => nomatch h⟩ rfl rfl ?_ ?_
  ·rintro i tv m news h tk₁ I oI hi ⟨u, v, rl, rn, tail, rfl, rfl, hrows, htail⟩ F₄ N₄ hap
   rw [wmap_turn] at F₄
   clear F₃ N₃
   refine hide fun Dq kq => ?_; obtain ⟨rl', a, rv, n, rows', r, rfl, hre, ho, hrv, hr5, hrs⟩ := hrows.last (wayS_ne xs ys i); refine kq ?_; clear kq Dq
   have hrl : rl'.length < 1000 := by
    have := hrows.length
    have := wayS_len xs ys i
    simp at *; omega
   repeat' first | (k_unfold; try dsimp only) | walk1 | (dsimp only; walk1)
   refine Hold.mk ?_
   k_dflt (refine' Assign_UX ?F ?k0 ?k1 ?k2 ?k3 ?k4 ?k5 ?k6 ?k7 ?k8 ?_; (case F => k_asm); (case k0 => rfl); (case k1 => with_unfolding_all rfl); (case k2 => with_unfolding_all rfl); (case k3 => decide); (case k4 => rfl); (case k5 => decide); (case k6 => rfl); (case k7 => rfl); (case k8 => rfl))
   repeat' first | (k_unfold; try dsimp only) | walk1 | (dsimp only; walk1)
   rename (IsRange _ _ _ _ _ _ _ _) => hR4
   rename (Fr g _ _ _) => F₅
   rename (News g _ _ _) => N₅
   have har : ∀ {h : Heap} {L₀ : Addr} {m₀ : Str → Option Value} {nw : List (Addr × Obj)}, Fr g L₀ h m₀ → News g L₀ h nw → (∀ p ∈ tail, p ∈ nw) → h.get? a = some (listOf rv.toArray n) := fun F N hs => ho.elim (fun e => F.keep _ _ e.2) fun e => (N _ (hs _ e)).1
   have hrv5 : rv.length = 5 := by rw [hrv.length, hr5]
   have hat : ∀ q : Nat, q < 5 → ∃ t, rv[q]? = some (.str (r.getD q Str.empty) t) ∧ r.getD q Str.empty ∈ xs := fun q hq => by
    have e : rv[q]? = some rv[q] := List.getElem?_eq_getElem (by omega)
    refine hide fun Dq kq => ?_; obtain ⟨y, t, hy, ev⟩ := strs_at hrv e; refine kq ?_; clear kq Dq
    refine ⟨t, ?_, ?_⟩
    ·rw [e, ev]; simp [List.getD, hy]
    ·have : Value.str y t ∈ ov := hrs _ (ev ▸ List.getElem_mem (by omega))
     refine hide fun Dq kq => ?_; obtain ⟨j, hj, e2⟩ := List.getElem_of_mem this; refine kq ?_; clear kq Dq
     refine hide fun Dq kq => ?_; obtain ⟨y', t', hy', ev'⟩ := strs_at hov (i := j) (v := .str y t) (by rw [List.getElem?_eq_getElem hj, e2]); refine kq ?_; clear kq Dq
     have : y = y' := by cases ev'; rfl
     subst this
     rw [List.getD, hy]
     exact List.mem_of_getElem? hy'
   refine src_range rfl F₅ N₅ hR4 (by decide) (n := 4) (by decide) (by decide) ?_
   intro h₆
   dsimp only
   refine rest_inv (n := 4) (fun q zs nw => nw = (I, oI) :: (R, listOf (rl' ++ [Value.ref a]).toArray rn) :: (L' + 1 + 1, oc) :: (L' + 1, o2') :: tail ∧ IntsAre zs ((toldS ys r).take q)) ?_ ?_ _ 0 [] _ (Nat.zero_add _) ⟨rfl, .nil⟩
   ·rintro q zs nw kv I₂ oI₂ Cc oC D m₂ h₇ tk₇ E' hq ⟨rfl, hzs⟩ ⟨tq, rfl⟩ hCo hv₂ F₇ N₇ off ne
    clear F₅ N₅
    refine hide fun Dq kq => ?_; obtain ⟨t0, hv0, hm0⟩ := hat q (by omega); refine kq ?_; clear kq Dq
    refine hide fun Dq kq => ?_; obtain ⟨t1, hv1, hm1⟩ := hat (q + 1) (by omega); refine kq ?_; clear kq Dq
    dsimp only
    have hy0 := hsub _ hm0
    have hy1 := hsub _ hm1
    have hb0 := htk _ _ (hrs _ (List.mem_of_getElem? hv0))
    have hb1 := htk _ _ (hrs _ (List.mem_of_getElem? hv1))
    have hlt1 : ∀ p ∈ tail, p ∈ (I₂, oI₂) :: (Cc, oC) :: (D, LCg.lst zs) :: (I, oI) :: (R, listOf (rl' ++ [Value.ref a]).toArray rn) :: (L' + 1 + 1, oc) :: (L' + 1, o2') :: tail := fun p hp => .tail _ (.tail _ (.tail _ (.tail _ (.tail _ (.tail _ (.tail _ hp))))))
    repeat' first | (k_unfold; try dsimp only) | walk1 | (dsimp only; walk1)
    refine Hold.mk (item_any (har F₇ N₇ hlt1) (by omega) (by rw [show ((0 : Int) + (q : Nat)).toNat = q from by omega]; exact hv0) (by omega) ?_)
    dsimp only
    repeat' first | (k_unfold; try dsimp only) | walk1 | (dsimp only; walk1)
    refine Hold.mk ?_
    k_dflt (refine' indexOf_spec (vs := gv) (xs := ys) ?C ?hd ?hu ?hl ?hx ?hy ?hty ?hts ?_; (case C => exact cx_of B F₇ BO N₇ no_mu); (case hd => ktr_room); (case hu => ktr_units); (case hl => exact PySem.IsL.isList (n := gn) (F₇.keep _ _ ggl)); (case hx => exact hgv); (case hy => exact hy0); (case hty => exact hb0.1); (case hts => exact hb0.2))
    intro ta h₈ tk₈ hK₈
    have F₈ := fr_keep0 F₇ hK₈
    have N₈ := news_keep0 N₇ hK₈
    clear F₇ N₇ hK₈
    repeat' first | (k_unfold; try dsimp only) | walk1 | (dsimp only; walk1)
    refine Hold.mk (item_any (har F₈ N₈ hlt1) (by omega) (by rw [show ((0 : Int) + (q : Nat) + 1).toNat = q + 1 from by omega]; exact hv1) (by omega) ?_)
    dsimp only
    repeat' first | (k_unfold; try dsimp only) | walk1 | (dsimp only; walk1)
    refine Hold.mk ?_
    k_dflt (refine' indexOf_spec (vs := gv) (xs := ys) ?C ?hd ?hu ?hl ?hx ?hy ?hty ?hts ?_; (case C => exact cx_of B F₈ BO N₈ no_mu); (case hd => ktr_room); (case hu => ktr_units); (case hl => exact PySem.IsL.isList (n := gn) (F₈.keep _ _ ggl)); (case hx => exact hgv); (case hy => exact hy1); (case hty => exact hb1.1); (case hts => exact hb1.2))
    intro tb h₉ tk₉ hK₉
    have F₉ := fr_keep0 F₈ hK₉
    have N₉ := news_keep0 N₈ hK₉
    clear F₈ N₈ hK₉
    repeat' first | (k_unfold; try dsimp only) | walk1 | (dsimp only; walk1)
    refine Hold.mk ?_
    k_dflt (refine' cmp_spec ?C ?hd ?hu ?_; (case C => exact cx_of B F₉ BO N₉ no_mu); (case hd => ktr_room); (case hu => ktr_units))
    intro tc h₁₀ tk₁₀ hK₁₀ _ _
    have F₁₀ := fr_keep0 F₉ hK₁₀
    have N₁₀ := news_keep0 N₉ hK₁₀
    refine ⟨_, _, _, rfl, F₁₀, N₁₀, off, trivial, rfl, ?_⟩
    rw [toldS_succ hq]
    exact hzs.append (.cons _ _ .nil)
   ·rintro zs nw ⟨rfl, hzs⟩
    intro D h₇ tk₇ F₇ N₇ o1
    clear F₅ N₅
    rw [show (toldS ys r).take 4 = toldS ys r from List.take_of_length_le (by simp [toldS])] at hzs
    rw [wmap_told] at F₇
    simp only [LCg.Off1, and_true] at o1
    dsimp only
    repeat' first | (k_unfold; try dsimp only) | walk1 | (dsimp only; walk1)
    refine Hold.mk (in_list_ints (PySem.IsL.isList (n := zs.length) (N₇ _ (.head _)).1) hzs ?_)
    rw [any_one]
    dsimp only
    have hI : R ≠ I := hap _ (.head _)
    have hI2 : L' + 1 + 1 ≠ I := hap _ (.tail _ (.head _))
    have hI3 : L' + 1 ≠ I := hap _ (.tail _ (.tail _ (.head _)))
    have hI4 : ∀ p ∈ tail, p.1 ≠ I := fun p hp => hap p (.tail _ (.tail _ (.tail _ hp)))
    have c1 : D ≠ R := Ne.symm o1.2.1
    have c3 : L' + 1 + 1 ≠ R := Nat.ne_of_lt lA.1
    have c4 : L' + 1 ≠ R := Nat.ne_of_lt lA.2
    have c5 : ∀ p ∈ tail, p.1 ≠ R := fun p hp => (htail p hp).1
    have c6 : I ≠ R := Ne.symm hI
    have hlt1 : ∀ p ∈ tail, p ∈ (D, LCg.lst zs) :: (I, oI) :: (R, listOf (rl' ++ [Value.ref a]).toArray rn) :: (L' + 1 + 1, oc) :: (L' + 1, o2') :: tail := fun p hp => .tail _ (.tail _ (.tail _ (.tail _ (.tail _ hp))))
    repeat' first | (k_unfold; try dsimp only) | walk1 | (dsimp only; walk1)
    ·rename (1 ∈ toldS ys r) => hin
     have hix : (toldS ys r).idxOf 1 < 4 := by
      have := List.idxOf_lt_length_of_mem hin
      simpa [toldS] using this
     refine Hold.mk (index_list_ints (PySem.IsL.isList (n := zs.length) (N₇ _ (.head _)).1) hzs (lay_told ys r) hin ?_)
     dsimp only
     repeat' first | (k_unfold; try dsimp only) | walk1 | (dsimp only; walk1)
     refine Hold.mk ?_
     k_dflt (refine' changed_spec (vs := rv) (xs := r) ?C ?hd ?hu ?hl ?hx ?hk ?hk5 ?h8 ?_; (case C => exact cx_of B F₇ BO N₇ no_mu); (case hd => ktr_room); (case hu => ktr_units); (case hl => exact PySem.IsL.isList (n := n) (har F₇ N₇ hlt1)); (case hx => exact hrv); (case hk => omega); (case hk5 => omega); (case h8 => omega))
     intro r' h₈ tk₈ n' vs' hK₈ hfr hr' hsv hsubv
     have F₈ := fr_keep0 F₇ hK₈
     have N₈ := news_keep0 N₇ hK₈
     obtain ⟨gr, rL⟩ := news_in F₇ hfr
     have rne : ∀ p ∈ (D, LCg.lst zs) :: (I, oI) :: (R, listOf (rl' ++ [Value.ref a]).toArray rn) :: (L' + 1 + 1, oc) :: (L' + 1, o2') :: tail, r' ≠ p.1 := fun p hp e => by
      have := (N₇ p hp).1
      rw [← e, hfr] at this; cases this
     have sr : s.heap.get? r' = none := by
      cases q : s.heap.get? r' with
      | none => rfl
      | some o => have := S.out _ _ q nN; rw [gr] at this; cases this
     have c0 : r' ≠ R := rne _ (.tail _ (.tail _ (.head _)))
     have N₉ : News g L' h₈ ((r', listOf vs'.toArray n') :: (I, oI) :: (R, listOf (rl' ++ [Value.ref a]).toArray rn) :: (L' + 1 + 1, oc) :: (L' + 1, o2') :: tail) := fun p hp => by
      rcases List.mem_cons.mp hp with rfl | hp
      ·exact ⟨hr', rL, gr⟩
      ·exact N₈ p (.tail _ hp)
     have rI : r' ≠ I := rne _ (.tail _ (.head _))
     clear F₇ N₇ N₈ hK₈ rne
     repeat' first | (k_unfold; try dsimp only) | walk1 | (dsimp only; walk1)
     rename (Fr g _ _ _) => F₉'
     rename (News g _ _ _) => N₉'
     rw [show (rl' ++ [Value.ref a]).toArray.push (Value.ref r') = (rl' ++ [Value.ref a] ++ [Value.ref r']).toArray from by simp] at N₉'
     refine ⟨_, _, _, (R, listOf (rl' ++ [Value.ref a] ++ [Value.ref r']).toArray (rn + 1)) :: (L' + 1 + 1, oc) :: (L' + 1, o2') :: (r', listOf vs'.toArray n') :: tail, rfl, F₉', fun p hp => N₉' p ?_, ?_, some (.ref D), some (.int (0 + (i : Nat)) tv), _, _, (r', listOf vs'.toArray n') :: tail, rfl, rfl, ?_, ?_⟩
     ·exact mem_mv (A := [_, _, _, _]) hp
     ·intro p hp q hq
      rw [List.mem_singleton.mp hq]
      exact all_cons (P := fun p : Addr × Obj => p.1 ≠ I) hI (all_cons hI2 (all_cons hI3 (all_cons rI hI4))) p hp
     ·show RowsIn g ol _ ov 5 _ (wayStep ys (wayS xs ys i))
      rw [hre, wayStep_snoc, if_pos hin, ← hre]
      refine (hrows.mono fun p hp => .tail _ hp).append (.cons (.inr (.head _)) ?_ (by rw [swapAt]; simp [hr5]) (fun v hv => hrs v (hsubv v hv)) .nil)
      rw [show (((toldS ys r).idxOf 1 : Nat) : Int).toNat = (toldS ys r).idxOf 1 from by omega] at hsv
      exact hsv
     ·intro p hp
      rcases List.mem_cons.mp hp with rfl | hp
      ·exact ⟨c0, sr⟩
      ·exact htail p hp
    ·rename (¬ 1 ∈ toldS ys r) => hin
     refine ⟨_, _, _, _, rfl, F₇, fun p hp => N₇ p (.tail _ hp), ?_, some (.ref D), some (.int (0 + (i : Nat)) tv), rl' ++ [.ref a], rn, tail, rfl, rfl, ?_, htail⟩
     ·intro p hp q hq
      rw [List.mem_singleton.mp hq]
      exact hap p hp
     ·show RowsIn g ol tail ov 5 _ (wayStep ys (wayS xs ys i))
      rw [hre, wayStep_snoc, if_neg hin, ← hre]; exact hrows
  ·rintro m news h tk₁ ⟨u, v, rl, rn, tail, rfl, rfl, hrows, htail⟩ F₄ N₄
   clear F₃ N₃
   repeat' first | (k_unfold; try dsimp only) | walk1 | (dsimp only; walk1)
   show Q (.ref R) _
   have hRf := fresh_of S N₄ (.head _)
   refine hret R _ _ rl rn (S.keep F₄) hRf (N₄ _ (.head _)).1 (hrows.are F₄ fun p hp => (N₄ p (.tail _ (.tail _ (.tail _ hp)))).1) fun a ha => ?_
   refine hide fun Dq kq => ?_; obtain ⟨a', e, q⟩ := hrows.vals _ ha; refine kq ?_; clear kq Dq
   obtain rfl := Value.ref.inj e
   rcases q with rfl | ⟨o, hm⟩
   ·exact ⟨fun e => (by rw [e, hRf] at hol; cases hol), .inl rfl⟩
   ·exact ⟨(htail _ hm).1, .inr (htail _ hm).2⟩
end

end
section
def wrongS (ys row : List Str) : List Nat := (List.range 4).filter fun k => (ys.take (ys.idxOf (row.getD k Str.empty))).contains (row.getD (k + 1) Str.empty)
def turnS (row : List Str) (k : Nat) : List Str := row.take k ++ [row.getD (k + 1) Str.empty, row.getD k Str.empty] ++ row.drop (k + 2)
def dueStep (ys : List Str) (rows : List (List Str)) : List (List Str) := let row := rows.getLastD []; match wrongS ys row with
 | [] => rows
 | k :: _ => rows ++ [turnS row k]
def dueS (xs ys : List Str) : Nat → List (List Str)
 | 0 => [xs]
 | n + 1 => dueStep ys (dueS xs ys n)
theorem dueS_ne (xs ys : List Str) : ∀ n, dueS xs ys n ≠ []
 | 0 => by simp [dueS]
 | n + 1 => by
  simp only [dueS, dueStep]
  split
  ·exact dueS_ne xs ys n
  ·simp
theorem dueS_len (xs ys : List Str) : ∀ n, (dueS xs ys n).length ≤ n + 1
 | 0 => by simp [dueS]
 | n + 1 => by
  have := dueS_len xs ys n
  simp only [dueS, dueStep]
  split
  ·omega
  ·simp; omega
theorem dueStep_nil {ys r : List Str} {rows : List (List Str)} (h : wrongS ys r = []) : dueStep ys (rows ++ [r]) = rows ++ [r] := by
 simp [dueStep, h]
theorem dueStep_cons {ys r : List Str} {rows : List (List Str)} {k : Nat} {l : List Nat} (h : wrongS ys r = k :: l) : dueStep ys (rows ++ [r]) = rows ++ [r] ++ [turnS r k] := by
 simp [dueStep, h]
abbrev emap (ol R : Addr) (u v : Option Value) : Str → Option Value := fun y => if y = Str.ofString "wrong" then u else if y = Str.ofString "turn" then v else if y = Str.ofString "rows" then some (.ref R) else if y = Str.ofString "order" then some (.ref ol) else none
theorem emap0 {ol R : Addr} : (fun y => if y = Str.ofString "rows" then some (Value.ref R) else if y = Str.ofString "order" then some (Value.ref ol) else none) = emap ol R none none := by
 funext y
 by_cases h : y = Str.ofString "wrong"
 ·subst h; rfl
 ·by_cases h' : y = Str.ofString "turn"
  ·subst h'; rfl
  ·simp only [emap, if_neg h, if_neg h']
theorem emap_turn {ol R : Addr} {x : Value} {u v : Option Value} : (fun y => if y = Str.ofString "turn" then some x else emap ol R u v y) = emap ol R u (some x) := by
 funext y
 by_cases h : y = Str.ofString "wrong"
 ·subst h; rfl
 ·by_cases h' : y = Str.ofString "turn"
  ·subst h'; rfl
  ·simp only [emap, if_neg h, if_neg h']
theorem emap_wrong {ol R : Addr} {x : Value} {u v : Option Value} : (fun y => if y = Str.ofString "wrong" then some x else emap ol R u v y) = emap ol R (some x) v := by
 funext y
 by_cases h : y = Str.ofString "wrong"
 ·subst h; rfl
 ·simp only [emap, if_neg h]
def wrongB (ys row : List Str) (k : Nat) : Bool := (ys.take (ys.idxOf (row.getD k Str.empty))).contains (row.getD (k + 1) Str.empty)
theorem wrongS_eq (ys row : List Str) : wrongS ys row = (List.range 4).filter (wrongB ys row) := rfl
theorem wrongB_eq (ys row : List Str) (k : Nat) : ((ys.take (ys.idxOf (row.getD k Str.empty))).any fun x => x == row.getD (k + 1) Str.empty) = wrongB ys row k := by
 rw [wrongB, List.any_beq']
section
local macro_rules | `(tactic| walk_at "exec For Name Call cons nil") => `(tactic| (refine Hold.out ?_))
local macro_rules | `(tactic| walk_at "exec Assign cons ListComp") => `(tactic| (refine Hold.out ?_))
local macro_rules | `(tactic| walk_at "getMethod ref") => `(tactic| ((with_reducible show wpAny _ _ (getMethod (Value.ref _) (Str.ofString "index") _) _ _ _); refine Hold.out ?_))
local macro_rules | `(tactic| walk_at "call builtin:list.index") => `(tactic| (refine Hold.out ?_))
local macro_rules | `(tactic| walk_at "compareOp In str ref") => `(tactic| (refine Hold.out ?_))
local macro_rules | `(tactic| walk_at "compareOp NotEq ref ref") => `(tactic| (refine Hold.out ?_))
local macro_rules | `(tactic| walk_at "binaryOp Add ref ref") => `(tactic| (refine Hold.out ?_))
local macro_rules | `(tactic| walk_at "subscriptTail Name Name ref int") => `(tactic| (refine Hold.out ?_))
local macro_rules | `(tactic| walk_at "subscriptTail Name BinOp ref int") => `(tactic| (refine Hold.out ?_))
local macro_rules | `(tactic| walk_at "subscriptTail Name Subscript ref int") => `(tactic| (refine Hold.out ?_))
local macro_rules | `(tactic| walk_at "subscriptTail Name Constant ref int") => `(tactic| (refine Hold.out ?_))
local macro_rules | `(tactic| walk_at "subscriptTail Name Slice ref ref") => `(tactic| (refine Hold.out ?_))
local macro_rules | `(tactic| walk_at "subscriptTail Name UnaryOp ref int") => `(tactic| (k_here; k_dflt (refine last_cat (by k_asm) (by k_mem) ?_)))
theorem due_spec {w : World} {dp un : Nat} {fr : List Env} {s : Shared} {Q E : Value → Shared → Prop} {ol gl : Addr} {ov gv : List Value} {on gn : Nat} {xs ys : List Str}
 (C : Cx w fr s.heap []) (hd : dp + 20 < recursionLimit) (hu : un + 300 < cLine)
 (hol : s.heap.get? ol = some (listOf ov.toArray on)) (hov : StrsAre ov xs) (hgl : s.heap.get? gl = some (listOf gv.toArray gn)) (hgv : StrsAre gv ys) (hx5 : xs.length = 5) (hy5 : ys.length = 5) (hsub : ∀ x ∈ xs, x ∈ ys)
 (hret : ∀ (R : Addr) (h' : Heap) (tk' : Nat) (rl : List Value) (rn : Nat), Keep s.heap h' [] → s.heap.get? R = none → h'.get? R = some (listOf rl.toArray rn) → RowsAre h' rl (dueS xs ys 11) → Q (.ref R) { s with heap := h', toks := tk' }) :
 wpAny (model Pg w) (Ar dp un fr) (call (.ref 226) [.ref ol, .ref gl]) Q E s := by
 revert w dp un fr s Q E ol gl ov gv on gn xs ys
 refine @(pk15 (((w00, δ), ((δ, s00), δ)), δ) ?_)
 generalize z15 _ _ = Z; generalize Z.1.1.1 = w, Z.1.1.2.1 = dp, Z.1.1.2.2 = un, Z.1.2.1.1 = fr, Z.1.2.1.2 = s, Z.1.2.2.1 = Q, Z.1.2.2.2 = E, Z.2.1.1.1 = ol, Z.2.1.1.2 = gl, Z.2.1.2.1 = ov, Z.2.1.2.2 = gv, Z.2.2.1.1 = on, Z.2.2.1.2 = gn, Z.2.2.2.1 = xs, Z.2.2.2.2 = ys
 intro C hd hu hol hov hgl hgv hx5 hy5 hsub hret
 k_dflt (refine' enterC (news := []) (binds := [(Str.ofString "order", .ref ol), (Str.ofString "goal", .ref gl)]) ?C ?N ?k6 ?k7 ?k8 ?k9 ?kB ?_ ?_ ?c2 ?c3 ?c4; (case N => exact no_news); (case C => assumption); (case k6 => k_is); (case k7 => k_is); (case k8 => ktr_room); (case k9 => exact BindsTo.of_eq rfl); (case kB => exact rfl); (case c2 => exact rfl); (case c3 => exact rfl); (case c4 => exact rfl))
 ·decide
 refine @(pk11 δ ?_); generalize z11 _ _ = Z; generalize Z.1.1.1 = g, Z.1.1.2 = L', Z.1.2.1 = h₁, Z.1.2.2.1 = tk, Z.1.2.2.2 = cells, Z.2.1.1 = base, Z.2.1.2.1 = p, Z.2.1.2.2 = loose, Z.2.2.1 = mean, Z.2.2.2.1 = mg, Z.2.2.2.2 = mb; intro BO F N Y B X T S hlt hL
 have gol := S.out _ _ hol nN
 have ggl := S.out _ _ hgl nN
 refine hide fun Dq kq => ?_; obtain ⟨o1', o2', hE', d1', d2'⟩ := CellsAre.two Y; refine kq ?_; clear kq Dq
 subst hE'
 clear Y
 simp only [List.cons_append, List.nil_append] at N
 k_steps
 rename_i R hA lA hB F₂ N₂
 refine Hold.mk (For_H ?_ (hE := ?hE))
 k_steps
 ·rename_i hC tkC t1 u1 v1 hR F₃ N₃ hK
  clear hK
  refine Hold.mk ?_
  replace F₃ : Fr g L' hC (emap ol R none none) := (show (fun y => if y = Str.ofString "rows" then some (Value.ref R) else if y = Str.ofString "order" then some (Value.ref ol) else none) = emap ol R none none from emap0) ▸ F₃
  refine for_range (g := g) (n := 11) (fun i m news => E7 fun (u v : Option Value) (rl : List Value) (rn : Nat) (tail : List (Addr × Obj)) (oc : Obj) (v₀ : Option Value) => A5 (m = emap ol R u v) (news = (R, listOf rl.toArray rn) :: (L' + 1 + 1, oc) :: (L' + 1, o2') :: tail) (oc.data = .cell v₀) (RowsIn g ol tail ov 5 rl (dueS xs ys i)) (∀ p ∈ tail, p.1 ≠ R ∧ p.1 ≠ L' + 1 + 1)) rfl hR (by decide) (by decide) F₃ N₃
   ⟨none, none, [.ref ol], 0, [], o1', none, rfl, rfl, d1', .cons (.inl ⟨rfl, gol⟩) hov hx5 (fun _ h => h) .nil, fun _ h => nomatch h⟩ rfl rfl ?_ ?_
  ·rintro i tv m news h tk₁ I oI hi ⟨u, v, rl, rn, tail, oc, v₀, rfl, rfl, hoc, hrows, htail⟩ F₄ N₄ hap
   rw [emap_turn] at F₄
   clear F₃ N₃
   refine hide fun Dq kq => ?_; obtain ⟨rl', a, rv, n, rows', r, rfl, hre, ho, hrv, hr5, hrs⟩ := hrows.last (dueS_ne xs ys i); refine kq ?_; clear kq Dq
   have hrl : rl'.length < 1000 := by
    have := hrows.length
    have := dueS_len xs ys i
    simp at *; omega
   have hI : R ≠ I := hap _ (.head _)
   have hI2 : L' + 1 + 1 ≠ I := hap _ (.tail _ (.head _))
   have hI3 : L' + 1 ≠ I := hap _ (.tail _ (.tail _ (.head _)))
   have hI4 : ∀ p ∈ tail, p.1 ≠ I := fun p hp => hap p (.tail _ (.tail _ (.tail _ hp)))
   have c3 : L' + 1 + 1 ≠ R := Nat.ne_of_lt lA.1
   have c4 : L' + 1 ≠ R := Nat.ne_of_lt lA.2
   have c5 : ∀ p ∈ tail, p.1 ≠ R := fun p hp => (htail p hp).1
   have c7 : ∀ p ∈ tail, p.1 ≠ L' + 1 + 1 := fun p hp => (htail p hp).2
   have c8 : L' + 1 ≠ L' + 1 + 1 := Nat.ne_of_lt (Nat.lt_succ_self _)
   have c9 : I ≠ L' + 1 + 1 := Ne.symm hI2
   have c10 : R ≠ L' + 1 + 1 := Ne.symm c3
   have c6 : I ≠ R := Ne.symm hI
   have har : ∀ {h : Heap} {L₀ : Addr} {m₀ : Str → Option Value} {nw : List (Addr × Obj)}, Fr g L₀ h m₀ → News g L₀ h nw → (∀ p ∈ tail, p ∈ nw) → h.get? a = some (listOf rv.toArray n) := fun F N hs => ho.elim (fun e => F.keep _ _ e.2) fun e => (N _ (hs _ e)).1
   have hrv5 : rv.length = 5 := by rw [hrv.length, hr5]
   have hat : ∀ q : Nat, q < 5 → ∃ t, rv[q]? = some (.str (r.getD q Str.empty) t) ∧ r.getD q Str.empty ∈ xs := fun q hq => by
    have e : rv[q]? = some rv[q] := List.getElem?_eq_getElem (by omega)
    refine hide fun Dq kq => ?_; obtain ⟨y, t, hy, ev⟩ := strs_at hrv e; refine kq ?_; clear kq Dq
    refine ⟨t, ?_, ?_⟩
    ·rw [e, ev]; simp [List.getD, hy]
    ·have : Value.str y t ∈ ov := hrs _ (ev ▸ List.getElem_mem (by omega))
     refine hide fun Dq kq => ?_; obtain ⟨j, hj, e2⟩ := List.getElem_of_mem this; refine kq ?_; clear kq Dq
     refine hide fun Dq kq => ?_; obtain ⟨y', t', hy', ev'⟩ := strs_at hov (i := j) (v := .str y t) (by rw [List.getElem?_eq_getElem hj, e2]); refine kq ?_; clear kq Dq
     have : y = y' := by cases ev'; rfl
     subst this
     rw [List.getD, hy]
     exact List.mem_of_getElem? hy'
   have hgv5 : gv.length = 5 := by rw [hgv.length, hy5]
   repeat' first | (k_unfold; try dsimp only) | walk1 | (dsimp only; walk1)
   refine Hold.mk ?_
   k_dflt (refine' Assign_TX ?F ?k0 ?k1 ?k2 ?k3 ?k4 ?k5 ?k6 ?k7 ?k8 ?_; (case F => k_asm); (case k0 => rfl); (case k1 => with_unfolding_all rfl); (case k2 => with_unfolding_all rfl); (case k3 => decide); (case k4 => rfl); (case k5 => decide); (case k6 => rfl); (case k7 => rfl); (case k8 => rfl))
   repeat' first | (k_unfold; try dsimp only) | walk1 | (dsimp only; walk1)
   rename (IsRange _ _ _ _ _ _ _ _) => hR4
   rename (Fr g _ _ _) => F₅
   rename (News g _ _ _) => N₅
   rename Obj => oR
   rename (oR.data = Data.cell (some (Value.ref a))) => dR
   clear hoc
   refine src_range rfl F₅ N₅ hR4 (by decide) (n := 4) (by decide) (by decide) ?_
   intro h₆
   dsimp only
   refine rest_invT (n := 4) (fun q zs nw => nw = (I, oI) :: (R, listOf (rl' ++ [Value.ref a]).toArray rn) :: (L' + 1 + 1, oR) :: (L' + 1, o2') :: tail ∧ IntsAre zs (((List.range q).filter (wrongB ys r)).map fun k : Nat => (k : Int))) ?_ ?_ _ 0 [] _ (Nat.zero_add _) ⟨rfl, .nil⟩
   ·rintro q zs nw kv I₂ oI₂ Cc oC D m₂ h₇ tk₇ E' hq ⟨rfl, hzs⟩ ⟨tq, rfl⟩ hCo hv₂ F₇ N₇ off ne
    clear F₅ N₅
    refine hide fun Dq kq => ?_; obtain ⟨t0, hv0, hm0⟩ := hat q (by omega); refine kq ?_; clear kq Dq
    refine hide fun Dq kq => ?_; obtain ⟨t1, hv1, hm1⟩ := hat (q + 1) (by omega); refine kq ?_; clear kq Dq
    have hix : ys.idxOf (r.getD q Str.empty) ≤ gv.length := by rw [hgv.length]; exact List.idxOf_le_length
    have off' := off
    have hlt1 : ∀ p ∈ tail, p ∈ (I₂, oI₂) :: (Cc, oC) :: (D, LCg.lst zs) :: (I, oI) :: (R, listOf (rl' ++ [Value.ref a]).toArray rn) :: (L' + 1 + 1, oR) :: (L' + 1, o2') :: tail := fun p hp => .tail _ (.tail _ (.tail _ (.tail _ (.tail _ (.tail _ (.tail _ hp))))))
    (try dsimp only)
    repeat' first | (k_unfold; try dsimp only) | walk1 | (dsimp only; walk1)
    refine Hold.mk (item_any (har F₇ N₇ hlt1) (by omega) (by rw [show ((0 : Int) + (q : Nat) + 1).toNat = q + 1 from by omega]; exact hv1) (by omega) ?_)
    (try dsimp only)
    repeat' first | (k_unfold; try dsimp only) | walk1 | (dsimp only; walk1)
    refine Hold.mk (index_method (F₇.keep _ _ ggl) ?_)
    (try dsimp only)
    repeat' first | (k_unfold; try dsimp only) | walk1 | (dsimp only; walk1)
    refine Hold.mk (item_any (har F₇ N₇ hlt1) (by omega) (by rw [show ((0 : Int) + (q : Nat)).toNat = q from by omega]; exact hv0) (by omega) ?_)
    (try dsimp only)
    repeat' first | (k_unfold; try dsimp only) | walk1 | (dsimp only; walk1)
    refine Hold.mk (index_strs (PySem.IsL.isList (n := gn) (F₇.keep _ _ ggl)) hgv (hsub _ hm0) (by omega) ?_)
    (try dsimp only)
    repeat' first | (k_unfold; try dsimp only) | walk1 | (dsimp only; walk1)
    refine Hold.mk ?_
    k_dflt (refine' slice_upto (vs := gv) (k := ys.idxOf (r.getD q Str.empty)) ?F ?N ?hl ?hw ?hz ?_; (case F => k_asm); (case N => k_asm); (case hl => exact PySem.IsL.isList (n := gn) (F₇.keep _ _ ggl)); (case hw => exact hix); (case hz => omega))
    intro D₈ h₈ F₈ N₈ l8
    clear F₇ N₇
    (try dsimp only)
    repeat' first | (k_unfold; try dsimp only) | walk1 | (dsimp only; walk1)
    refine Hold.mk (in_list_strs (PySem.IsL.isList (n := 0) (N₈ _ (.head _)).1) (hgv.take' _) ?_)
    rw [wrongB_eq]
    have N₉ : News g L' _ _ := fun p hp => N₈ p (.tail _ hp)
    repeat' first | (k_unfold; try dsimp only) | walk1 | (dsimp only; walk1)
    ·rename (wrongB _ _ _ = true) => hb
     refine ⟨_, _, _, rfl, F₈, N₉, off', trivial, rfl, ?_⟩
     rw [List.range_succ, List.filter_append, show [q].filter (wrongB ys r) = [q] from by simp [hb], List.map_append]
     have : (0 : Int) + (q : Nat) = (q : Int) := by omega
     rw [this]
     exact hzs.append (.cons _ _ .nil)
    ·rename (wrongB _ _ _ = false) => hb
     refine ⟨_, _, _, rfl, F₈, N₉, off', trivial, rfl, ?_⟩
     rw [List.range_succ, List.filter_append, show [q].filter (wrongB ys r) = [] from by simp [hb], List.append_nil]
     exact hzs
   ·rintro zs nw ⟨rfl, hzs⟩
    intro D h₇ tk₇ F₇ N₇ o1
    clear F₅ N₅
    rw [← wrongS_eq] at hzs
    rw [emap_wrong] at F₇
    simp only [LCg.Off1] at o1
    (try dsimp only)
    repeat' first | (k_unfold; try dsimp only) | walk1 | (dsimp only; walk1)
    rename (Fr g _ _ _) => F₈
    rename (News g _ _ _) => N₈
    refine Hold.mk (ke_ne_ints (ns := (wrongS ys r).map fun k : Nat => (k : Int)) (ms := []) (PySem.IsL.isList (n := zs.length) (N₈ _ (.tail _ (.head _))).1) (PySem.IsL.isList (n := 0) (items := ([] : List Value).toArray) (N₈ _ (.head _)).1) hzs .nil (by ktr_units) ?_)
    have N₉ : News g L' _ _ := fun p hp => N₈ p (.tail _ hp)
    clear N₈
    cases hw : wrongS ys r with
    | nil =>
     rw [hw] at hzs
     dsimp only [List.map]
     rw [show (!decide (([] : List Int) = [])) = false from rfl]
     repeat' first | (k_unfold; try dsimp only) | walk1 | (dsimp only; walk1)
     refine ⟨_, _, _, _, rfl, F₈, fun p hp => N₉ p (.tail _ hp), ?_, some (.ref D), some (.int (0 + (i : Nat)) tv), rl' ++ [.ref a], rn, tail, oR, _, rfl, rfl, dR, ?_, htail⟩
     ·intro p hp q hq
      rw [List.mem_singleton.mp hq]
      simp only [List.mem_cons] at hp
      rcases hp with rfl | rfl | rfl | hp
      ·exact hI
      ·exact hI2
      ·exact hI3
      ·exact hI4 p hp
     ·show RowsIn g ol tail ov 5 _ (dueStep ys (dueS xs ys i))
      rw [hre, dueStep_nil hw, ← hre]; exact hrows
    | cons k wl =>
     rw [hw] at hzs
     have hk4 : k < 4 := by
      have : k ∈ wrongS ys r := by rw [hw]; exact .head _
      rw [wrongS_eq, List.mem_filter, List.mem_range] at this
      exact this.1
     refine hide fun Dq kq => ?_; obtain ⟨tz, zs', rfl, _⟩ := hzs.cons_inv; refine kq ?_; clear kq Dq
     rw [show (!decide (((k :: wl).map fun k : Nat => (k : Int)) = [])) = true from rfl]
     refine hide fun Dq kq => ?_; obtain ⟨t0, hv0, hm0⟩ := hat k (by omega); refine kq ?_; clear kq Dq
     refine hide fun Dq kq => ?_; obtain ⟨t1, hv1, hm1⟩ := hat (k + 1) (by omega); refine kq ?_; clear kq Dq
     have hltD : ∀ p ∈ tail, p ∈ (D, LCg.lst (Value.int (k : Nat) tz :: zs')) :: (I, oI) :: (R, listOf (rl' ++ [Value.ref a]).toArray rn) :: (L' + 1 + 1, oR) :: (L' + 1, o2') :: tail := fun p hp => .tail _ (.tail _ (.tail _ (.tail _ (.tail _ hp))))
     have hz5 : (Value.int (k : Nat) tz :: zs').length < 1000 := by
      have h1 := hzs.length
      have h2 : (wrongS ys r).length ≤ 4 := by rw [wrongS_eq]; exact Nat.le_trans (List.length_filter_le ..) (by simp)
      rw [hw] at h2
      simp at h1 h2 ⊢; omega
     repeat' first | (k_unfold; try dsimp only) | walk1 | (dsimp only; walk1)
     refine Hold.mk (item_any (n := (Value.int (k : Nat) tz :: zs').length) (vs := Value.int (k : Nat) tz :: zs') (v := .int (k : Nat) tz) (N₉ _ (.head _)).1 (by decide) rfl hz5 ?_)
     repeat' first | (k_unfold; try dsimp only) | walk1 | (dsimp only; walk1)
     refine Hold.mk ?_
     k_dflt (refine' slice_upto (vs := rv) (k := k) ?F ?N ?hl ?hw ?hz ?_; (case F => exact F₈); (case N => exact N₉); (case hl => exact PySem.IsL.isList (n := n) (har F₈ N₉ hltD)); (case hw => omega); (case hz => omega))
     intro D₁ h₉ F₉ N₁ l9
     have hltE : ∀ p ∈ tail, p ∈ (D₁, listOf (rv.take k).toArray 0) :: (D, LCg.lst (Value.int (k : Nat) tz :: zs')) :: (I, oI) :: (R, listOf (rl' ++ [Value.ref a]).toArray rn) :: (L' + 1 + 1, oR) :: (L' + 1, o2') :: tail := fun p hp => .tail _ (hltD p hp)
     clear F₈
     repeat' first | (k_unfold; try dsimp only) | walk1 | (dsimp only; walk1)
     refine Hold.mk (item_any (n := (Value.int (k : Nat) tz :: zs').length) (vs := Value.int (k : Nat) tz :: zs') (v := .int (k : Nat) tz) (N₁ _ (.tail _ (.head _))).1 (by decide) rfl hz5 ?_)
     repeat' first | (k_unfold; try dsimp only) | walk1 | (dsimp only; walk1)
     refine Hold.mk (item_any (har F₉ N₁ hltE) (by omega) (by rw [show (((k : Nat) : Int) + 1).toNat = k + 1 from by omega]; exact hv1) (by omega) ?_)
     repeat' first | (k_unfold; try dsimp only) | walk1 | (dsimp only; walk1)
     refine Hold.mk (item_any (n := (Value.int (k : Nat) tz :: zs').length) (vs := Value.int (k : Nat) tz :: zs') (v := .int (k : Nat) tz) (N₁ _ (.tail _ (.head _))).1 (by decide) rfl hz5 ?_)
     repeat' first | (k_unfold; try dsimp only) | walk1 | (dsimp only; walk1)
     refine Hold.mk (item_any (har F₉ N₁ hltE) (by omega) (by rw [show ((k : Nat) : Int).toNat = k from by omega]; exact hv0) (by omega) ?_)
     repeat' first | (k_unfold; try dsimp only) | walk1 | (dsimp only; walk1)
     rename (Fr g _ _ _) => F₁₀
     rename (News g _ _ _) => N₁₀
     refine Hold.mk ?_
     k_dflt (refine' add_K (vs := rv.take k) (us := [Value.str (r.getD (k + 1) Str.empty) t1, Value.str (r.getD k Str.empty) t0]) ?F ?N ?a ?b ?z ?_; (case F => exact F₁₀); (case N => exact N₁₀); (case a => k_mem); (case b => k_mem); (case z => simp; omega))
     intro D₂ h₁₁ F₁₁ N₁₁ l11
     clear F₁₀
     repeat' first | (k_unfold; try dsimp only) | walk1 | (dsimp only; walk1)
     refine Hold.mk (item_any (n := (Value.int (k : Nat) tz :: zs').length) (vs := Value.int (k : Nat) tz :: zs') (v := .int (k : Nat) tz) (N₁₁ _ (.tail _ (.tail _ (.tail _ (.head _))))).1 (by decide) rfl hz5 ?_)
     have e2 : ((k : Nat) : Int) + 2 = ((k + 2 : Nat) : Int) := by omega
     repeat' first | (k_unfold; try dsimp only) | walk1 | (dsimp only; walk1)
     rw [e2]
     refine Hold.mk ?_
     k_dflt (refine' slice_from (vs := rv) (k := k + 2) ?F ?N ?hl ?hw ?hz ?_; (case F => exact F₁₁); (case N => exact N₁₁); (case hl => exact PySem.IsL.isList (n := n) (har F₁₁ N₁₁ fun p hp => .tail _ (.tail _ (hltE p hp)))); (case hw => omega); (case hz => omega))
     intro D₃ h₁₂ F₁₂ N₁₂ l12
     clear F₁₁
     repeat' first | (k_unfold; try dsimp only) | walk1 | (dsimp only; walk1)
     refine Hold.mk ?_
     k_dflt (refine' add_K (vs := rv.take k ++ [Value.str (r.getD (k + 1) Str.empty) t1, Value.str (r.getD k Str.empty) t0]) (us := rv.drop (k + 2)) ?F ?N ?a ?b ?z ?_; (case F => exact F₁₂); (case N => exact N₁₂); (case a => k_mem); (case b => k_mem); (case z => simp; omega))
     intro D₄ h₁₃ F₁₃ N₁₃ l13
     clear F₁₂
     generalize hnr : rv.take k ++ [Value.str (r.getD (k + 1) Str.empty) t1, Value.str (r.getD k Str.empty) t0] ++ rv.drop (k + 2) = nr at *
     have hnS : StrsAre nr (turnS r k) := by
      rw [← hnr]
      exact strs_cat (strs_cat (hrv.take' k) (.cons _ _ (.cons _ _ .nil))) (hrv.drop' (k + 2))
     have hnv : ∀ v ∈ nr, v ∈ ov := fun v hv => by
      rw [← hnr] at hv
      rcases List.mem_append.mp hv with hv | hv
      ·rcases List.mem_append.mp hv with hv | hv
       ·exact hrs v (List.mem_of_mem_take hv)
       ·simp only [List.mem_cons, List.not_mem_nil, or_false] at hv
        rcases hv with rfl | rfl
        ·exact hrs _ (List.mem_of_getElem? hv1)
        ·exact hrs _ (List.mem_of_getElem? hv0)
      ·exact hrs v (List.mem_of_mem_drop hv)
     have hn5 : (turnS r k).length = 5 := by simp [turnS, hr5]; omega
     have ne4 : ∀ p ∈ (I, oI) :: (R, listOf (rl' ++ [Value.ref a]).toArray rn) :: (L' + 1 + 1, oR) :: (L' + 1, o2') :: tail, D₄ ≠ p.1 := fun p hp => Nat.ne_of_gt (l13 p (.tail _ (.tail _ (.tail _ (.tail _ (.tail _ hp))))))
     have N₁₄ : News g L' h₁₃ ((D₄, listOf nr.toArray 0) :: (I, oI) :: (R, listOf (rl' ++ [Value.ref a]).toArray rn) :: (L' + 1 + 1, oR) :: (L' + 1, o2') :: tail) := fun p hp => by
      rcases List.mem_cons.mp hp with rfl | hp
      ·exact N₁₃ _ (.head _)
      ·exact N₁₃ p (.tail _ (.tail _ (.tail _ (.tail _ (.tail _ (.tail _ hp))))))
     have d1 : D₄ ≠ R := ne4 _ (.tail _ (.head _))
     have d2 : D₄ ≠ I := ne4 _ (.head _)
     have d3 : D₄ ≠ L' + 1 + 1 := ne4 _ (.tail _ (.tail _ (.head _)))
     clear N₁₃ l13 l12 l11 l9 ne4
     repeat' first | (k_unfold; try dsimp only) | walk1 | (dsimp only; walk1)
     rename (Fr g _ _ _) => F₁₅
     rename (News g _ _ _) => N₁₅
     rw [show (rl' ++ [Value.ref a]).toArray.push (Value.ref D₄) = (rl' ++ [Value.ref a] ++ [Value.ref D₄]).toArray from by simp] at N₁₅
     refine ⟨_, _, _, (R, listOf (rl' ++ [Value.ref a] ++ [Value.ref D₄]).toArray (rn + 1)) :: (L' + 1 + 1, oR) :: (L' + 1, o2') :: (D₄, listOf nr.toArray 0) :: tail, rfl, F₁₅, fun p hp => N₁₅ p ?_, ?_, some (.ref D), some (.int (0 + (i : Nat)) tv), _, _, (D₄, listOf nr.toArray 0) :: tail, oR, _, rfl, rfl, dR, ?_, ?_⟩
     ·exact mem_mv (A := [_, _, _, _]) hp
     ·intro p hp q hq
      rw [List.mem_singleton.mp hq]
      exact all_cons (P := fun p : Addr × Obj => p.1 ≠ I) hI (all_cons hI2 (all_cons hI3 (all_cons d2 hI4))) p hp
     ·show RowsIn g ol _ ov 5 _ (dueStep ys (dueS xs ys i))
      rw [hre, dueStep_cons hw, ← hre]
      exact (hrows.mono fun p hp => .tail _ hp).append (.cons (.inr (.head _)) hnS hn5 hnv .nil)
     ·intro p hp
      rcases List.mem_cons.mp hp with rfl | hp
      ·exact ⟨d1, d3⟩
      ·exact htail p hp
  ·rintro m news h tk₁ ⟨u, v, rl, rn, tail, oc, v₀, rfl, rfl, hoc, hrows, htail⟩ F₄ N₄
   clear F₃ N₃
   repeat' first | (k_unfold; try dsimp only) | walk1 | (dsimp only; walk1)
   show Q (.ref R) _
   exact hret R _ _ rl rn (S.keep F₄) (fresh_of S N₄ (.head _)) (N₄ _ (.head _)).1 (hrows.are F₄ fun p hp => (N₄ p (.tail _ (.tail _ (.tail _ hp)))).1)
end

end
section
local macro_rules | `(tactic| walk_at "zz") => `(tactic| skip)
theorem allLt_mem {d : Nat} : ∀ {l : List (Addr × Obj)}, AllLt d l → ∀ p ∈ l, p.1 < d
 | [], _, _, hp => nomatch hp
 | _ :: _, h, p, hp => by
  rcases List.mem_cons.mp hp with rfl | hp
  ·exact h.1
  ·exact allLt_mem h.2 p hp
theorem erase_idx (c : Nat) : ∀ l : List Nat, (l.map ltr).eraseIdx ((l.map ltr).idxOf (ltr c)) = (l.erase c).map ltr
 | [] => rfl
 | a :: l => by
  rw [List.map_cons, List.idxOf_cons, List.erase_cons]
  by_cases h : a = c
  ·subst h; simp
  ·have h1 : (ltr a == ltr c) = false := by simpa using fun e => h (ltr_inj (congrArg Str.mk (by simpa using e)))
   have h2 : (a == c) = false := by simpa using h
   rw [h1, h2]
   simp only [cond_false, Bool.false_eq_true, if_false, List.eraseIdx_cons_succ, List.map_cons, erase_idx c l]
abbrev omap (nl : Addr) (sv : Value) (x oa ra : Addr) : Str → Option Value := fun y =>
 if y = Str.ofString "out" then some (Value.ref oa) else if y = Str.ofString "sorter" then some (Value.ref x) else if y = Str.ofString "order" then some (Value.ref ra) else List.lookup y [(Str.ofString "side", sv), (Str.ofString "needs", Value.ref nl)]
theorem omap0 {nl : Addr} {sv : Value} {x oa ra : Addr} : (fun y => if y = Str.ofString "sorter" then some (Value.ref x) else if y = Str.ofString "out" then some (Value.ref oa) else if y = Str.ofString "order" then some (Value.ref ra) else List.lookup y [(Str.ofString "side", sv), (Str.ofString "needs", Value.ref nl)]) = omap nl sv x oa ra := by
 funext y
 by_cases h : y = Str.ofString "out"
 ·subst h; rfl
 ·simp only [omap, if_neg h]
theorem omap_set {nl : Addr} {sv : Value} {x oa ra oa' : Addr} : (fun y => if y = Str.ofString "out" then some (Value.ref oa') else omap nl sv x oa ra y) = omap nl sv x oa' ra := by
 funext y
 by_cases h : y = Str.ofString "out"
 ·subst h; rfl
 ·simp only [omap, if_neg h]
section
local macro_rules | `(tactic| walk_at "eval ListComp") => `(tactic| (refine Hold.out ?_))
local macro_rules | `(tactic| walk_at "pyIter ref") => `(tactic| (refine Hold.out ?_))
local macro_rules | `(tactic| walk_at "binaryOp Add ref ref") => `(tactic| (k_here; k_dflt (refine' add_K ?F ?N ?a ?b ?z ?_; (case F => k_asm); (case N => k_asm); (case a => k_mem); (case b => k_mem); (case z => assumption)); intro D' h' F' N' l1; (have l2 := l1); (try k_lt l1)))
local macro_rules | `(tactic| walk_at "subscriptTail") => `(tactic| ((with_reducible show wpAny _ _ (subscriptTail _ (Expr.Name _ _) (Value.ref _) (Value.int _ _)) _ _ _); refine Hold.out ?_))
local macro_rules | `(tactic| walk_at "subscriptTail Name Name ref int") => `(tactic| (refine Hold.out ?_))
local macro_rules | `(tactic| walk_at "subscriptTail Name UnaryOp ref int") => `(tactic| (k_here; k_dflt (refine last_cat (by k_asm) (by k_mem) ?_)))
local macro_rules | `(tactic| walk_at "call builtin:sorted") => `(tactic| (refine Hold.out ?_))
local macro_rules | `(tactic| walk_at "call builtin:list.remove") => `(tactic| (refine Hold.out ?_))
local macro_rules | `(tactic| walk_at "call ref") => `(tactic| (with_reducible refine hold_call 197 ?_))
local macro_rules | `(tactic| walk_at "call ref") => `(tactic| (with_reducible refine hold_call 127 ?_))
local macro_rules | `(tactic| walk_at "call ref") => `(tactic| (with_reducible refine hold_call 148 ?_))
local macro_rules | `(tactic| walk_at "call ref") => `(tactic| (with_reducible refine hold_call 134 ?_))
local macro_rules | `(tactic| walk_at "exec While") => `(tactic| (refine Hold.out ?_))
theorem found_spec {w : World} {dp un : Nat} {fr : List Env} {s : Shared} {Q E : Value → Shared → Prop} {nl : Addr} {nv : List Value} {nn : Nat} {ps : List (Nat × Nat)} {side : Int} {ts : Tok}
 (C : Cx w fr s.heap []) (hd : dp + 90 < recursionLimit) (hu : un + 1000 < cLine)
 (hnl : s.heap.get? nl = some (listOf nv.toArray nn)) (hnv : StrsAre nv (ps.map two)) (hps : ∀ p ∈ ps, p.1 ∈ works ∧ p.2 ∈ works ∧ p.2 < p.1) (hlen : ps.length < 50) (hside : side = 0 ∨ side = -1)
 (hret : ∀ (ra : Addr) (h' : Heap) (tk' : Nat) (dvs : List Value) (rn : Nat), KeepW fr s.heap h' [] → s.heap.get? ra = none → h'.get? ra = some (listOf dvs.toArray rn) → StrsAre dvs ((iterP ps side 5).map ltr) → (∀ v ∈ dvs, TkB s.toks tk' v) → Q (.ref ra) { s with heap := h', toks := tk' }) :
 wpAny (model Pg w) (Ar dp un fr) (call (.ref 202) [.ref nl, .int side ts]) Q E s := by
 revert w dp un fr s Q E nl nv nn ps side ts
 refine @(pk13 (((w00, δ), (δ, (s00, δ))), δ) ?_)
 generalize z13 _ _ = Z; generalize Z.1.1.1 = w, Z.1.1.2.1 = dp, Z.1.1.2.2 = un, Z.1.2.1 = fr, Z.1.2.2.1 = s, Z.1.2.2.2 = Q, Z.2.1.1 = E, Z.2.1.2.1 = nl, Z.2.1.2.2 = nv, Z.2.2.1.1 = nn, Z.2.2.1.2 = ps, Z.2.2.2.1 = side, Z.2.2.2.2 = ts
 intro C hd hu hnl hnv hps hlen hside hret
 k_dflt (refine' enter (binds := [(Str.ofString "needs", .ref nl), (Str.ofString "side", .int side ts)]) ?C ?N ?k6 ?k7 ?k8 ?k9 ?kB ?_ ?c2 ?c3 ?c4 ?c5; walk_at "m_in")
 refine @(pk9 δ ?_); generalize z9 _ _ = Z; generalize Z.1.1.1 = g, Z.1.1.2 = L', Z.1.2.1 = h₁, Z.1.2.2 = base, Z.2.1.1 = p, Z.2.1.2 = loose, Z.2.2.1 = mean, Z.2.2.2.1 = mg, Z.2.2.2.2 = mb; intro BO F N B X T S hlt hL
 have gnl := S.out _ _ hnl nN
 have hlo₀ : TkLo s.toks s.toks := ⟨Nat.le_refl _⟩
 repeat' first | (k_unfold; try dsimp only) | walk1 | (dsimp only; walk1)
 refine Hold.mk ?_
 refine sorter_in (ps := ps) B F BO rfl rfl (by omega) (by omega) gnl hnv hps hlen ?_
 intro g' h' hi x dx d r odx od orr ns cf cft B' F' N' up st dy
 refine hide fun Dq kq => ?_; obtain ⟨p', loose', mean', mg', mb', TB⟩ := BO.T; refine kq ?_; clear kq Dq
 have X' := BO.X.keeps B'.stays
 have T' := TB.keeps B'.stays
 have hlo₁ : TkLo hi hi := ⟨Nat.le_refl _⟩
 clear F N X T
 repeat' first | (k_unfold; try dsimp only) | walk1 | (dsimp only; walk1)
 rename_i tkA hloA oa hA l1 ra hB l2 Da hC l3 hD hE hF hG F₂ N₂ tkB hloB
 rw [omap0] at F₂
 have z1 : oa ≠ ra := Nat.ne_of_lt l2.1
 have z2 : oa ∉ sKeys x dx d r ns := fun hm => by
  rw [← sLed_keys x dx d r odx od orr cf cft ns] at hm
  refine hide fun Dq kq => ?_; obtain ⟨q, hq, e⟩ := List.mem_map.mp hm; refine kq ?_; clear kq Dq
  have : q.1 < oa := allLt_mem (l := sLed x dx d r odx od orr cf cft ns) l1 q hq
  rw [e] at this; exact absurd this (Nat.lt_irrefl _)
 have z3 : ra ∉ sKeys x dx d r ns := fun hm => by
  rw [← sLed_keys x dx d r odx od orr cf cft ns] at hm
  refine hide fun Dq kq => ?_; obtain ⟨q, hq, e⟩ := List.mem_map.mp hm; refine kq ?_; clear kq Dq
  have : q.1 < ra := allLt_mem (l := sLed x dx d r odx od orr cf cft ns) l2.2 q hq
  rw [e] at this; exact absurd this (Nat.lt_irrefl _)
 replace N₂ : News g' L' hG ((oa, listOf #[] 0) :: (ra, listOf #[] 0) :: sLed x dx d r odx od orr cf cft ns) := fun p hp => N₂ p (by
  simp only [List.mem_cons] at hp ⊢
  rcases hp with h | h | h
  ·exact .inr (.inr (.inl h))
  ·exact .inr (.inl h)
  ·exact .inr (.inr (.inr h)))
 clear l1 l2 l3
 have hlA : s.toks ≤ tkA := hloA.out
 refine Hold.mk (wpAny_tk hi hloB.out (wpAny_E ?_))
 clear hlo₀ hlo₁ hloA hloB
 refine While_K (fun n s' => E15 fun (h : Heap) (tk : Nat) (oa : Addr) (ovs dvs : List Value) (on rn : Nat) (odx orr : Obj) (cf : Str → Int) (cft : Str → Tok) (dn outs rs ol : List Nat) => A15 (s' = { s with heap := h, toks := tk }) (Fr g' L' h (omap nl (.int side ts) x oa ra)) (News g' L' h ((oa, listOf ovs.toArray on) :: (ra, listOf dvs.toArray rn) :: sLed x dx d r odx od orr cf cft ns)) (oa ≠ ra) (oa ∉ sKeys x dx d r ns) (StrsAre ovs (ol.map ltr)) ((∀ v ∈ ovs, TkB tkA hi v)) (StrsAre dvs (dn.map ltr)) ((∀ v ∈ dvs, TkB tkA hi v)) (SoD tkA hi ps d r odx orr dn outs rs cf) ((∀ c, c ∈ ol ↔ c ∈ outs)) (ol.Nodup) (dn = iterP ps side dn.length) (dn.Nodup) (n = 5 - dn.length)) 5 ⟨_, _, oa, [], [], 0, 0, odx, orr, cf, cft, [], [], _, [], rfl, F₂, N₂, z1, z2, .nil, (fun _ h => nomatch h), .nil, (fun _ h => nomatch h), dy, fun _ => Iff.rfl, List.nodup_nil, rfl, List.nodup_nil, rfl⟩ ?_ PassesOwn.never
 ·clear F₂ N₂ z1 z2 dy
  rintro n s' hJq; refine hide fun Dq kq => ?_; obtain ⟨h, tk, oa, ovs, dvs, on, rn, odx, orr, cf, cft, dn, outs, rs, ol, rfl, F₁, N₁, z1, z2, hov, hot, hdv, hdt, dy, hol, holn, hdn, hdnn, rfl⟩ := hJq; refine kq ?_; clear kq Dq
  refine hide fun Dq kq => ?_; obtain ⟨h1, h2, h3, h4, t1, t2, t3, t4, tp, tf, np, nf, en, rn', rv, rfl, rfl, hrv, hrt, hT⟩ := id dy.ex; refine kq ?_; clear kq Dq
  have hown : ∀ p ∈ [(oa, listOf ovs.toArray on), (ra, listOf dvs.toArray rn)], p.1 ∉ sKeys x dx d r ns := by
   intro p hp
   rcases List.mem_cons.mp hp with rfl | hp
   ·exact z2
   ·rw [List.mem_singleton.mp hp]; exact z3
  repeat' first | (k_unfold; try dsimp only) | walk1 | (dsimp only; walk1)
  refine Hold.mk ?_
  refine active_in (own := [(oa, listOf ovs.toArray on), (ra, listOf dvs.toArray rn)]) B' F₁ BO rfl rfl (by omega) (by omega) N₁ st dy ?_
  intro h₃ tk₃ F₃ N₃
  clear F₁ N₁
  by_cases hfl : works.filter (freeB ps dn) = []
  ·rw [hfl]
   dsimp only [List.isEmpty, Bool.not_true]
   repeat' first | (k_unfold; try dsimp only) | walk1 | (dsimp only; walk1)
   show Q (.ref ra) _
   have h5 : dn.length = 5 := by
    have a := nodup_len (m := works) hdnn hT.sub
    have b := nodup_len (l := works) (m := dn) (by decide) (all_done hps hfl)
    have : works.length = 5 := rfl
    omega
   rename (hi ≤ _) => hle
   have hle : hi ≤ tk₃ := hle
   rw [h5] at hdn
   rw [hdn] at hdv
   have zr := N₃ (ra, listOf dvs.toArray rn) (.tail _ (.head _))
   refine hret ra _ _ dvs rn (keepW_end S up F₃ hL) ?_ zr.1 hdv (fun v hv x t e => ?_)
   ·cases e : s.heap.get? ra with
    | none => rfl
    | some o =>
     refine hide fun Dq kq => ?_; obtain ⟨sl, q, _⟩ := up _ _ (S.out _ _ e nN); refine kq ?_; clear kq Dq
     rw [zr.2.2] at q; cases q
   ·have := hdt v hv x t e
    exact ⟨Nat.le_trans hlA this.1, Nat.lt_of_lt_of_le this.2 hle⟩
  ·have e : (!(works.filter (freeB ps dn)).isEmpty) = true := by simpa using hfl
   rw [e]
   repeat' first | (k_unfold; try dsimp only) | walk1 | (dsimp only; walk1)
   refine Hold.mk ?_
   k_dflt (refine' ListComp_UX ?F ?k1 ?k2 ?k3 ?k4 ?k5 ?_; (case F => k_asm); (case k1 => with_unfolding_all rfl); (case k2 => decide); (case k3 => rfl); (case k4 => decide); (case k5 => rfl))
   repeat' first | (k_unfold; try dsimp only) | walk1 | (dsimp only; walk1)
   refine Hold.mk ?_
   refine ready_in (own := [(oa, listOf ovs.toArray on), (ra, listOf dvs.toArray rn)]) B' F₃ BO rfl rfl (by omega) (by omega) N₃ hown st dy ?_
   intro h₄ tk₄ U rv₄ odx₄ orr₄ cft₄ F₄ N₄ hU1 hU2 hrv₄ hrt₄ dy₄
   clear F₃ N₃
   dsimp only
   have hout := hT.get
   have hlr : rv₄.length ≤ 5 := by
    rw [hrv₄.length, List.length_map]
    exact nodup_len (m := works) hT.rnod fun c hc => (freeB_iff.mp ((hT.rmem c).mp hc).1).1
   have hlo : ovs.length ≤ 5 := by
    rw [hov.length, List.length_map]
    exact nodup_len (m := works) holn fun c hc => (freeB_iff.mp (hT.ofree c ((hol c).mp hc))).1
   refine src_tuple rfl F₄ N₄ (.inr ⟨tupOf rv₄, .head _, rfl, 0, rfl⟩) (by omega) ?_
   intro h₅
   refine rest_inv (n := rv₄.length) (fun i ys news => news = (U, tupOf rv₄) :: (oa, listOf ovs.toArray on) :: (ra, listOf dvs.toArray rn) :: sLed x dx d r odx₄ od orr₄ (fun y => if y ∈ rs.map ltr then -1 else cf y) cft₄ ns ∧ ys = rv₄.take i) ?_ ?_ _ 0 [] _ (Nat.zero_add _) ⟨rfl, by simp⟩
   ·rintro i ys news v I oI C' oC D m₂ h tk E' hi' ⟨rfl, rfl⟩ hP hC hv F₅ N₅ off ne
    clear F₄ N₄
    repeat' first | (k_unfold; try dsimp only) | walk1 | (dsimp only; walk1)
    refine ⟨h, _, _, rfl, F₅, N₅, off, .inr ⟨tupOf rv₄, .head _, rfl, 0, rfl⟩, rfl, ?_⟩
    rw [List.take_add_one, hP]; rfl
   ·rintro ys news ⟨rfl, rfl⟩
    intro D h tk F₅ N₅ o1
    clear F₄ N₄
    rw [List.take_length] at N₅
    have hz : ovs.length + rv₄.length < 1000 := by omega
    repeat' first | (k_unfold; try dsimp only) | walk1 | (dsimp only; walk1)
    rename (Fr g' _ _ _) => F₆
    rename (News g' _ _ _) => N₆
    have hol2 : ∀ c, c ∈ ol ++ rs ↔ c ∈ works ∧ freeB ps dn c = true := fun c => by
     rw [List.mem_append, hol c, ← List.mem_append, hout.2 c]
     exact ⟨fun q => ⟨(freeB_iff.mp q).1, q⟩, fun q => q.2⟩
    have holn2 : (ol ++ rs).Nodup := by
     rw [List.nodup_append]
     exact ⟨holn, hT.rnod, fun a ha b hb e => ((hT.rmem b).mp hb).2 (e ▸ (hol a).mp ha)⟩
    refine Hold.mk (sorted_K (xs := (ol ++ rs).map ltr) F₆ N₆ (.head _) (by rw [List.map_append]; exact strs_cat hov hrv₄) (by rw [List.length_append]; omega) ?_)
    intro O h₇ vs' xs' e₇ F₇ N₇ l7 hvs' hperm hsrt hsub
    obtain rfl := sorted_works holn2 hperm hsrt (freeB ps dn) hol2
    clear F₆ hperm hsrt
    have hra : ∀ p ∈ sLed x dx d r odx₄ od orr₄ (fun y => if y ∈ rs.map ltr then -1 else cf y) cft₄ ns, p.1 ≠ ra ∧ p.1 < O := fun p hp => by
     refine ⟨fun e => z3 (e ▸ sLed_keys x dx d r odx₄ od orr₄ (fun y => if y ∈ rs.map ltr then -1 else cf y) cft₄ ns ▸ List.mem_map_of_mem hp), l7 p ?_⟩
     exact .tail _ (.tail _ (.tail _ (.tail _ (.tail _ hp))))
    have lO : ra < O := l7 (ra, listOf dvs.toArray rn) (.tail _ (.tail _ (.tail _ (.tail _ (.head _)))))
    replace N₇ : News g' L' h₇ ((O, listOf vs'.toArray e₇) :: (ra, listOf dvs.toArray rn) :: sLed x dx d r odx₄ od orr₄ (fun y => if y ∈ rs.map ltr then -1 else cf y) cft₄ ns) := fun p hp => N₇ p (by
     rcases List.mem_cons.mp hp with rfl | hp
     ·exact .head _
     ·exact .tail _ (.tail _ (.tail _ (.tail _ (.tail _ hp)))))
    clear N₆ l7 N₅ F₅ o1
    have hvt : ∀ v ∈ vs', TkB tkA hi v := fun v hv => by
     rcases List.mem_append.mp (hsub v hv) with q | q
     ·exact hot v q
     ·exact hrt₄ v q
    refine hide fun Dq kq => ?_; obtain ⟨tv, hpv, hpm⟩ := pickV_strs (side := side) hvs' hfl; refine kq ?_; clear kq Dq
    have hpt := hvt _ hpm
    rw [hpv] at hpt
    have hcm := pick_mem (side := side) hfl
    have hne' : vs' ≠ [] := fun q => by rw [q] at hpm; cases hpm
    generalize hc : pickN side (works.filter (freeB ps dn)) = c at *
    have a0 : O ≠ ra := Nat.ne_of_gt lO
    have a1 := (hra _ (.head _)).1; have a2 := (hra _ (.tail _ (.head _))).1; have a3 := (hra _ (.tail _ (.tail _ (.head _)))).1; have a4 := (hra _ (.tail _ (.tail _ (.tail _ (.head _))))).1
    have a5 : ∀ p ∈ nks (fun y => if y ∈ rs.map ltr then -1 else cf y) cft₄ ns ++ sts ns, p.1 ≠ ra := fun p hp => (hra p (.tail _ (.tail _ (.tail _ (.tail _ hp))))).1
    have b1 : x ≠ O := Nat.ne_of_lt (hra _ (.head _)).2
    have b2 : dx ≠ O := Nat.ne_of_lt (hra _ (.tail _ (.head _))).2
    have b3 : d ≠ O := Nat.ne_of_lt (hra _ (.tail _ (.tail _ (.head _)))).2
    have b4 : r ≠ O := Nat.ne_of_lt (hra _ (.tail _ (.tail _ (.tail _ (.head _))))).2
    have b5 : ∀ p ∈ nks (fun y => if y ∈ rs.map ltr then -1 else cf y) cft₄ ns ++ sts ns, p.1 ≠ O := fun p hp => Nat.ne_of_lt (hra p (.tail _ (.tail _ (.tail _ (.tail _ hp))))).2
    have hOk : O ∉ sKeys x dx d r ns := fun hm => by
     rw [← sLed_keys x dx d r odx₄ od orr₄ (fun y => if y ∈ rs.map ltr then -1 else cf y) cft₄ ns] at hm
     refine hide fun Dq kq => ?_; obtain ⟨q, hq, e⟩ := List.mem_map.mp hm; refine kq ?_; clear kq Dq
     exact Nat.ne_of_lt (hra q hq).2 e
    have hz3 : dvs.length < 1000 := by
     rw [hdv.length, List.length_map]
     have := nodup_len (m := works) hdnn hT.sub
     exact Nat.lt_of_le_of_lt this (by decide)
    refine hide fun Dq kq => ?_; obtain ⟨h1', h2', h3', h4', t1', t2', t3', t4', tp', tf', np', nf', en', rn'', rv'', rfl, rfl, hrv'', _, hT'⟩ := id dy₄.ex; refine kq ?_; clear kq Dq
    dsimp only
    repeat' first | (k_unfold; try dsimp only) | walk1 | (dsimp only; walk1)
    rename (News g' _ _ _) => N₈
    refine Hold.mk (side_K N₈ (.head _) hside hne' ?_)
    rw [hpv]
    dsimp only
    repeat' first | (k_unfold; try dsimp only) | walk1 | (dsimp only; walk1)
    rename (Fr g' _ _ _) => F₉
    rename (News g' _ _ _) => N₉
    refine Hold.mk ?_
    have hcx : ltr c ∈ (works.filter (freeB ps dn)).map ltr := List.mem_map_of_mem hcm
    have hz4 : vs'.length < 1000 := by
     rw [hvs'.length, List.length_map]
     exact Nat.lt_of_le_of_lt (List.length_filter_le ..) (by decide)
    k_dflt (refine' remove_K (n := e₇) F₉ N₉ hvs' hcx ?U hz4 ?_; (case U => k_upd))
    intro hR FR NR
    clear F₉ N₉
    dsimp only
    repeat' first | (k_unfold; try dsimp only) | walk1 | (dsimp only; walk1)
    refine Hold.mk ?_
    have hco : c ∈ outs ++ rs := (hout.2 c).mpr (List.mem_filter.mp hcm).2
    have hown₂ : ∀ p ∈ [(O, listOf (vs'.eraseIdx (List.idxOf (ltr c) ((works.filter (freeB ps dn)).map ltr))).toArray (e₇ + 1)), (ra, listOf (dvs ++ [Value.str (ltr c) tv]).toArray (rn + 1))], p.1 ∉ sKeys x dx d r ns := by
     intro p hp
     rcases List.mem_cons.mp hp with rfl | hp
     ·exact hOk
     ·rw [List.mem_singleton.mp hp]; exact z3
    refine done_in (own := [(O, listOf (vs'.eraseIdx (List.idxOf (ltr c) ((works.filter (freeB ps dn)).map ltr))).toArray (e₇ + 1)), (ra, listOf (dvs ++ [Value.str (ltr c) tv]).toArray (rn + 1))]) B' FR BO rfl rfl (by omega) (by omega) NR hown₂ st dy₄ hco ?_
    intro h₉ tk₉ odx₉ orr₉ cf₉ cft₉ as₉ F₉ N₉ dy₉
    clear FR NR
    rw [omap_set] at F₉
    dsimp only
    repeat' first | (k_unfold; try dsimp only) | walk1 | (dsimp only; walk1)
    have hnn : (dn ++ [c]).Nodup := by
     rw [List.nodup_append]
     refine ⟨hdnn, by simp, fun a ha b hb e => ?_⟩
     rw [List.mem_singleton.mp hb] at e
     exact (freeB_iff.mp (List.mem_filter.mp hcm).2).2.1 (e ▸ ha)
    have hlen5 : (dn ++ [c]).length ≤ 5 := nodup_len (m := works) hnn fun a ha => by
     rcases List.mem_append.mp ha with ha | ha
     ·exact hT.sub a ha
     ·rw [List.mem_singleton.mp ha]; exact (List.mem_filter.mp hcm).1
    refine ⟨5 - (dn ++ [c]).length, by simp at hlen5 ⊢; omega, _, _, O, _, _, _, _, odx₉, orr₉, cf₉, cft₉, dn ++ [c], _, as₉, (works.filter (freeB ps dn)).erase c, rfl, F₉, N₉, a0, hOk, ?_, ?_, ?_, ?_, dy₉, ?_, ?_, ?_, hnn, rfl⟩
    ·rw [← erase_idx]; exact strs_erase hvs' _
    ·intro v hv
     exact hvt v (List.mem_of_mem_eraseIdx hv)
    ·rw [List.map_append]; exact strs_cat hdv (.cons _ _ .nil)
    ·intro v hv
     rcases List.mem_append.mp hv with hv | hv
     ·exact hdt v hv
     ·rw [List.mem_singleton.mp hv]; exact hpt
    ·intro z
     have hfn : (works.filter (freeB ps dn)).Nodup := List.Nodup.sublist List.filter_sublist (by decide)
     rw [List.Nodup.mem_erase_iff hfn, List.Nodup.mem_erase_iff hout.1.onod, List.mem_filter, hout.2 z]
     exact ⟨fun q => ⟨q.1, q.2.2⟩, fun q => ⟨q.1, (freeB_iff.mp q.2).1, q.2⟩⟩
    ·exact List.Nodup.erase _ (List.Nodup.sublist List.filter_sublist (by decide))
    ·rw [List.length_append, List.length_singleton]
     show dn ++ [c] = iterP ps side dn.length ++ [pickN side (works.filter (freeB ps (iterP ps side dn.length)))]
     rw [← hdn, hc]
end

end
section
noncomputable abbrev lawE (w : World) (L fa : Addr) (cd : Value) : Env := envOfC (Str.ofString "law") (fnS w 236) L fa cd
noncomputable def lawS (w : World) (n : Nat) : Stmt := ((fnB w 236)[n]?).getD default
abbrev jmap (o wy p t : Option Value) : Str → Option Value := fun y => if y = Str.ofString "told" then t else if y = Str.ofString "pairs" then p else if y = Str.ofString "way" then wy else if y = Str.ofString "orders" then o else none
abbrev base4 : List (Nat × Nat) := [(99, 97), (100, 98), (101, 100), (99, 98)]
def OkN (ps : List (Nat × Nat)) : Prop := ∀ p ∈ ps, p.1 ∈ works ∧ p.2 ∈ works ∧ p.2 < p.1
theorem keepW_law {base h h' : Heap} {L : Addr} {m : Str → Option Value} {news : List (Addr × Obj)} {env : Env} (F : Fr base L h m) (N : News base L h news) (hf : env.frame = some L) (k : KeepW [env] h h' []) : Fr base L h' m ∧ News base L h' news := by
 have off : ∀ b, b ≠ L → Off [env] b := fun b hb e he hq => by
  rw [List.mem_singleton.mp he, hf] at hq
  exact hb (Option.some.inj hq).symm
 refine ⟨⟨?_, fun b o e => k.off (F.keep b o e) nN (off b fun z => ?_), F.above⟩, fun p hp => ⟨k.off (N p hp).1 nN (off _ (N p hp).2.1), (N p hp).2⟩⟩
 ·refine hide fun Dq kq => ?_; obtain ⟨oL, es, ep, hL, hd, r⟩ := F.ns; refine kq ?_; clear kq Dq
  refine hide fun Dq kq => ?_; obtain ⟨sl, q, _⟩ := k L oL hL nN; refine kq ?_; clear kq Dq
  exact ⟨_, es, ep, q, hd, r⟩
 ·rw [z] at e
  exact absurd (Heap.lt_size e) (Nat.not_lt.mpr F.above)
section
variable {prog : Program} {w : World} {A : Around} {E : Value → Shared → Prop} {s : Shared} {h₀ : Heap} {L l : Addr} {m : Str → Option Value} {news : List (Addr × Obj)} {value slice : PySem.Expr} {vs : List Value} {ns : List Int} {k : Int} {t u : Tok} {Q : Value → Shared → Prop}
theorem slice_four (F : Fr h₀ L s.heap m) (N : News h₀ L s.heap news) (hl : s.heap.IsList l vs.toArray) (hi : IntsAre vs ns) (hz : vs.length < 1000)
  (h : ∀ D h' zs, Fr h₀ L h' m → News h₀ L h' ((D, listOf (List.toArray zs) 0) :: news) → (∀ p ∈ news, p.1 < D) → zs.length ≤ 4 → Q (.ref D) { s with heap := h' })
  (hs : ∀ r, subscripted slice false (.ref l) (.ref r) = operate [.ref r, .ref l] (getItem (.ref l) (.ref r)) := by intro _; with_unfolding_all rfl) (ht : ∀ r, letTemporaryGo value (.ref l) r = pure () := by intro _; with_unfolding_all rfl) :
  wpAny (model prog w) A (subscriptTail value slice (.ref l) (.ref s.heap.objs.size)) Q E { s with heap := s.heap.push { cls := .type "slice", data := .fields #[.none, .int 4 t, .none] } } := by
 have hlen := (kmk_upto (y := 4) hi (by decide)).length
 exact kmk_slice_lit F N hl .none (.int _ _) rfl (fun D h' F' N' l1 => h D h' _ F' N' l1 (by rw [hlen, List.length_take]; exact Nat.min_le_left _ _)) (hs _) ht (by rw [sizeLine_eq, List.size_toArray]; omega)
theorem slice_by (F : Fr h₀ L s.heap m) (N : News h₀ L s.heap news) (hl : s.heap.IsList l vs.toArray) (hi : IntsAre vs ns) (hz : vs.length < 1000)
  (h : ∀ D h' zs ms, Fr h₀ L h' m → News h₀ L h' ((D, listOf (List.toArray zs) 0) :: news) → (∀ p ∈ news, p.1 < D) → IntsAre zs ms → Q (.ref D) { s with heap := h' })
  (hs : ∀ r, subscripted slice false (.ref l) (.ref r) = operate [.ref l, .ref r] (getItem (.ref l) (.ref r)) := by intro _; with_unfolding_all rfl) (ht : ∀ r, letTemporaryGo value (.ref l) r = pure () := by intro _; with_unfolding_all rfl) :
  wpAny (model prog w) A (subscriptTail value slice (.ref l) (.ref s.heap.objs.size)) Q E { s with heap := s.heap.push { cls := .type "slice", data := .fields #[.int k t, .none, .int 4 u] } } := by
 refine kmk_slice3_lit F N hl (.int _ _) .none (.int _ _) (by decide) rfl (fun D h' F' N' l1 => h D h' _ _ F' N' l1 (hi.pick _ _ _)) (hs _) ht (by rw [sizeLine_eq, List.size_toArray]; omega)
theorem sum_at {ns : List Int} (hh : A.handled = none) (F : Fr h₀ L s.heap m) (N : News h₀ L s.heap news) (hl : s.heap.IsList l vs.toArray) (hi : IntsAre vs ns)
  (h : ∀ h' tk x t, Fr h₀ L h' m → News h₀ L h' news → Q (.int x t) { s with heap := h', toks := tk }) : wpAny (model prog w) A (call (.builtin "sum") [.ref l]) Q E s := by
 obtain ⟨xs, e⟩ := hi.allInts.items
 rw [e] at hl
 exact sum_intListG hh hl fun h' tk t' k => h h' tk _ t' (F.keeps k) (N.grown k)
end
section
local macro_rules | `(tactic| walk_at "eval ListComp") => `(tactic| (refine Hold.out ?_))
local macro_rules | `(tactic| walk_at "call builtin:len") => `(tactic| (refine Hold.out ?_))
local macro_rules | `(tactic| walk_at "call builtin:sum") => `(tactic| (refine Hold.out ?_))
local macro_rules | `(tactic| walk_at "subscriptTail Name Slice ref ref") => `(tactic| (refine Hold.out ?_))
local macro_rules | `(tactic| walk_at "binaryOp Add ref ref") => `(tactic| (refine Hold.out ?_))
local macro_rules | `(tactic| walk_at "pyIter ref") => `(tactic| (refine Hold.out ?_))
local macro_rules | `(tactic| walk_at "call ref") => `(tactic| (with_reducible refine hold_call 190 ?_))
theorem law_S0 {w : World} {dp un : Nat} {A₀ : Around} {base : Heap} {L fa sl : Addr} {cd : Value} {s : Shared} {Q : Flow → Shared → Prop} {E : Value → Shared → Prop} {vs : List Value} {ns : List Int} {o1 o2 o3 o4 : Obj}
 (B : Below A₀ base [] base) (BO : BOk w base) (hd : dp + 100 < recursionLimit) (hu : un + 1100 < cLine) (hsl : base.IsList sl vs.toArray) (hI : IntsAre vs ns) (h63 : ns.length < 64)
 (F : Fr base L s.heap (jmap none none none none)) (N : News base L s.heap [(L + 1 + 1 + 1 + 1, o4), (L + 1 + 1 + 1, o3), (L + 1 + 1, o2), (L + 1, o1)]) (d1 : o1.data = .cell (some (.ref sl))) (d2 : o2.data = .cell none)
 (hret : ∀ h' tk' nl nv nn o2' ps, Fr base L h' (jmap none none none none) → News base L h' [(nl, listOf (List.toArray nv) nn), (L + 1 + 1 + 1 + 1, o4), (L + 1 + 1 + 1, o3), (L + 1 + 1, o2'), (L + 1, o1)] → L + 1 + 1 + 1 + 1 < nl → o2'.data = .cell (some (.ref nl)) → StrsAre nv (ps.map two) → OkN ps → ps.length < 9 → (∀ p ∈ base4, p ∈ ps) → Q .next { s with heap := h', toks := tk' }) :
 wpAny (model Pg w) ((Ar dp un []).deeper (lawE w L fa cd)) (exec (lawS w 0) (lawE w L fa cd)) Q E s := by
 revert w dp un A₀ base L fa sl cd s Q E vs ns o1 o2 o3 o4
 refine @(pk18 ((((w00, δ), (δ, Ar 0 0 [])), δ), (((s00, δ), δ), δ)) ?_)
 generalize z18 _ _ = Z; generalize Z.1.1.1.1 = w, Z.1.1.1.2 = dp, Z.1.1.2.1 = un, Z.1.1.2.2 = A₀, Z.1.2.1.1 = base, Z.1.2.1.2 = L, Z.1.2.2.1 = fa, Z.1.2.2.2.1 = sl, Z.1.2.2.2.2 = cd, Z.2.1.1.1 = s, Z.2.1.1.2 = Q, Z.2.1.2.1 = E, Z.2.1.2.2 = vs, Z.2.2.1.1 = ns, Z.2.2.1.2 = o1, Z.2.2.2.1 = o2, Z.2.2.2.2.1 = o3, Z.2.2.2.2.2 = o4
 intro B BO hd hu hsl hI h63 F N d1 d2 hret
 have X := BO.X
 refine hide fun Dq kq => ?_; obtain ⟨p, loose, mean, mg, mb, T⟩ := BO.T; refine kq ?_; clear kq Dq
 have hvl := hI.length
 with_unfolding_all show wpAny _ ((Ar dp un []).deeper (envOfC _ (Scope.mk _ _ _ _ _) _ _ _)) (exec (Stmt.Assign _ _ _) (envOfC _ (Scope.mk _ _ _ _ _) _ _ _)) _ _ _
 k_steps
 refine Hold.mk ?_
 k_dflt (refine' ListComp_UX ?F ?k1 ?k2 ?k3 ?k4 ?k5 ?_; (case F => k_asm); (case k1 => with_unfolding_all rfl); (case k2 => decide); (case k3 => rfl); (case k4 => decide); (case k5 => rfl))
 repeat' first | (k_unfold; try dsimp only) | walk1 | (dsimp only; walk1)
 refine Hold.mk ?_
 k_dflt (refine' slice_four (vs := vs) (ns := ns) ?F ?N ?hl ?hi ?hz ?_; (case F => exact F); (case N => exact N); (case hl => exact li_lift F hsl); (case hi => exact hI); (case hz => omega))
 intro D₁ h₁ z₁ F₁ N₁ l1 hz₁
 repeat' first | (k_unfold; try dsimp only) | walk1 | (dsimp only; walk1)
 refine Hold.mk (len_cat (vs := z₁) N₁ (.head _) (by omega) ?_)
 repeat' first | (k_unfold; try dsimp only) | walk1 | (dsimp only; walk1)
 rename (IsRange _ _ _ _ _ _ _ _) => hR4
 rename (Fr base _ _ _) => F₂
 rename (News base _ _ _) => N₂
 clear l1
 have hrs : Builtin.Range.small 0 (z₁.length : Nat) 1 = true ∧ Builtin.Range.rangeSize 0 (z₁.length : Nat) 1 = ((z₁.length : Nat) : Int) := by
  generalize z₁.length = n at hz₁
  have : n = 0 ∨ n = 1 ∨ n = 2 ∨ n = 3 ∨ n = 4 := by omega
  rcases this with rfl | rfl | rfl | rfl | rfl <;> exact ⟨by decide, by decide⟩
 refine Hold.mk ?_
 refine src_range rfl F₂ (fun p hp => N₂ p (.tail _ hp)) hR4 hrs.1 (n := z₁.length) hrs.2 (by omega) ?_
 clear N₂
 intro h₆
 dsimp only
 refine rest_inv (n := z₁.length) (fun q zs nw => nw = [(L + 1 + 1 + 1 + 1, o4), (L + 1 + 1 + 1, o3), (L + 1 + 1, o2), (L + 1, o1)] ∧ ∃ qs : List (Nat × Nat), A3 (qs.length = q) (StrsAre zs (qs.map two)) (OkN qs)) ?_ ?_ _ 0 [] _ (Nat.zero_add _) ⟨rfl, [], rfl, .nil, fun _ h => nomatch h⟩
 ·rintro q zs nw kv I₂ oI₂ Cc oC D m₂ h₇ tk₇ E' hq ⟨rfl, qs, hql, hzs, hqs⟩ ⟨tq, rfl⟩ hCo hv₂ F₇ N₇ off ne
  clear F₂
  have off' := off
  repeat' first | (k_unfold; try dsimp only) | walk1 | (dsimp only; walk1)
  refine Hold.mk ?_
  k_dflt (refine' slice_by (vs := vs) (ns := ns) ?F ?N ?hl ?hi ?hz ?_; (case F => exact F₇); (case N => exact N₇); (case hl => exact li_lift F₇ hsl); (case hi => exact hI); (case hz => omega))
  intro D₈ h₈ zk mk F₈ N₈ l8 hzk
  clear F₇
  repeat' first | (k_unfold; try dsimp only) | walk1 | (dsimp only; walk1)
  refine Hold.mk (sum_at rfl F₈ N₈ (PySem.IsL.isList (n := 0) (N₈ _ (.head _)).1) hzk ?_)
  intro h₉ tk₉ x tx F₉ N₉
  clear F₈ N₈
  repeat' first | (k_unfold; try dsimp only) | walk1 | (dsimp only; walk1)
  refine Hold.mk ?_
  k_dflt (refine' need_spec ?C ?hd ?hu ?_; (case C => exact cx_of B F₉ BO N₉ no_mu); (case hd => ktr_room); (case hu => ktr_units))
  intro pn tn h₁₀ tk₁₀ hpn hK₁₀
  have F₁₀ := fr_keep0 F₉ hK₁₀
  have N₁₀ := news_keep0 N₉ hK₁₀
  refine ⟨_, _, _, rfl, F₁₀, fun p hp => N₁₀ p (.tail _ hp), off', trivial, rfl, qs ++ [pn], by simp [hql], ?_, ?_⟩
  ·rw [List.map_append]; exact strs_cat hzs (.cons _ _ .nil)
  ·intro p hp
   rcases List.mem_append.mp hp with hp | hp
   ·exact hqs p hp
   ·rw [List.mem_singleton.mp hp]; exact hpn
 ·rintro zs nw hJq; refine hide fun Dq kq => ?_; obtain ⟨rfl, qs, hql, hzs, hqs⟩ := hJq; refine kq ?_; clear kq Dq
  intro D h₇ tk₇ F₇ N₇ oD
  clear F₂
  simp only [LCg.Off1, and_true] at oD
  repeat' first | (k_unfold; try dsimp only) | walk1 | (dsimp only; walk1)
  rename (Fr base _ _ _) => F₈
  rename (News base _ _ _) => N₈
  refine Hold.mk ?_
  k_dflt (refine' add_K (vs := zs) (us := [Value.str (Str.ofString "ca") tk₇, Value.str (Str.ofString "db") (tk₇ + 1), Value.str (Str.ofString "ed") (tk₇ + 1 + 1), Value.str (Str.ofString "cb") (tk₇ + 1 + 1 + 1)]) ?F ?N ?a ?b ?z ?_; (case F => exact F₈); (case N => exact N₈); (case a => k_mem); (case b => k_mem); (case z => (rw [hzs.length, List.length_map, hql]; simp; omega)))
  intro nl h₉ F₉ N₉ l9
  have l4 : L + 1 + 1 + 1 + 1 < nl := l9 _ (.tail _ (.tail _ (.head _)))
  have N₁₀ : News base L h₉ [(nl, listOf (zs ++ [Value.str (Str.ofString "ca") tk₇, Value.str (Str.ofString "db") (tk₇ + 1), Value.str (Str.ofString "ed") (tk₇ + 1 + 1), Value.str (Str.ofString "cb") (tk₇ + 1 + 1 + 1)]).toArray 0), (L + 1 + 1 + 1 + 1, o4), (L + 1 + 1 + 1, o3), (L + 1 + 1, o2), (L + 1, o1)] := fun p hp => N₉ p (by
   rcases List.mem_cons.mp hp with rfl | hp
   ·exact .head _
   ·exact .tail _ (.tail _ (.tail _ hp)))
  have e2 : nl ≠ L + 1 + 1 := Nat.ne_of_gt (Nat.lt_trans (Nat.lt_trans (Nat.lt_succ_self _) (Nat.lt_succ_self _)) l4)
  clear F₈ N₈ N₉ l9
  repeat' first | (k_unfold; try dsimp only) | walk1 | (dsimp only; walk1)
  rename (Fr base _ _ _) => F₁₁
  rename (News base _ _ _) => N₁₁
  refine hret _ _ nl _ _ _ (qs ++ base4) F₁₁ N₁₁ l4 (by assumption) ?_ ?_ ?_ fun p hp => List.mem_append_right _ hp
  ·rw [List.map_append, show Str.ofString "ca" = two (99, 97) from by decide +kernel, show Str.ofString "db" = two (100, 98) from by decide +kernel, show Str.ofString "ed" = two (101, 100) from by decide +kernel, show Str.ofString "cb" = two (99, 98) from by decide +kernel]
   exact strs_cat hzs (.cons _ _ (.cons _ _ (.cons _ _ (.cons _ _ .nil))))
  ·intro p hp
   rcases List.mem_append.mp hp with hp | hp
   ·exact hqs p hp
   ·have key : ∀ p ∈ base4, p.1 ∈ works ∧ p.2 ∈ works ∧ p.2 < p.1 := by decide
    exact key p hp
  ·rw [List.length_append, hql]; show z₁.length + 4 < 9; omega
end

end
section
structure Ord (ps : List (Nat × Nat)) (side : Int) (lo hi : Nat) (dvs : List Value) : Prop where
 sa : StrsAre dvs ((iterP ps side 5).map ltr)
 tb : ∀ v ∈ dvs, TkB lo hi v
theorem TkB.le {lo hi hi' : Nat} {v : Value} (h : TkB lo hi v) (k : hi ≤ hi') : TkB lo hi' v := fun x t e => ⟨(h x t e).1, Nat.lt_of_lt_of_le (h x t e).2 k⟩
def OrdJ (ps : List (Nat × Nat)) (rest : List (Addr × Obj)) (i : Nat) (ys : List Value) (nw : List (Addr × Obj)) (tk : Nat) : Prop :=
 1 ≤ tk ∧ ((i = 0 ∧ ys = [] ∧ nw = rest) ∨
  (E3 fun a1 dv1 n1 => A5 (i = 1) (ys = [.ref a1]) (nw = (a1, listOf (List.toArray dv1) n1) :: rest) ((∀ p ∈ rest, a1 ≠ p.1)) (Ord ps 0 1 tk dv1)) ∨
  (E7 fun a1 dv1 n1 a2 dv2 n2 md => A9 (i = 2) (ys = [.ref a1, .ref a2]) (nw = (a2, listOf (List.toArray dv2) n2) :: (a1, listOf (List.toArray dv1) n1) :: rest) ((∀ p ∈ rest, a1 ≠ p.1)) (a2 ≠ a1) ((∀ p ∈ rest, a2 ≠ p.1)) (1 ≤ md) (Ord ps 0 1 md dv1) (Ord ps (-1) md tk dv2)))
theorem OrdJ.mono {ps : List (Nat × Nat)} {rest : List (Addr × Obj)} : ∀ i ys nw tk tk', tk ≤ tk' → OrdJ ps rest i ys nw tk → OrdJ ps rest i ys nw tk' := by
 rintro i ys nw tk tk' hle ⟨h1, h⟩
 refine ⟨Nat.le_trans h1 hle, ?_⟩
 rcases h with h | ⟨a1, dv1, n1, e1, e2, e3, e4, o⟩ | ⟨a1, dv1, n1, a2, dv2, n2, md, e1, e2, e3, e4, e5, e6, e7, o1, o2⟩
 ·exact .inl h
 ·exact .inr (.inl ⟨a1, dv1, n1, e1, e2, e3, e4, o.sa, fun v hv => (o.tb v hv).le hle⟩)
 ·exact .inr (.inr ⟨a1, dv1, n1, a2, dv2, n2, md, e1, e2, e3, e4, e5, e6, e7, o1, o2.sa, fun v hv => (o2.tb v hv).le hle⟩)
theorem jmap_orders {v : Value} {o wy p t : Option Value} : (fun z => if z = Str.ofString "orders" then some v else jmap o wy p t z) = jmap (some v) wy p t := by
 funext y
 by_cases h : y = Str.ofString "told"
 ·subst h; rfl
 ·by_cases h' : y = Str.ofString "pairs"
  ·subst h'; rfl
  ·by_cases h'' : y = Str.ofString "way"
   ·subst h''; rfl
   ·by_cases h3 : y = Str.ofString "orders"
    ·subst h3; rfl
    ·simp only [jmap, if_neg h, if_neg h', if_neg h'', if_neg h3]
section
local macro_rules | `(tactic| walk_at "exec Assign cons ListComp") => `(tactic| (refine Hold.out ?_))
local macro_rules | `(tactic| walk_at "pyIter ref") => `(tactic| (refine Hold.out ?_))
local macro_rules | `(tactic| walk_at "call ref") => `(tactic| (with_reducible refine hold_call 202 ?_))
theorem law_S1 {w : World} {dp un : Nat} {A₀ : Around} {base : Heap} {L fa nl : Addr} {cd : Value} {s : Shared} {Q : Flow → Shared → Prop} {E : Value → Shared → Prop} {nv : List Value} {nn : Nat} {ps : List (Nat × Nat)} {o1 o2 o3 o4 : Obj}
 (B : Below A₀ base [] base) (BO : BOk w base) (hd : dp + 110 < recursionLimit) (hu : un + 1100 < cLine) (hnv : StrsAre nv (ps.map two)) (hps : OkN ps) (hlen : ps.length < 9)
 (F : Fr base L s.heap (jmap none none none none)) (N : News base L s.heap [(nl, listOf (List.toArray nv) nn), (L + 1 + 1 + 1 + 1, o4), (L + 1 + 1 + 1, o3), (L + 1 + 1, o2), (L + 1, o1)]) (d2 : o2.data = .cell (some (.ref nl)))
 (hret : ∀ h' tk' O a1 dv1 n1 a2 dv2 n2 md, Fr base L h' (jmap (some (.ref O)) none none none) → News base L h' [(O, listOf [Value.ref a1, Value.ref a2].toArray 2), (a2, listOf (List.toArray dv2) n2), (a1, listOf (List.toArray dv1) n1), (nl, listOf (List.toArray nv) nn), (L + 1 + 1 + 1 + 1, o4), (L + 1 + 1 + 1, o3), (L + 1 + 1, o2), (L + 1, o1)] →
  1 ≤ md → Ord ps 0 1 md dv1 → Ord ps (-1) md tk' dv2 → (∀ b ∈ [O, a2, a1], b ≠ L + 1 + 1 + 1 + 1 ∧ b ≠ L + 1 + 1 + 1) → Q .next { s with heap := h', toks := tk' }) :
 wpAny (model Pg w) ((Ar dp un []).deeper (lawE w L fa cd)) (exec (lawS w 1) (lawE w L fa cd)) Q E s := by
 revert w dp un A₀ base L fa nl cd s Q E nv nn ps o1 o2 o3 o4
 refine @(pk19 ((((w00, δ), (δ, Ar 0 0 [])), δ), (((s00, δ), δ), δ)) ?_)
 generalize z19 _ _ = Z; generalize Z.1.1.1.1 = w, Z.1.1.1.2 = dp, Z.1.1.2.1 = un, Z.1.1.2.2 = A₀, Z.1.2.1.1 = base, Z.1.2.1.2 = L, Z.1.2.2.1 = fa, Z.1.2.2.2.1 = nl, Z.1.2.2.2.2 = cd, Z.2.1.1.1 = s, Z.2.1.1.2 = Q, Z.2.1.2.1 = E, Z.2.1.2.2.1 = nv, Z.2.1.2.2.2 = nn, Z.2.2.1.1 = ps, Z.2.2.1.2 = o1, Z.2.2.2.1 = o2, Z.2.2.2.2.1 = o3, Z.2.2.2.2.2 = o4
 intro B BO hd hu hnv hps hlen F N d2 hret
 have X := BO.X
 refine hide fun Dq kq => ?_; obtain ⟨p, loose, mean, mg, mb, T⟩ := BO.T; refine kq ?_; clear kq Dq
 with_unfolding_all show wpAny _ ((Ar dp un []).deeper (envOfC _ (Scope.mk _ _ _ _ _) _ _ _)) (exec (Stmt.Assign _ _ _) (envOfC _ (Scope.mk _ _ _ _ _) _ _ _)) _ _ _
 repeat' first | (k_unfold; try dsimp only) | walk1 | (dsimp only; walk1)
 refine Hold.mk ?_
 k_dflt (refine' Assign_JX ?F ?k0 ?k1 ?k2 ?k3 ?k4 ?k5 ?k6 ?k7 ?k8 ?_; (case F => k_asm); (case k0 => rfl); (case k1 => with_unfolding_all rfl); (case k2 => with_unfolding_all rfl); (case k3 => decide); (case k4 => rfl); (case k5 => decide); (case k6 => rfl); (case k7 => rfl); (case k8 => rfl))
 repeat' first | (k_unfold; try dsimp only) | walk1 | (dsimp only; walk1)
 rename (Fr base _ _ _) => F₂
 rename (News base _ _ _) => N₂
 rename_i l0 hA l1
 refine Hold.mk ?_
 refine src_list rfl F₂ N₂ (.inr ⟨_, .head _, rfl, _, rfl⟩) (show 2 < 1000 by decide) ?_
 intro h₆
 refine ⟨OrdJ ps _, OrdJ.mono, ⟨by dsimp only; omega, .inl ⟨rfl, rfl, rfl⟩⟩, ?_, ?_⟩
 ·intro i ys nw v I₂ oI₂ Cc oC D m₂ h₇ tk₇ E' hq hJ hP hCo hv₂ F₇ N₇ off ne
  have hq : i < 2 := hq
  have hnw : ∀ p ∈ [(l0, listOf #[Value.int 0 s.toks, Value.int (-1) (s.toks + 1 + 1)] 0), (nl, listOf nv.toArray nn), (L + 1 + 1 + 1 + 1, o4), (L + 1 + 1 + 1, o3), (L + 1 + 1, o2), (L + 1, o1)], p ∈ nw := by
   rcases hJ.2 with ⟨_, _, rfl⟩ | ⟨a1, dv1, n1, _, _, rfl, _⟩ | ⟨a1, dv1, n1, a2, dv2, n2, md, e, _⟩
   ·exact fun p hp => hp
   ·exact fun p hp => .tail _ hp
   ·omega
  have inN : ∀ p ∈ nw, p ∈ (I₂, oI₂) :: (Cc, oC) :: (D, LCg.lst ys) :: nw := fun p hp => .tail _ (.tail _ (.tail _ hp))
  have N₈ : News base L h₇ [(I₂, oI₂), (Cc, oC), (D, LCg.lst ys), (nl, listOf nv.toArray nn), (L + 1 + 1 + 1 + 1, o4), (L + 1 + 1 + 1, o3), (L + 1 + 1, o2), (L + 1, o1)] := fun p hp => by
   rcases List.mem_cons.mp hp with rfl | hp
   ·exact N₇ _ (.head _)
   ·rcases List.mem_cons.mp hp with rfl | hp
    ·exact N₇ _ (.tail _ (.head _))
    ·rcases List.mem_cons.mp hp with rfl | hp
     ·exact N₇ _ (.tail _ (.tail _ (.head _)))
     ·exact N₇ p (inN _ (hnw p (.tail _ hp)))
  clear F₂ N₂
  obtain ⟨side, ts, rfl, hside, hsi⟩ : E2 fun side ts => A3 (v = .int side ts) ((side = 0 ∨ side = -1)) (side = (if i = 0 then 0 else -1)) := by
   have : i = 0 ∨ i = 1 := by omega
   rcases this with rfl | rfl
   ·exact ⟨0, s.toks, by simpa using hP.symm, .inl rfl, rfl⟩
   ·exact ⟨-1, s.toks + 1 + 1, by simpa using hP.symm, .inr rfl, rfl⟩
  repeat' first | (k_unfold; try dsimp only) | walk1 | (dsimp only; walk1)
  refine Hold.mk ?_
  k_dflt (refine' found_spec (ps := ps) ?C ?hd ?hu ?hnl ?hnv ?hps ?hlen ?hside ?_; (case C => exact cx_of B F₇ BO N₈ no_mu); (case hd => ktr_room); (case hu => ktr_units); (case hnl => exact (N₈ _ (.tail _ (.tail _ (.tail _ (.head _))))).1); (case hnv => exact hnv); (case hps => exact hps); (case hlen => omega); (case hside => exact hside))
  intro ra h₈ tk₈ dvs rn hK hfr hra hdS hdT
  obtain ⟨F₉, N₉⟩ := keepW_law F₇ N₇ rfl hK
  obtain ⟨gr, rL⟩ := news_in F₇ hfr
  have rne : ∀ p ∈ (I₂, oI₂) :: (Cc, oC) :: (D, LCg.lst ys) :: nw, ra ≠ p.1 := fun p hp e => by
   have := (N₇ p hp).1
   rw [← e, hfr] at this; cases this
  have h1 := hJ.1
  have N₁₀ : News base L h₈ ((I₂, oI₂) :: (Cc, oC) :: (D, LCg.lst ys) :: (ra, listOf dvs.toArray rn) :: nw) := all_mv (A := [_, _, _]) ⟨hra, rL, gr⟩ N₉
  have hle : tk₇ ≤ tk₈ := by
   have hl := hdS.length
   rw [List.length_map, iterP_len] at hl
   refine hide fun Dq kq => ?_; obtain ⟨x, t, _, e⟩ := strs_at hdS (i := 0) (v := dvs[0]) (List.getElem?_eq_getElem (by omega)); refine kq ?_; clear kq Dq
   have := hdT _ (List.getElem_mem (by omega : 0 < dvs.length)) x t e
   exact Nat.le_of_lt (Nat.lt_of_le_of_lt this.1 this.2)
  refine Hold.mk ⟨_, tk₈, (ra, listOf dvs.toArray rn) :: nw, rfl, F₉, N₁₀, ⟨⟨rne _ (.head _), rne _ (.tail _ (.head _)), rne _ (.tail _ (.tail _ (.head _)))⟩, off⟩, .inr ⟨_, .tail _ (hnw _ (.head _)), rfl, _, rfl⟩, by omega, ?_⟩
  rcases hJ.2 with ⟨rfl, rfl, rfl⟩ | ⟨a1, dv1, n1, rfl, rfl, rfl, hap, o⟩ | ⟨a1, dv1, n1, a2, dv2, n2, md, e, _⟩
  ·refine .inr (.inl ⟨ra, dvs, rn, rfl, rfl, rfl, fun p hp => rne p (inN _ hp), ?_⟩)
   rw [if_pos rfl] at hsi
   subst hsi
   exact ⟨hdS, fun v hv x t e => ⟨Nat.le_trans h1 (hdT v hv x t e).1, (hdT v hv x t e).2⟩⟩
  ·refine .inr (.inr ⟨a1, dv1, n1, ra, dvs, rn, tk₇, rfl, rfl, rfl, hap, rne _ (inN _ (.head _)), fun p hp => rne p (inN _ (.tail _ hp)), h1, o, ?_⟩)
   rw [if_neg (by decide)] at hsi
   subst hsi
   exact ⟨hdS, hdT⟩
  ·omega
 ·intro ys nw tk₇ hJ D h₇ F₇ N₇ o1
  obtain ⟨h1, h⟩ := hJ
  rcases h with ⟨e, _⟩ | ⟨a1, dv1, n1, e, _⟩ | ⟨a1, dv1, n1, a2, dv2, n2, md, _, rfl, rfl, ap1, ap2, ap3, hmd, O1, O2⟩
  ·cases e
  ·cases e
  ·refine hret h₇ tk₇ D a1 dv1 n1 a2 dv2 n2 md (jmap_orders ▸ F₇) (fun p hp => N₇ p ?_) hmd O1 O2 ?_
   ·rcases List.mem_cons.mp hp with rfl | hp
    ·exact .head _
    ·simp only [List.mem_cons, List.not_mem_nil, or_false] at hp ⊢
     rcases hp with e | e | e | e | e | e | e <;> simp only [e, true_or, or_true]
   ·intro b hb
    simp only [List.mem_cons, List.not_mem_nil, or_false] at hb
    simp only [LCg.Off1, and_true] at o1
    rcases hb with rfl | rfl | rfl
    ·exact ⟨Ne.symm o1.2.2.2.2.1, Ne.symm o1.2.2.2.2.2.1⟩
    ·exact ⟨ap3 _ (.tail _ (.tail _ (.head _))), ap3 _ (.tail _ (.tail _ (.tail _ (.head _))))⟩
    ·exact ⟨ap1 _ (.tail _ (.tail _ (.head _))), ap1 _ (.tail _ (.tail _ (.tail _ (.head _))))⟩
end

end
section
theorem iterP_ok {ps : List (Nat × Nat)} {side : Int} (hps : OkN ps) : ∀ k, k ≤ 5 → (iterP ps side k).Nodup ∧ ∀ c ∈ iterP ps side k, c ∈ works
 | 0, _ => ⟨List.nodup_nil, fun _ h => nomatch h⟩
 | k + 1, hk => by
  obtain ⟨h1, h2⟩ := iterP_ok (side := side) hps k (by omega)
  have hfl : works.filter (freeB ps (iterP ps side k)) ≠ [] := fun e => by
   have b := nodup_len (l := works) (m := iterP ps side k) (by decide) (all_done hps e)
   rw [iterP_len] at b
   have : works.length = 5 := rfl
   omega
  have hm := pick_mem (side := side) hfl
  rw [List.mem_filter] at hm
  refine ⟨?_, fun c hc => ?_⟩
  ·rw [iterP, List.nodup_append]
   refine ⟨h1, by simp, fun a ha b hb e => ?_⟩
   rw [List.mem_singleton.mp hb] at e
   exact (freeB_iff.mp hm.2).2.1 (e ▸ ha)
  ·rw [iterP] at hc
   rcases List.mem_append.mp hc with hc | hc
   ·exact h2 c hc
   ·rw [List.mem_singleton.mp hc]; exact hm.1
abbrev ordS (ps : List (Nat × Nat)) (side : Int) : List Str := (iterP ps side 5).map ltr
theorem ordS_ok {ps : List (Nat × Nat)} {side : Int} (hps : OkN ps) : ∀ x ∈ ordS ps side, PyData.strOk x = true := fun x hx => by
 refine hide fun Dq kq => ?_; obtain ⟨c, hc, rfl⟩ := List.mem_map.mp hx; refine kq ?_; clear kq Dq
 exact ltr_ok ((iterP_ok hps 5 (Nat.le_refl _)).2 c hc)
theorem ordS_len {ps : List (Nat × Nat)} {side : Int} : (ordS ps side).length = 5 := by rw [List.length_map, iterP_len]
section
local macro_rules | `(tactic| walk_at "eval ListComp") => `(tactic| (refine Hold.out ?_))
local macro_rules | `(tactic| walk_at "pyIter ref") => `(tactic| (refine Hold.out ?_))
local macro_rules | `(tactic| walk_at "compareOp NotEq ref ref") => `(tactic| (refine Hold.out ?_))
local macro_rules | `(tactic| walk_at "call ref") => `(tactic| (with_reducible refine hold_call 231 ?_))
theorem law_S2 {w : World} {dp un : Nat} {A₀ : Around} {base : Heap} {L fa nl O a1 a2 : Addr} {cd : Value} {s : Shared} {Q : Flow → Shared → Prop} {E : Value → Shared → Prop} {nv dv1 dv2 : List Value} {nn n1 n2 : Nat} {ps : List (Nat × Nat)} {o1 o2 o3 o4 : Obj}
 (B : Below A₀ base [] base) (BO : BOk w base) (hd : dp + 110 < recursionLimit) (hu : un + 1100 < cLine) (hnv : StrsAre nv (ps.map two)) (hps : OkN ps) (hlen : ps.length < 9)
 (F : Fr base L s.heap (jmap (some (.ref O)) none none none)) (N : News base L s.heap [(O, listOf [Value.ref a1, Value.ref a2].toArray 2), (a2, listOf (List.toArray dv2) n2), (a1, listOf (List.toArray dv1) n1), (nl, listOf (List.toArray nv) nn), (L + 1 + 1 + 1 + 1, o4), (L + 1 + 1 + 1, o3), (L + 1 + 1, o2), (L + 1, o1)]) (d2 : o2.data = .cell (some (.ref nl)))
 (h1 : StrsAre dv1 (ordS ps 0)) (h2 : StrsAre dv2 (ordS ps (-1)))
 (hret : ∀ h' tk', Fr base L h' (jmap (some (.ref O)) none none none) → News base L h' [(O, listOf [Value.ref a1, Value.ref a2].toArray 2), (a2, listOf (List.toArray dv2) n2), (a1, listOf (List.toArray dv1) n1), (nl, listOf (List.toArray nv) nn), (L + 1 + 1 + 1 + 1, o4), (L + 1 + 1 + 1, o3), (L + 1 + 1, o2), (L + 1, o1)] → Q .next { s with heap := h', toks := tk' }) :
 wpAny (model Pg w) ((Ar dp un []).deeper (lawE w L fa cd)) (exec (lawS w 2) (lawE w L fa cd)) Q E s := by
 revert w dp un A₀ base L fa nl O a1 a2 cd s Q E nv dv1 dv2 nn n1 n2 ps o1 o2 o3 o4
 refine @(pk26 ((((w00, δ), (Ar 0 0 [], δ)), (δ, (δ, (δ, s00)))), δ) ?_)
 generalize z26 _ _ = Z; generalize Z.1.1.1.1 = w, Z.1.1.1.2.1 = dp, Z.1.1.1.2.2 = un, Z.1.1.2.1 = A₀, Z.1.1.2.2.1 = base, Z.1.1.2.2.2 = L, Z.1.2.1.1 = fa, Z.1.2.1.2.1 = nl, Z.1.2.1.2.2 = O, Z.1.2.2.1.1 = a1, Z.1.2.2.1.2 = a2, Z.1.2.2.2.1 = cd, Z.1.2.2.2.2 = s, Z.2.1.1.1 = Q, Z.2.1.1.2.1 = E, Z.2.1.1.2.2 = nv, Z.2.1.2.1 = dv1, Z.2.1.2.2.1 = dv2, Z.2.1.2.2.2 = nn, Z.2.2.1.1 = n1, Z.2.2.1.2.1 = n2, Z.2.2.1.2.2 = ps, Z.2.2.2.1.1 = o1, Z.2.2.2.1.2 = o2, Z.2.2.2.2.1 = o3, Z.2.2.2.2.2 = o4
 intro B BO hd hu hnv hps hlen F N d2 h1 h2 hret
 have X := BO.X
 refine hide fun Dq kq => ?_; obtain ⟨p, loose, mean, mg, mb, T⟩ := BO.T; refine kq ?_; clear kq Dq
 with_unfolding_all show wpAny _ ((Ar dp un []).deeper (envOfC _ (Scope.mk _ _ _ _ _) _ _ _)) (exec (Stmt.If _ _ _ _) (envOfC _ (Scope.mk _ _ _ _ _) _ _ _)) _ _ _
 repeat' first | (k_unfold; try dsimp only) | walk1 | (dsimp only; walk1)
 refine Hold.mk ?_
 k_dflt (refine' ListComp_UX ?F ?k1 ?k2 ?k3 ?k4 ?k5 ?_; (case F => k_asm); (case k1 => with_unfolding_all rfl); (case k2 => decide); (case k3 => rfl); (case k4 => decide); (case k5 => rfl))
 repeat' first | (k_unfold; try dsimp only) | walk1 | (dsimp only; walk1)
 rename (Fr base _ _ _) => F₂
 rename (News base _ _ _) => N₂
 rename_i l0 hA l1
 generalize hrest : [(O, listOf #[Value.ref a1, Value.ref a2] 2), (a2, listOf dv2.toArray n2), (a1, listOf dv1.toArray n1), (nl, listOf nv.toArray nn), (L + 1 + 1 + 1 + 1, o4), (L + 1 + 1 + 1, o3), (L + 1 + 1, o2), (L + 1, o1)] = rest at N₂
 have hnl : (nl, listOf nv.toArray nn) ∈ rest := by rw [← hrest]; exact .tail _ (.tail _ (.tail _ (.head _)))
 have hc2 : (L + 1 + 1, o2) ∈ rest := by rw [← hrest]; exact .tail _ (.tail _ (.tail _ (.tail _ (.tail _ (.tail _ (.head _))))))
 refine Hold.mk ?_
 refine src_list rfl F₂ N₂ (.inr ⟨_, .head _, rfl, _, rfl⟩) (show 2 < 1000 by decide) ?_
 intro h₆
 refine rest_inv (n := 2) (fun i ys nw => (i = 0 ∧ ys = [] ∧ nw = (l0, listOf #[Value.int 0 s.toks, Value.int (-1) (s.toks + 1 + 1)] 0) :: rest) ∨
  (E3 fun b1 ev1 m1 => A4 (i = 1) (ys = [.ref b1]) (nw = (b1, listOf (List.toArray ev1) m1) :: (l0, listOf #[Value.int 0 s.toks, Value.int (-1) (s.toks + 1 + 1)] 0) :: rest) (StrsAre ev1 (ordS ps 0))) ∨
  (E6 fun b1 ev1 m1 b2 ev2 m2 => A5 (i = 2) (ys = [.ref b1, .ref b2]) (nw = (b2, listOf (List.toArray ev2) m2) :: (b1, listOf (List.toArray ev1) m1) :: (l0, listOf #[Value.int 0 s.toks, Value.int (-1) (s.toks + 1 + 1)] 0) :: rest) (StrsAre ev1 (ordS ps 0)) (StrsAre ev2 (ordS ps (-1))))) ?_ ?_ _ 0 [] _ (Nat.zero_add _) (.inl ⟨rfl, rfl, rfl⟩)
 ·intro i ys nw v I₂ oI₂ Cc oC D m₂ h₇ tk₇ E' hq hJ hP hCo hv₂ F₇ N₇ off ne
  have hnw : ∀ p ∈ (l0, listOf #[Value.int 0 s.toks, Value.int (-1) (s.toks + 1 + 1)] 0) :: rest, p ∈ nw := by
   rcases hJ with ⟨_, _, rfl⟩ | ⟨b1, ev1, m1, _, _, rfl, _⟩ | ⟨b1, ev1, m1, b2, ev2, m2, e, _⟩
   ·exact fun p hp => hp
   ·exact fun p hp => .tail _ hp
   ·omega
  have inN : ∀ p ∈ nw, p ∈ (I₂, oI₂) :: (Cc, oC) :: (D, LCg.lst ys) :: nw := fun p hp => .tail _ (.tail _ (.tail _ hp))
  have N₈ : News base L h₇ [(I₂, oI₂), (Cc, oC), (D, LCg.lst ys), (nl, listOf nv.toArray nn), (L + 1 + 1, o2)] :=
   all_cons (N₇ _ (.head _)) (all_cons (N₇ _ (.tail _ (.head _))) (all_cons (N₇ _ (.tail _ (.tail _ (.head _)))) (all_cons (N₇ _ (inN _ (hnw _ (.tail _ hnl)))) (all_cons (N₇ _ (inN _ (hnw _ (.tail _ hc2)))) fun _ h => nomatch h))))
  clear F₂ N₂
  obtain ⟨side, ts, rfl, hside, hsi⟩ : E2 fun side ts => A3 (v = .int side ts) ((side = 0 ∨ side = -1)) (side = (if i = 0 then 0 else -1)) := by
   have : i = 0 ∨ i = 1 := by omega
   rcases this with rfl | rfl
   ·exact ⟨0, s.toks, by simpa using hP.symm, .inl rfl, rfl⟩
   ·exact ⟨-1, s.toks + 1 + 1, by simpa using hP.symm, .inr rfl, rfl⟩
  repeat' first | (k_unfold; try dsimp only) | walk1 | (dsimp only; walk1)
  refine Hold.mk ?_
  k_dflt (refine' least_spec (ps := ps) ?C ?hd ?hu ?hnl ?hnv ?hps ?hlen ?hside ?_; (case C => exact cx_of B F₇ BO N₈ no_mu); (case hd => ktr_room); (case hu => ktr_units); (case hnl => exact (N₈ _ (.tail _ (.tail _ (.tail _ (.head _))))).1); (case hnv => exact hnv); (case hps => exact hps); (case hlen => omega); (case hside => exact hside))
  intro ra h₈ tk₈ dvs rn hK hfr hra hdS
  have F₉ := fr_keep0 F₇ hK
  have N₉ := news_keep0 N₇ hK
  obtain ⟨gr, rL⟩ := news_in F₇ hfr
  have rne : ∀ p ∈ (I₂, oI₂) :: (Cc, oC) :: (D, LCg.lst ys) :: nw, ra ≠ p.1 := fun p hp e => by
   have := (N₇ p hp).1
   rw [← e, hfr] at this; cases this
  have N₁₀ : News base L h₈ ((I₂, oI₂) :: (Cc, oC) :: (D, LCg.lst ys) :: (ra, listOf dvs.toArray rn) :: nw) := all_mv (A := [_, _, _]) ⟨hra, rL, gr⟩ N₉
  refine ⟨_, tk₈, (ra, listOf dvs.toArray rn) :: nw, rfl, F₉, N₁₀, ⟨⟨rne _ (.head _), rne _ (.tail _ (.head _)), rne _ (.tail _ (.tail _ (.head _)))⟩, off⟩, .inr ⟨_, .tail _ (hnw _ (.head _)), rfl, _, rfl⟩, ?_⟩
  rcases hJ with ⟨rfl, rfl, rfl⟩ | ⟨b1, ev1, m1, rfl, rfl, rfl, hb1⟩ | ⟨b1, ev1, m1, b2, ev2, m2, e, _⟩
  ·rw [if_pos rfl] at hsi
   subst hsi
   exact .inr (.inl ⟨ra, dvs, rn, rfl, rfl, rfl, hdS⟩)
  ·rw [if_neg (by decide)] at hsi
   subst hsi
   exact .inr (.inr ⟨b1, ev1, m1, ra, dvs, rn, rfl, rfl, rfl, hb1, hdS⟩)
  ·omega
 ·intro ys nw hJ D h₇ tk₇ F₇ N₇ oD
  rcases hJ with ⟨e, _⟩ | ⟨b1, ev1, m1, e, _⟩ | ⟨b1, ev1, m1, b2, ev2, m2, _, rfl, rfl, hb1, hb2⟩
  ·cases e
  ·cases e
  ·clear F₂ N₂
   repeat' first | (k_unfold; try dsimp only) | walk1 | (dsimp only; walk1)
   have N₈ : News base L h₇ rest := fun p hp => N₇ p (.tail _ (.tail _ (.tail _ (.tail _ hp))))
   rw [← hrest] at N₈
   have g := fun p hp => (N₇ p hp).1
   refine Hold.mk (ne_rows (vs := [.ref a1, .ref a2]) (us := [.ref b1, .ref b2]) (R := [ordS ps 0, ordS ps (-1)]) (R' := [ordS ps 0, ordS ps (-1)]) (PySem.IsL.isList (n := 2) (N₈ _ (.head _)).1) (PySem.IsL.isList (n := 2) (g _ (.head _)))
    (.cons (N₈ _ (.tail _ (.tail _ (.head _)))).1 h1 (.cons (N₈ _ (.tail _ (.head _))).1 h2 .nil)) (.cons (g _ (.tail _ (.tail _ (.head _)))) hb1 (.cons (g _ (.tail _ (.head _))) hb2 .nil)) ?_ ?_ (by ktr_units) ?_)
   ·intro r hr
    simp only [List.mem_cons, List.not_mem_nil, or_false] at hr
    rcases hr with rfl | rfl <;> exact ordS_ok hps
   ·intro r hr
    simp only [List.mem_cons, List.not_mem_nil, or_false] at hr
    rcases hr with rfl | rfl <;> exact ordS_ok hps
   ·rw [decide_eq_true rfl]
    clear g N₇
    repeat' first | (k_unfold; try dsimp only) | walk1 | (dsimp only; walk1)
    exact hret h₇ tk₇ F₇ N₈
end

end
section
theorem law_S3 {w : World} {dp un : Nat} {A₀ : Around} {base : Heap} {L fa nl O a1 a2 : Addr} {cd : Value} {s : Shared} {Q : Flow → Shared → Prop} {E : Value → Shared → Prop} {nv dv1 dv2 : List Value} {nn n1 n2 : Nat} {o1 o2 o3 o4 : Obj}
 (B : Below A₀ base [] base) (BO : BOk w base) (hd : dp + 110 < recursionLimit) (hu : un + 1100 < cLine)
 (F : Fr base L s.heap (jmap (some (.ref O)) none none none)) (N : News base L s.heap [(O, listOf [Value.ref a1, Value.ref a2].toArray 2), (a2, listOf (List.toArray dv2) n2), (a1, listOf (List.toArray dv1) n1), (nl, listOf (List.toArray nv) nn), (L + 1 + 1 + 1 + 1, o4), (L + 1 + 1 + 1, o3), (L + 1 + 1, o2), (L + 1, o1)]) (d3 : o3.data = .cell none) (d4 : o4.data = .cell none)
 (hap : ∀ b ∈ [O, a2, a1], b ≠ L + 1 + 1 + 1 + 1 ∧ b ≠ L + 1 + 1 + 1) (hnl : L + 1 + 1 + 1 + 1 < nl)
 (hret : ∀ h' tk' o3' o4', Fr base L h' (jmap (some (.ref O)) none none none) → News base L h' [(O, listOf [Value.ref a1, Value.ref a2].toArray 2), (a2, listOf (List.toArray dv2) n2), (a1, listOf (List.toArray dv1) n1), (nl, listOf (List.toArray nv) nn), (L + 1 + 1 + 1 + 1, o4'), (L + 1 + 1 + 1, o3'), (L + 1 + 1, o2), (L + 1, o1)] → o3'.data = .cell (some (.ref a1)) → o4'.data = .cell (some (.ref a2)) → Q .next { s with heap := h', toks := tk' }) :
 wpAny (model Pg w) ((Ar dp un []).deeper (lawE w L fa cd)) (exec (lawS w 3) (lawE w L fa cd)) Q E s := by
 revert w dp un A₀ base L fa nl O a1 a2 cd s Q E nv dv1 dv2 nn n1 n2 o1 o2 o3 o4
 refine @(pk25 ((((w00, δ), (Ar 0 0 [], δ)), δ), (((s00, δ), δ), δ)) ?_)
 generalize z25 _ _ = Z; generalize Z.1.1.1.1 = w, Z.1.1.1.2.1 = dp, Z.1.1.1.2.2 = un, Z.1.1.2.1 = A₀, Z.1.1.2.2.1 = base, Z.1.1.2.2.2 = L, Z.1.2.1.1 = fa, Z.1.2.1.2.1 = nl, Z.1.2.1.2.2 = O, Z.1.2.2.1 = a1, Z.1.2.2.2.1 = a2, Z.1.2.2.2.2 = cd, Z.2.1.1.1 = s, Z.2.1.1.2.1 = Q, Z.2.1.1.2.2 = E, Z.2.1.2.1 = nv, Z.2.1.2.2.1 = dv1, Z.2.1.2.2.2 = dv2, Z.2.2.1.1 = nn, Z.2.2.1.2.1 = n1, Z.2.2.1.2.2 = n2, Z.2.2.2.1.1 = o1, Z.2.2.2.1.2 = o2, Z.2.2.2.2.1 = o3, Z.2.2.2.2.2 = o4
 intro B BO hd hu F N d3 d4 hap hnl hret
 have X := BO.X
 refine hide fun Dq kq => ?_; obtain ⟨p, loose, mean, mg, mb, T⟩ := BO.T; refine kq ?_; clear kq Dq
 have c1 := (hap O (.head _)).1; have c2 := (hap O (.head _)).2
 have c3 := (hap a2 (.tail _ (.head _))).1; have c4 := (hap a2 (.tail _ (.head _))).2
 have c5 := (hap a1 (.tail _ (.tail _ (.head _)))).1; have c6 := (hap a1 (.tail _ (.tail _ (.head _)))).2
 have c7 : nl ≠ L + 1 + 1 + 1 + 1 := Nat.ne_of_gt hnl
 have c8 : nl ≠ L + 1 + 1 + 1 := Nat.ne_of_gt (Nat.lt_trans (Nat.lt_succ_self _) hnl)
 with_unfolding_all show wpAny _ ((Ar dp un []).deeper (envOfC _ (Scope.mk _ _ _ _ _) _ _ _)) (exec (Stmt.Assign _ _ _) (envOfC _ (Scope.mk _ _ _ _ _) _ _ _)) _ _ _
 repeat' first | (k_unfold; try dsimp only) | walk1 | (dsimp only; walk1)
 exact hret _ _ _ _ (by assumption) (by assumption) (by assumption) (by assumption)

end
section
inductive RowsM (tail : List (Addr × Obj)) : List Value → List (List Str) → Prop where
 | nil : RowsM tail [] []
 | cons {a : Addr} {rv : List Value} {n : Nat} {r : List Str} {vs : List Value} {rows : List (List Str)} (ho : (a, listOf rv.toArray n) ∈ tail) (hr : StrsAre rv r) (t : RowsM tail vs rows) : RowsM tail (.ref a :: vs) (r :: rows)
theorem RowsM.mono {tail tail' : List (Addr × Obj)} {vs : List Value} {rows : List (List Str)} (x : RowsM tail vs rows) (k : ∀ p ∈ tail, p ∈ tail') : RowsM tail' vs rows := by
 induction x with
 | nil => exact .nil
 | cons ho hr _ ih => exact .cons (k _ ho) hr ih
theorem RowsM.length {tail : List (Addr × Obj)} {vs : List Value} {rows : List (List Str)} (x : RowsM tail vs rows) : vs.length = rows.length := by
 induction x with
 | nil => rfl
 | cons _ _ _ ih => rw [List.length_cons, List.length_cons, ih]
theorem RowsM.are {h : Heap} {tail : List (Addr × Obj)} {vs : List Value} {rows : List (List Str)} (x : RowsM tail vs rows) (N : ∀ p ∈ tail, h.get? p.1 = some p.2) : RowsAre h vs rows := by
 induction x with
 | nil => exact .nil
 | cons ho hr _ ih => exact .cons (N _ ho) hr ih
theorem RowsM.at {tail : List (Addr × Obj)} {vs : List Value} {rows : List (List Str)} (x : RowsM tail vs rows) : ∀ {i : Nat} {v : Value}, vs[i]? = some v → E4 fun a rv n r => A4 (v = .ref a) ((a, listOf rv.toArray n) ∈ tail) (rows[i]? = some r) (StrsAre rv r) := by
 induction x with
 | nil => intro i v e; simp at e
 | @cons a rv n r vs rows ho hr t ih =>
  intro i v e
  cases i with
  | zero => simp at e; exact ⟨a, rv, n, r, e.symm, ho, by simp, hr⟩
  | succ i => simp at e; obtain ⟨a', rv', n', r', q1, q2, q3, q4⟩ := ih e; exact ⟨a', rv', n', r', q1, q2, by simpa using q3, q4⟩
theorem rows_tail {g h : Heap} {L : Addr} {vs : List Value} {rows : List (List Str)} (x : RowsAre h vs rows) (hf : ∀ a, .ref a ∈ vs → a ≠ L ∧ g.get? a = none) : ∃ tail, News g L h tail ∧ RowsM tail vs rows := by
 induction x with
 | nil => exact ⟨[], (fun _ h => nomatch h), .nil⟩
 | @cons a rv n r vs rows ho hr t ih =>
  refine hide fun Dq kq => ?_; obtain ⟨tail, N, M⟩ := ih fun a ha => hf a (.tail _ ha); refine kq ?_; clear kq Dq
  refine ⟨(a, listOf rv.toArray n) :: tail, fun p hp => ?_, .cons (.head _) hr (M.mono fun p hp => .tail _ hp)⟩
  rcases List.mem_cons.mp hp with rfl | hp
  ·exact ⟨ho, hf a (.head _)⟩
  ·exact N p hp
section
variable {prog : Program} {w : World} {A : Around} {s : Shared} {h₀ : Heap} {L : Addr} {m : Str → Option Value} {env : Env}
theorem two_range {elt : Expr} {x1 x2 : Str} {scope : Scope} {cl : List (Str × Addr)} {s₂ : Shared} {v : Value} {I C D r : Addr} {oI oC : Obj} {ys : List Value} {nw : List (Addr × Obj)} {Jn : List Value → List (Addr × Obj) → Prop} {a b : Int} {t u w' : Tok} {n2 : Nat} (Ji : Nat → List Value → List (Addr × Obj) → Prop)
  (hh : A.handled = none) (F : Fr h₀ L s.heap m) (N : News h₀ L s.heap ((I, oI) :: (C, oC) :: (D, LCg.lst ys) :: nw)) (off : LCg.Off3 I C D nw) (hr : IsRange s.heap r a b 1 t u w') (hsm : Builtin.Range.small a b 1 = true) (hn : Builtin.Range.rangeSize a b 1 = ((n2 : Nat) : Int)) (hn2 : n2 ≤ 1000) (hs : E2 fun h tk => s = { s₂ with heap := h, toks := tk }) (hJ : Ji 0 ys nw)
  (turn : ∀ q ys' nw' t2 oI2 oC' m₂ h tk I2, q < n2 → Ji q ys' nw' → LCg.NsObj oC' m₂ → m₂ x1 = some v → m₂ x2 = some (.int (a + (q : Nat)) t2) → Fr h₀ L h m → News h₀ L h ((I2, oI2) :: (I, oI) :: (C, oC') :: (D, LCg.lst ys') :: nw') → LCg.Off3 I C D nw' → LCg.Off1 I2 nw' → ((@Ne Nat I2 I) ∧ (@Ne Nat I2 C) ∧ (@Ne Nat I2 D) ∧ (@Ne Nat I C) ∧ (@Ne Nat I D) ∧ (@Ne Nat C D)) →
   wpAny (model prog w) A (eval elt (compEnvC scope cl C env)) (fun y s₄ => Hold (E3 fun h' tk' nw'' => A6 (s₄ = { s₂ with heap := h', toks := tk' }) (Fr h₀ L h' m) (News h₀ L h' ((I2, oI2) :: (I, oI) :: (C, oC') :: (D, LCg.lst ys') :: nw'')) (LCg.Off3 I C D nw'') (LCg.Off1 I2 nw'') (Ji (q + 1) (ys' ++ [y]) nw''))) (fun _ _ => False) { s₂ with heap := h, toks := tk })
  (hend : ∀ ys' nw', Ji n2 ys' nw' → Jn ys' nw') : wpAny (model prog w) A (pyIter (.ref r)) (TwoSrc prog w A h₀ L m env elt x1 x2 scope cl s₂ v I C D oI oC ys Jn) (fun _ _ => False) s := by
 refine hide fun Dq kq => ?_; obtain ⟨h, tk, rfl⟩ := hs; refine kq ?_; clear kq Dq
 refine wpAny_pyIter_range hr hsm ?_
 have W := LCg.range_walks (prog := prog) (w := w) (A := A) (I := h.objs.size) hh a n2
 refine hide fun Dq kq => ?_; obtain ⟨f1, f2, f3⟩ := i_facts (s := { s₂ with heap := h, toks := tk }) F N; refine kq ?_; clear kq Dq
 refine ⟨h.objs.size, n2, _, _, nw, _, tk, Ji, rfl, W, hn2, rfl, ?_, fun i h st => ⟨_, st⟩, fun i h h' o st e e' => ?_, F.push _, fun p hp => ⟨Heap.get?_push_of_some _ (N p hp).1, (N p hp).2⟩, off, f2, f3, f1, hJ, ?_, hend⟩
 ·show IsRangeIter _ _ _ _ _
  rw [hn]; simpa using Heap.get?_push_size _ rfl
 ·have st' : h.get? _ = some _ := st
  rw [e] at st'
  have := Option.some.inj st'
  subst this
  exact e'
 ·rintro q ys' nw' v2 oI2 oC' m₂ h tk hq J' ⟨t2, rfl⟩ a1 a2 a3 a4 a5 a6 a7 a8
  exact turn q ys' nw' t2 oI2 oC' m₂ h tk _ hq J' a1 a2 a3 a4 a5 a6 a7 a8
end
theorem jmap_wp {v u : Value} {o wy p t : Option Value} : (fun y => if y = Str.ofString "way" then some v else if y = Str.ofString "pairs" then some u else jmap o wy p t y) = jmap o (some v) (some u) t := by
 funext y
 by_cases h : y = Str.ofString "told"
 ·subst h; rfl
 ·by_cases h' : y = Str.ofString "pairs"
  ·subst h'; rfl
  ·by_cases h'' : y = Str.ofString "way"
   ·subst h''; rfl
   ·simp only [jmap, if_neg h, if_neg h', if_neg h'']
def rowJ (xs : List Str) (j n : Nat) : List (List Str) := (List.range n).map fun q => [xs.getD j Str.empty, xs.getD (j + 1 + q) Str.empty]
def pairsTo (xs : List Str) (i : Nat) : List (List Str) := (List.range i).flatMap fun j => rowJ xs j (4 - j)
theorem pairsTo_succ (xs : List Str) (i : Nat) : pairsTo xs (i + 1) = pairsTo xs i ++ rowJ xs i (4 - i) := by
 simp [pairsTo, List.range_succ]
theorem rowJ_succ (xs : List Str) (j n : Nat) : rowJ xs j (n + 1) = rowJ xs j n ++ [[xs.getD j Str.empty, xs.getD (j + 1 + n) Str.empty]] := by
 simp [rowJ, List.range_succ]
section
local macro_rules | `(tactic| walk_at "eval ListComp") => `(tactic| (refine Hold.out ?_))
local macro_rules | `(tactic| walk_at "pyIter ref") => `(tactic| (refine Hold.out ?_))
local macro_rules | `(tactic| walk_at "subscriptTail Name Name ref int") => `(tactic| (refine Hold.out ?_))
local macro_rules | `(tactic| walk_at "call ref") => `(tactic| (with_reducible refine hold_call 221 ?_))
theorem law_S4 {w : World} {dp un : Nat} {A₀ : Around} {base : Heap} {L fa nl O a1 a2 : Addr} {cd : Value} {s : Shared} {Q : Flow → Shared → Prop} {E : Value → Shared → Prop} {nv dv1 dv2 : List Value} {nn n1 n2 : Nat} {ps : List (Nat × Nat)} {o1 o2 o3 o4 : Obj}
 (B : Below A₀ base [] base) (BO : BOk w base) (hd : dp + 110 < recursionLimit) (hu : un + 1100 < cLine) (hps : OkN ps)
 (F : Fr base L s.heap (jmap (some (.ref O)) none none none)) (N : News base L s.heap [(O, listOf [Value.ref a1, Value.ref a2].toArray 2), (a2, listOf (List.toArray dv2) n2), (a1, listOf (List.toArray dv1) n1), (nl, listOf (List.toArray nv) nn), (L + 1 + 1 + 1 + 1, o4), (L + 1 + 1 + 1, o3), (L + 1 + 1, o2), (L + 1, o1)])
 (d3 : o3.data = .cell (some (.ref a1))) (d4 : o4.data = .cell (some (.ref a2))) (h1 : StrsAre dv1 (ordS ps 0)) (h2 : StrsAre dv2 (ordS ps (-1))) (hsub : ∀ x ∈ ordS ps 0, x ∈ ordS ps (-1)) (htk : ∀ x t, .str x t ∈ dv1 → t ≠ 0 ∧ ∀ v ∈ dv2, Apt x t v)
 (hret : ∀ h' tk' P pv pn W wl wn tail, Fr base L h' (jmap (some (.ref O)) (some (.ref W)) (some (.ref P)) none) → News base L h' ((P, listOf (List.toArray pv) pn) :: (W, listOf (List.toArray wl) wn) :: (a2, listOf (List.toArray dv2) n2) :: (a1, listOf (List.toArray dv1) n1) :: (nl, listOf (List.toArray nv) nn) :: (L + 1 + 1 + 1 + 1, o4) :: (L + 1 + 1 + 1, o3) :: (L + 1 + 1, o2) :: (L + 1, o1) :: tail) →
  RowsM tail wl (wayS (ordS ps 0) (ordS ps (-1)) 11) → RowsIn base L tail dv1 2 pv (pairsTo (ordS ps 0) 5) → Q .next { s with heap := h', toks := tk' }) :
 wpAny (model Pg w) ((Ar dp un []).deeper (lawE w L fa cd)) (exec (lawS w 4) (lawE w L fa cd)) Q E s := by
 revert w dp un A₀ base L fa nl O a1 a2 cd s Q E nv dv1 dv2 nn n1 n2 ps o1 o2 o3 o4
 refine @(pk26 ((((w00, δ), (Ar 0 0 [], δ)), (δ, (δ, (δ, s00)))), δ) ?_)
 generalize z26 _ _ = Z; generalize Z.1.1.1.1 = w, Z.1.1.1.2.1 = dp, Z.1.1.1.2.2 = un, Z.1.1.2.1 = A₀, Z.1.1.2.2.1 = base, Z.1.1.2.2.2 = L, Z.1.2.1.1 = fa, Z.1.2.1.2.1 = nl, Z.1.2.1.2.2 = O, Z.1.2.2.1.1 = a1, Z.1.2.2.1.2 = a2, Z.1.2.2.2.1 = cd, Z.1.2.2.2.2 = s, Z.2.1.1.1 = Q, Z.2.1.1.2.1 = E, Z.2.1.1.2.2 = nv, Z.2.1.2.1 = dv1, Z.2.1.2.2.1 = dv2, Z.2.1.2.2.2 = nn, Z.2.2.1.1 = n1, Z.2.2.1.2.1 = n2, Z.2.2.1.2.2 = ps, Z.2.2.2.1.1 = o1, Z.2.2.2.1.2 = o2, Z.2.2.2.2.1 = o3, Z.2.2.2.2.2 = o4
 intro B BO hd hu hps F N d3 d4 h1 h2 hsub htk hret
 have X := BO.X
 refine hide fun Dq kq => ?_; obtain ⟨p, loose, mean, mg, mb, T⟩ := BO.T; refine kq ?_; clear kq Dq
 with_unfolding_all show wpAny _ ((Ar dp un []).deeper (envOfC _ (Scope.mk _ _ _ _ _) _ _ _)) (exec (Stmt.Assign _ _ _) (envOfC _ (Scope.mk _ _ _ _ _) _ _ _)) _ _ _
 repeat' first | (k_unfold; try dsimp only) | walk1 | (dsimp only; walk1)
 refine Hold.mk ?_
 k_dflt (refine' way_spec (xs := ordS ps 0) (ys := ordS ps (-1)) ?C ?hd ?hu ?hol ?hov ?hgl ?hgv ?hx5 ?hsub ?htk ?_; (case C => exact cx_of B F BO N no_mu); (case hd => ktr_room); (case hu => ktr_units); (case hol => exact (N _ (.tail _ (.tail _ (.head _)))).1); (case hov => exact h1); (case hgl => exact (N _ (.tail _ (.head _))).1); (case hgv => exact h2); (case hx5 => exact ordS_len); (case hsub => exact hsub); (case htk => exact htk))
 intro W h₂ tk₂ wl wn hK hWf hW hrows hfr
 have F₂ := fr_keep0 F hK
 have N₂ := news_keep0 N hK
 obtain ⟨gW, WL⟩ := news_in F hWf
 obtain ⟨wt, Nw, Mw⟩ := rows_tail (g := base) (L := L) hrows fun a ha => by
  rcases (hfr a ha).2 with rfl | hn
  ·exact ⟨(N (_, listOf dv1.toArray n1) (.tail _ (.tail _ (.head _)))).2.1, (N (_, listOf dv1.toArray n1) (.tail _ (.tail _ (.head _)))).2.2⟩
  ·exact ⟨(news_in F hn).2, (news_in F hn).1⟩
 have N₃ : News base L h₂ ((W, listOf wl.toArray wn) :: (a2, listOf dv2.toArray n2) :: (a1, listOf dv1.toArray n1) :: (nl, listOf nv.toArray nn) :: (L + 1 + 1 + 1 + 1, o4) :: (L + 1 + 1 + 1, o3) :: (L + 1 + 1, o2) :: (L + 1, o1) :: wt) :=
  all_cons ⟨hW, WL, gW⟩ (News.app (A := [_, _, _, _, _, _, _]) (fun p hp => N₂ p (.tail _ hp)) Nw)
 clear N₂ Nw F N hK hrows hfr
 repeat' first | (k_unfold; try dsimp only) | walk1 | (dsimp only; walk1)
 refine Hold.mk ?_
 k_dflt (refine' ListComp_two ?F ?k1 ?k2 ?k3 ?k4 ?k5 ?k6 ?k7 ?_; (case F => k_asm); (case k1 => with_unfolding_all rfl); (case k2 => decide); (case k3 => rfl); (case k4 => decide); (case k5 => rfl); (case k6 => rfl); (case k7 => decide))
 repeat' first | (k_unfold; try dsimp only) | walk1 | (dsimp only; walk1)
 rename (IsRange _ _ _ _ _ _ _ _) => hR5
 rename (Fr base _ _ _) => F₄
 rename (News base _ _ _) => N₄
 have hl1 : dv1.length = 5 := by rw [h1.length, ordS_len]
 have hat : ∀ q : Nat, q < 5 → ∃ t, dv1[q]? = some (.str ((ordS ps 0).getD q Str.empty) t) := fun q hq => by
  have e : dv1[q]? = some dv1[q] := List.getElem?_eq_getElem (by omega)
  refine hide fun Dq kq => ?_; obtain ⟨y, t, hy, ev⟩ := strs_at h1 e; refine kq ?_; clear kq Dq
  exact ⟨t, by rw [e, ev]; simp [List.getD, hy]⟩
 refine Hold.mk ?_
 refine src_range rfl F₄ N₄ hR5 (by decide) (n := 5) (by decide) (by decide) ?_
 intro h₆
 refine ⟨by decide, fun i ys nw => ∃ tail, A3 (nw = (W, listOf wl.toArray wn) :: (a2, listOf dv2.toArray n2) :: (a1, listOf dv1.toArray n1) :: (nl, listOf nv.toArray nn) :: (L + 1 + 1 + 1 + 1, o4) :: (L + 1 + 1 + 1, o3) :: (L + 1 + 1, o2) :: (L + 1, o1) :: tail) ((∀ p ∈ wt, p ∈ tail)) (RowsIn base L tail dv1 2 ys (pairsTo (ordS ps 0) i)), ⟨wt, rfl, fun _ h => h, .nil⟩, ?_, ?_⟩
 ·rintro i ys nw v I oI C oC D m₂ h tk hi ⟨tail, rfl, hwt, hrows⟩ ⟨tj, rfl⟩ hoC hm1 F₅ N₅ off ne
  clear F₄ N₄
  have hrs : Builtin.Range.small (0 + (i : Nat) + 1) 5 1 = true ∧ Builtin.Range.rangeSize (0 + (i : Nat) + 1) 5 1 = ((4 - i : Nat) : Int) := by
   exact (by decide : ∀ j, j < 5 → Builtin.Range.small (0 + (j : Nat) + 1) 5 1 = true ∧ Builtin.Range.rangeSize (0 + (j : Nat) + 1) 5 1 = ((4 - j : Nat) : Int)) i hi
  repeat' first | (k_unfold; try dsimp only) | walk1 | (dsimp only; walk1)
  rename (IsRange _ _ _ _ _ _ _ _) => hR6
  rename (Fr base _ _ _) => F₆
  rename (News base _ _ _) => N₆
  refine Hold.mk (two_range (fun q ys nw => ∃ tail, A3 (nw = (W, listOf wl.toArray wn) :: (a2, listOf dv2.toArray n2) :: (a1, listOf dv1.toArray n1) :: (nl, listOf nv.toArray nn) :: (L + 1 + 1 + 1 + 1, o4) :: (L + 1 + 1 + 1, o3) :: (L + 1 + 1, o2) :: (L + 1, o1) :: tail) ((∀ p ∈ wt, p ∈ tail)) (RowsIn base L tail dv1 2 ys (pairsTo (ordS ps 0) i ++ rowJ (ordS ps 0) i q))) rfl F₆ N₆ off hR6 hrs.1 hrs.2 (by omega) ⟨_, _, rfl⟩ ⟨tail, rfl, hwt, by simpa [rowJ] using hrows⟩ ?_ ?_)
  ·rintro q ys' nw' t2 oI2 oC' m₃ h₇ tk₇ I2 hq ⟨tail', rfl, hwt', hr'⟩ hoC' hmj hmk F₇ N₇ off₇ offI ne₇
   clear F₆ N₆
   obtain ⟨tv0, hv0⟩ := hat i (by omega)
   obtain ⟨tv1, hv1⟩ := hat (i + 1 + q) (by omega)
   have offI' := offI
   have off₇' := off₇
   simp only [LCg.Off3, LCg.Off1, and_true] at off₇ offI
   repeat' first | (k_unfold; try dsimp only) | walk1 | (dsimp only; walk1)
   refine Hold.mk (item_any (n := n1) (vs := dv1) (N₇ _ (.tail _ (.tail _ (.tail _ (.tail _ (.tail _ (.tail _ (.head _))))))) ).1 (by omega) (by rw [show ((0 : Int) + (i : Nat)).toNat = i from by omega]; exact hv0) (by omega) ?_)
   repeat' first | (k_unfold; try dsimp only) | walk1 | (dsimp only; walk1)
   refine Hold.mk (item_any (n := n1) (vs := dv1) (N₇ _ (.tail _ (.tail _ (.tail _ (.tail _ (.tail _ (.tail _ (.head _))))))) ).1 (by omega) (by rw [show ((0 : Int) + (i : Nat) + 1 + (q : Nat)).toNat = i + 1 + q from by omega]; exact hv1) (by omega) ?_)
   repeat' first | (k_unfold; try dsimp only) | walk1 | (dsimp only; walk1)
   rename (Fr base _ _ _) => F₈
   rename (News base _ _ _) => N₈
   rename_i l' h₈ l1
   refine Hold.mk ⟨_, _, (W, listOf wl.toArray wn) :: (a2, listOf dv2.toArray n2) :: (a1, listOf dv1.toArray n1) :: (nl, listOf nv.toArray nn) :: (L + 1 + 1 + 1 + 1, o4) :: (L + 1 + 1 + 1, o3) :: (L + 1 + 1, o2) :: (L + 1, o1) :: (l', listOf [Value.str ((ordS ps 0).getD i Str.empty) tv0, Value.str ((ordS ps 0).getD (i + 1 + q) Str.empty) tv1].toArray 0) :: tail', rfl, F₈, fun p hp => N₈ p ?_, ?_, ?_, (l', listOf [Value.str ((ordS ps 0).getD i Str.empty) tv0, Value.str ((ordS ps 0).getD (i + 1 + q) Str.empty) tv1].toArray 0) :: tail', rfl, fun p hp => .tail _ (hwt' p hp), ?_⟩
   ·exact mem_mv (A := [_, _, _, _, _, _, _, _, _, _, _, _]) hp
   ·exact LCg.Off3.of (all_mv (A := [_, _, _, _, _, _, _, _]) ⟨Nat.ne_of_gt l1.2.1, Nat.ne_of_gt l1.2.2.1, Nat.ne_of_gt l1.2.2.2.1⟩ off₇'.mem)
   ·exact offK_of (all_mv (A := [_, _, _, _, _, _, _, _]) (Nat.ne_of_gt l1.1) (offK_mem offI'))
   ·rw [rowJ_succ, ← List.append_assoc]
    refine (hr'.mono fun p hp => .tail _ hp).append (.cons (.inr (.head _)) (.cons _ _ (.cons _ _ .nil)) rfl (fun v hv => ?_) .nil)
    simp only [List.mem_cons, List.not_mem_nil, or_false] at hv
    rcases hv with rfl | rfl
    ·exact List.mem_of_getElem? hv0
    ·exact List.mem_of_getElem? hv1
  ·rintro ys' nw' hJq; refine hide fun Dq kq => ?_; obtain ⟨tail', rfl, hwt', hr'⟩ := hJq; refine kq ?_; clear kq Dq
   exact ⟨trivial, tail', rfl, hwt', by rw [pairsTo_succ]; exact hr'⟩
 ·rintro ys nw hJq; refine hide fun Dq kq => ?_; obtain ⟨tail, rfl, hwt, hrows⟩ := hJq; refine kq ?_; clear kq Dq
  intro D h tk F₅ N₅ oD
  clear F₄ N₄
  repeat' first | (k_unfold; try dsimp only) | walk1 | (dsimp only; walk1)
  rename (Fr base _ _ _) => F₆
  rename (News base _ _ _) => N₆
  exact hret _ _ D ys _ W wl wn tail (jmap_wp ▸ F₆) (fun p hp => N₆ p (.tail _ hp)) (Mw.mono hwt) hrows
end

end
section
theorem off_law {env : Env} {L b : Addr} (hf : env.frame = some L) (hb : b ≠ L) : Off [env] b := fun e he hq => by
 rw [List.mem_singleton.mp he, hf] at hq
 exact hb (Option.some.inj hq).symm
theorem flat_rep {α : Type} (x : α) : ∀ n, (List.replicate n [x]).flatten = List.replicate n x
 | 0 => rfl
 | n + 1 => by rw [List.replicate_succ, List.flatten_cons, flat_rep x n]; rfl
theorem rep_ints (k : Int) (t : Tok) : ∀ n, IntsAre (List.replicate n (Value.int k t)) (List.replicate n k)
 | 0 => .nil
 | n + 1 => .cons k t (rep_ints k t n)
section
local macro_rules | `(tactic| walk_at "eval ListComp") => `(tactic| (refine Hold.out ?_))
local macro_rules | `(tactic| walk_at "pyIter ref") => `(tactic| (refine Hold.out ?_))
local macro_rules | `(tactic| walk_at "compareOp NotEq ref ref") => `(tactic| (refine Hold.out ?_))
local macro_rules | `(tactic| walk_at "binaryOp Mult ref int") => `(tactic| (refine Hold.out ?_))
local macro_rules | `(tactic| walk_at "call builtin:len") => `(tactic| (refine Hold.out ?_))
local macro_rules | `(tactic| walk_at "call ref") => `(tactic| (with_reducible refine hold_call 226 ?_))
local macro_rules | `(tactic| walk_at "call ref") => `(tactic| (with_reducible refine hold_call 209 ?_))
set_option maxHeartbeats 1000000 in
theorem law_S5 {w : World} {dp un : Nat} {A₀ : Around} {base : Heap} {L fa nl O a1 a2 P W : Addr} {cd : Value} {s : Shared} {Q : Flow → Shared → Prop} {E : Value → Shared → Prop} {nv dv1 dv2 pv wl : List Value} {nn n1 n2 pn wn : Nat} {ps : List (Nat × Nat)} {tail : List (Addr × Obj)} {o1 o2 o3 o4 : Obj}
 (B : Below A₀ base [] base) (BO : BOk w base) (hd : dp + 110 < recursionLimit) (hu : un + 1100 < cLine) (hps : OkN ps) (hlen : ps.length < 9) (hnv : StrsAre nv (ps.map two))
 (F : Fr base L s.heap (jmap (some (.ref O)) (some (.ref W)) (some (.ref P)) none)) (N : News base L s.heap ((P, listOf (List.toArray pv) pn) :: (W, listOf (List.toArray wl) wn) :: (a2, listOf (List.toArray dv2) n2) :: (a1, listOf (List.toArray dv1) n1) :: (nl, listOf (List.toArray nv) nn) :: (L + 1 + 1 + 1 + 1, o4) :: (L + 1 + 1 + 1, o3) :: (L + 1 + 1, o2) :: (L + 1, o1) :: tail))
 (d2 : o2.data = .cell (some (.ref nl))) (d3 : o3.data = .cell (some (.ref a1))) (d4 : o4.data = .cell (some (.ref a2))) (h1 : StrsAre dv1 (ordS ps 0)) (h2 : StrsAre dv2 (ordS ps (-1))) (hsub : ∀ x ∈ ordS ps 0, x ∈ ordS ps (-1))
 {rows : List (List Nat)} (hrows : RowsM tail wl (rows.map fun r => r.map ltr)) (hrl : rows.length < 20) (hdue : dueS (ordS ps 0) (ordS ps (-1)) 11 = rows.map fun r => r.map ltr) (hr : ∀ r ∈ rows, r.Nodup ∧ (∀ c ∈ r, c ∈ works) ∧ throughP ps [] r = 5)
 (hret : ∀ h' tk', Fr base L h' (jmap (some (.ref O)) (some (.ref W)) (some (.ref P)) none) → News base L h' ((P, listOf (List.toArray pv) pn) :: (W, listOf (List.toArray wl) wn) :: (a2, listOf (List.toArray dv2) n2) :: (a1, listOf (List.toArray dv1) n1) :: (nl, listOf (List.toArray nv) nn) :: (L + 1 + 1 + 1 + 1, o4) :: (L + 1 + 1 + 1, o3) :: (L + 1 + 1, o2) :: (L + 1, o1) :: tail) → Q .next { s with heap := h', toks := tk' }) :
 wpAny (model Pg w) ((Ar dp un []).deeper (lawE w L fa cd)) (exec (lawS w 5) (lawE w L fa cd)) Q E s := by
 revert B BO hd hu hps hlen hnv F N d2 d3 d4 h1 h2 hsub hrows hrl hdue hr hret
 revert w dp un A₀ base L fa nl O a1 a2 P W cd s Q E nv dv1 dv2 pv wl nn n1 n2 pn wn ps tail o1 o2 o3 o4 rows
 refine @(pk34 (((((w00, δ), (δ, Ar 0 0 [])), δ), (δ, (δ, (s00, δ)))), δ) ?_)
 generalize z34 _ _ = Z; generalize Z.1.1.1.1.1 = w, Z.1.1.1.1.2 = dp, Z.1.1.1.2.1 = un, Z.1.1.1.2.2 = A₀, Z.1.1.2.1.1 = base, Z.1.1.2.1.2 = L, Z.1.1.2.2.1 = fa, Z.1.1.2.2.2 = nl, Z.1.2.1.1.1 = O, Z.1.2.1.1.2 = a1, Z.1.2.1.2.1 = a2, Z.1.2.1.2.2 = P, Z.1.2.2.1.1 = W, Z.1.2.2.1.2 = cd, Z.1.2.2.2.1 = s, Z.1.2.2.2.2.1 = Q, Z.1.2.2.2.2.2 = E, Z.2.1.1.1.1 = nv, Z.2.1.1.1.2 = dv1, Z.2.1.1.2.1 = dv2, Z.2.1.1.2.2 = pv, Z.2.1.2.1.1 = wl, Z.2.1.2.1.2 = nn, Z.2.1.2.2.1 = n1, Z.2.1.2.2.2 = n2, Z.2.2.1.1.1 = pn, Z.2.2.1.1.2 = wn, Z.2.2.1.2.1 = ps, Z.2.2.1.2.2 = tail, Z.2.2.2.1.1 = o1, Z.2.2.2.1.2 = o2, Z.2.2.2.2.1 = o3, Z.2.2.2.2.2.1 = o4, Z.2.2.2.2.2.2 = rows
 intro B BO hd hu hps hlen hnv F N d2 d3 d4 h1 h2 hsub hrows hrl hdue hr hret
 have X := BO.X
 refine hide fun Dq kq => ?_; obtain ⟨p, loose, mean, mg, mb, T⟩ := BO.T; refine kq ?_; clear kq Dq
 have hrok : ∀ r ∈ rows.map fun r => r.map ltr, ∀ x ∈ r, PyData.strOk x = true := fun r hr' x hx => by
  refine hide fun Dq kq => ?_; obtain ⟨r0, hr0, rfl⟩ := List.mem_map.mp hr'; refine kq ?_; clear kq Dq
  refine hide fun Dq kq => ?_; obtain ⟨c, hc, rfl⟩ := List.mem_map.mp hx; refine kq ?_; clear kq Dq
  exact ltr_ok ((hr r0 hr0).2.1 c hc)
 with_unfolding_all show wpAny _ ((Ar dp un []).deeper (envOfC _ (Scope.mk _ _ _ _ _) _ _ _)) (exec (Stmt.If _ _ _ _) (envOfC _ (Scope.mk _ _ _ _ _) _ _ _)) _ _ _
 repeat' first | (k_unfold; try dsimp only) | walk1 | (dsimp only; walk1)
 refine Hold.mk ?_
 k_dflt (refine' due_spec (xs := ordS ps 0) (ys := ordS ps (-1)) ?C ?hd ?hu ?hol ?hov ?hgl ?hgv ?hx5 ?hy5 ?hsub ?_; (case C => exact cx_of B F BO N no_mu); (case hd => ktr_room); (case hu => ktr_units); (case hol => exact (N _ (.tail _ (.tail _ (.tail _ (.head _))))).1); (case hov => exact h1); (case hgl => exact (N _ (.tail _ (.tail _ (.head _)))).1); (case hgv => exact h2); (case hx5 => exact ordS_len); (case hy5 => exact ordS_len); (case hsub => exact hsub))
 intro R h₂ tk₂ rl rn hK hRf hR hrows2
 have F₂ := fr_keep0 F hK
 have N₂ := news_keep0 N hK
 clear F N
 rw [hdue] at hrows2
 clear hdue
 repeat' first | (k_unfold; try dsimp only) | walk1 | (dsimp only; walk1)
 refine Hold.mk (ne_rows (PySem.IsL.isList (n := wn) (N₂ _ (.tail _ (.head _))).1) (PySem.IsL.isList (n := rn) hR) (hrows.are fun p hp => (N₂ p (.tail _ (.tail _ (.tail _ (.tail _ (.tail _ (.tail _ (.tail _ (.tail _ (.tail _ hp)))))))))).1) hrows2 hrok hrok (by ktr_units) ?_)
 rw [decide_eq_true rfl]
 repeat' first | (k_unfold; try dsimp only) | walk1 | (dsimp only; walk1)
 refine Hold.mk ?_
 k_dflt (refine' ListComp_UX ?F ?k1 ?k2 ?k3 ?k4 ?k5 ?_; (case F => k_asm); (case k1 => with_unfolding_all rfl); (case k2 => decide); (case k3 => rfl); (case k4 => decide); (case k5 => rfl))
 repeat' first | (k_unfold; try dsimp only) | walk1 | (dsimp only; walk1)
 have hwl : wl.length = rows.length := by rw [hrows.length, List.length_map]
 refine Hold.mk ?_
 refine src_list rfl F₂ N₂ (.inr ⟨_, .tail _ (.head _), rfl, _, rfl⟩) (by omega) ?_
 intro h₆
 refine rest_inv (n := wl.length) (fun i zs nw => nw = (P, listOf (List.toArray pv) pn) :: (W, listOf (List.toArray wl) wn) :: (a2, listOf (List.toArray dv2) n2) :: (a1, listOf (List.toArray dv1) n1) :: (nl, listOf (List.toArray nv) nn) :: (L + 1 + 1 + 1 + 1, o4) :: (L + 1 + 1 + 1, o3) :: (L + 1 + 1, o2) :: (L + 1, o1) :: tail ∧ IntsAre zs (List.replicate i 5)) ?_ ?_ _ 0 [] _ (Nat.zero_add _) ⟨rfl, .nil⟩
 ·rintro i zs nw v I oI C oC D m₂ h tk E' hi ⟨rfl, hzs⟩ hP hC hv F₃ N₃ off ne
  clear F₂ N₂
  refine hide fun Dq kq => ?_; obtain ⟨ra, rv, rn', r, rfl, hra, hri, hrv⟩ := hrows.at hP; refine kq ?_; clear kq Dq
  rw [List.getElem?_map] at hri
  refine hide fun Dq kq => ?_; obtain ⟨r0, hr0, rfl⟩ := Option.map_eq_some_iff.mp hri; refine kq ?_; clear kq Dq
  have hrr := hr r0 (List.mem_of_getElem? hr0)
  have hra' := N₃ (ra, listOf rv.toArray rn') (.tail _ (.tail _ (.tail _ (.tail _ (.tail _ (.tail _ (.tail _ (.tail _ (.tail _ (.tail _ (.tail _ (.tail _ hra))))))))))))
  have hnl' := N₃ (nl, listOf nv.toArray nn) (.tail _ (.tail _ (.tail _ (.tail _ (.tail _ (.tail _ (.tail _ (.head _))))))))
  repeat' first | (k_unfold; try dsimp only) | walk1 | (dsimp only; walk1)
  refine Hold.mk ?_
  k_dflt (refine' through_spec (ps := ps) (order := r0) ?C ?hd ?hu ?hnl ?hnv ?hps ?hlen ?hol ?hov ?hon ?how ?fol ?fnl ?_; (case C => exact cx_of B F₃ BO N₃ no_mu); (case hd => ktr_room); (case hu => ktr_units); (case hnl => exact hnl'.1); (case hnv => exact hnv); (case hps => exact hps); (case hlen => omega); (case hol => exact hra'.1); (case hov => exact hrv); (case hon => exact hrr.1); (case how => exact hrr.2.1); (case fol => exact off_law rfl hra'.2.1); (case fnl => exact off_law rfl hnl'.2.1))
  intro t' h₄ tk₄ hK₄
  obtain ⟨F₄, N₄⟩ := keepW_law F₃ N₃ rfl hK₄
  refine ⟨_, _, _, rfl, F₄, N₄, off, .inr ⟨_, .tail _ (.head _), rfl, _, rfl⟩, rfl, ?_⟩
  rw [hrr.2.2, List.replicate_succ']
  exact hzs.append (.cons _ _ .nil)
 ·rintro zs nw ⟨rfl, hzs⟩
  intro D h tk F₃ N₃ oD
  clear F₂ N₂
  repeat' first | (k_unfold; try dsimp only) | walk1 | (dsimp only; walk1)
  rename (Fr base _ _ _) => F₄
  rename (News base _ _ _) => N₄
  rename_i l' h₄ l1
  refine Hold.mk (len_cat (vs := wl) (n := wn) N₄ (.tail _ (.tail _ (.tail _ (.head _)))) (by omega) ?_)
  repeat' first | (k_unfold; try dsimp only) | walk1 | (dsimp only; walk1)
  refine Hold.mk ?_
  k_dflt (refine' mul_list_carried (items := [Value.int 5 tk].toArray) (k := 0) (ds := [.int 5]) ?Fm ?N ?hl ?hne ?hc ?hlo ?hhi ?hsz ?_; (case Fm => exact F₄); (case N => exact N₄); (case hl => exact (N₄ _ (.head _)).1); (case hne => exact rfl); (case hc => exact .cons (.int 5 _) .nil); (case hlo => omega); (case hhi => omega); (case hsz => (simp; omega)))
  intro h₅ F₅ N₅ _ hl5 _
  rw [show ((wl.length : Nat) : Int).toNat = wl.length from by omega, show [Value.int 5 tk].toArray.toList = [Value.int 5 tk] from rfl, flat_rep] at hl5
  clear F₄ N₄
  repeat' first | (k_unfold; try dsimp only) | walk1 | (dsimp only; walk1)
  refine Hold.mk (ke_ne_ints (PySem.IsL.isList (n := zs.length) (N₅ _ (.tail _ (.head _))).1) hl5 hzs (rep_ints 5 tk _) (by ktr_units) ?_)
  rw [decide_eq_true rfl]
  repeat' first | (k_unfold; try dsimp only) | walk1 | (dsimp only; walk1)
  exact hret h₅ _ F₅ (fun p hp => N₅ p (.tail _ (.tail _ hp)))
end

end
section
theorem RowsIn.at {g : Heap} {ol : Addr} {tail : List (Addr × Obj)} {ov : List Value} {m : Nat} {vs : List Value} {rows : List (List Str)} (x : RowsIn g ol tail ov m vs rows) : ∀ {i : Nat} {v : Value}, vs[i]? = some v →
  E4 fun a rv n r => A6 (v = .ref a) (((a = ol ∧ g.get? a = some (listOf rv.toArray n)) ∨ (a, listOf rv.toArray n) ∈ tail)) (rows[i]? = some r) (StrsAre rv r) (r.length = m) ((∀ v ∈ rv, v ∈ ov)) := by
 induction x with
 | nil => intro i v e; simp at e
 | @cons a rv n r vs rows ho hr hl hv t ih =>
  intro i v e
  cases i with
  | zero => simp at e; exact ⟨a, rv, n, r, e.symm, ho, by simp, hr, hl, hv⟩
  | succ i => simp at e; obtain ⟨a', rv', n', r', q1, q2, q3, q4, q5, q6⟩ := ih e; exact ⟨a', rv', n', r', q1, q2, by simpa using q3, q4, q5, q6⟩
theorem strs_two {rv : List Value} {r : List Str} (h : StrsAre rv r) (h2 : r.length = 2) : E4 fun x y t u => rv = [.str x t, .str y u] ∧ r = [x, y] := by
 cases h with
 | nil => cases h2
 | cons x t h =>
  cases h with
  | nil => cases h2
  | cons y u h =>
   cases h with
   | nil => exact ⟨x, y, t, u, rfl, rfl⟩
   | cons => simp at h2
theorem strs_mem {vs : List Value} {xs : List Str} (h : StrsAre vs xs) {x : Str} {t : Tok} (hm : Value.str x t ∈ vs) : x ∈ xs := by
 refine hide fun Dq kq => ?_; obtain ⟨j, hj, e⟩ := List.getElem_of_mem hm; refine kq ?_; clear kq Dq
 refine hide fun Dq kq => ?_; obtain ⟨y, u, hy, ev⟩ := strs_at h (i := j) (v := .str x t) (by rw [List.getElem?_eq_getElem hj, e]); refine kq ?_; clear kq Dq
 have : x = y := by cases ev; rfl
 rw [this]; exact List.mem_of_getElem? hy
def pairCmp (ys r : List Str) : Int := cmpP ((ys.idxOf (r.getD 0 Str.empty) : Nat) : Int) ((ys.idxOf (r.getD 1 Str.empty) : Nat) : Int)
def TkI (lo hi : Nat) (v : Value) : Prop := ∀ x t, v = .int x t → lo ≤ t ∧ t < hi
theorem TkI.le {lo hi hi' : Nat} {v : Value} (h : TkI lo hi v) (k : hi ≤ hi') : TkI lo hi' v := fun x t e => ⟨(h x t e).1, Nat.lt_of_lt_of_le (h x t e).2 k⟩
theorem jmap_told {v : Value} {o wy p t : Option Value} : (fun z => if z = Str.ofString "told" then some v else jmap o wy p t z) = jmap o wy p (some v) := by
 funext y
 by_cases h : y = Str.ofString "told"
 ·subst h; rfl
 ·simp only [jmap, if_neg h]
section
local macro_rules | `(tactic| walk_at "exec Assign cons ListComp") => `(tactic| (refine Hold.out ?_))
local macro_rules | `(tactic| walk_at "call ref") => `(tactic| (with_reducible refine hold_call 42 ?_))
local macro_rules | `(tactic| walk_at "call ref") => `(tactic| (with_reducible refine hold_call 183 ?_))
theorem law_S6 {w : World} {dp un : Nat} {A₀ : Around} {base : Heap} {L fa nl O a1 a2 P W : Addr} {cd : Value} {s : Shared} {Q : Flow → Shared → Prop} {E : Value → Shared → Prop} {nv dv1 dv2 pv wl : List Value} {nn n1 n2 pn wn : Nat} {xs ys : List Str} {tail : List (Addr × Obj)} {o1 o2 o3 o4 : Obj}
 (B : Below A₀ base [] base) (BO : BOk w base) (hd : dp + 110 < recursionLimit) (hu : un + 1100 < cLine)
 (F : Fr base L s.heap (jmap (some (.ref O)) (some (.ref W)) (some (.ref P)) none)) (N : News base L s.heap ((P, listOf (List.toArray pv) pn) :: (W, listOf (List.toArray wl) wn) :: (a2, listOf (List.toArray dv2) n2) :: (a1, listOf (List.toArray dv1) n1) :: (nl, listOf (List.toArray nv) nn) :: (L + 1 + 1 + 1 + 1, o4) :: (L + 1 + 1 + 1, o3) :: (L + 1 + 1, o2) :: (L + 1, o1) :: tail))
 (d4 : o4.data = .cell (some (.ref a2))) (h1 : StrsAre dv1 xs) (h2 : StrsAre dv2 ys) (hsub : ∀ x ∈ xs, x ∈ ys) (htk : ∀ x t, .str x t ∈ dv1 → t ≠ 0 ∧ ∀ v ∈ dv2, Apt x t v) (hpv : RowsIn base L tail dv1 2 pv (pairsTo xs 5)) (htoks : 1 ≤ s.toks)
 (hret : ∀ h' tk' Tl tv tn, Fr base L h' (jmap (some (.ref O)) (some (.ref W)) (some (.ref P)) (some (.ref Tl))) → News base L h' ((Tl, listOf (List.toArray tv) tn) :: (P, listOf (List.toArray pv) pn) :: (W, listOf (List.toArray wl) wn) :: (a2, listOf (List.toArray dv2) n2) :: (a1, listOf (List.toArray dv1) n1) :: (nl, listOf (List.toArray nv) nn) :: (L + 1 + 1 + 1 + 1, o4) :: (L + 1 + 1 + 1, o3) :: (L + 1 + 1, o2) :: (L + 1, o1) :: tail) →
  IntsAre tv ((pairsTo xs 5).map (pairCmp ys)) → (∀ v ∈ tv, TkI 1 tk' v) → Q .next { s with heap := h', toks := tk' }) :
 wpAny (model Pg w) ((Ar dp un []).deeper (lawE w L fa cd)) (exec (lawS w 6) (lawE w L fa cd)) Q E s := by
 revert w dp un A₀ base L fa nl O a1 a2 P W cd s Q E nv dv1 dv2 pv wl nn n1 n2 pn wn xs ys tail o1 o2 o3 o4
 refine @(pk34 (((((w00, δ), (δ, Ar 0 0 [])), δ), (δ, (δ, (s00, δ)))), δ) ?_)
 generalize z34 _ _ = Z; generalize Z.1.1.1.1.1 = w, Z.1.1.1.1.2 = dp, Z.1.1.1.2.1 = un, Z.1.1.1.2.2 = A₀, Z.1.1.2.1.1 = base, Z.1.1.2.1.2 = L, Z.1.1.2.2.1 = fa, Z.1.1.2.2.2 = nl, Z.1.2.1.1.1 = O, Z.1.2.1.1.2 = a1, Z.1.2.1.2.1 = a2, Z.1.2.1.2.2 = P, Z.1.2.2.1.1 = W, Z.1.2.2.1.2 = cd, Z.1.2.2.2.1 = s, Z.1.2.2.2.2.1 = Q, Z.1.2.2.2.2.2 = E, Z.2.1.1.1.1 = nv, Z.2.1.1.1.2 = dv1, Z.2.1.1.2.1 = dv2, Z.2.1.1.2.2 = pv, Z.2.1.2.1.1 = wl, Z.2.1.2.1.2 = nn, Z.2.1.2.2.1 = n1, Z.2.1.2.2.2 = n2, Z.2.2.1.1.1 = pn, Z.2.2.1.1.2 = wn, Z.2.2.1.2.1 = xs, Z.2.2.1.2.2 = ys, Z.2.2.2.1.1 = tail, Z.2.2.2.1.2 = o1, Z.2.2.2.2.1 = o2, Z.2.2.2.2.2.1 = o3, Z.2.2.2.2.2.2 = o4
 intro B BO hd hu F N d4 h1 h2 hsub htk hpv htoks hret
 have X := BO.X
 refine hide fun Dq kq => ?_; obtain ⟨p, loose, mean, mg, mb, T⟩ := BO.T; refine kq ?_; clear kq Dq
 have hlen : pv.length = (pairsTo xs 5).length := hpv.length
 have h10 : (pairsTo xs 5).length = 10 := rfl
 with_unfolding_all show wpAny _ ((Ar dp un []).deeper (envOfC _ (Scope.mk _ _ _ _ _) _ _ _)) (exec (Stmt.Assign _ _ _) (envOfC _ (Scope.mk _ _ _ _ _) _ _ _)) _ _ _
 repeat' first | (k_unfold; try dsimp only) | walk1 | (dsimp only; walk1)
 refine Hold.mk ?_
 k_dflt (refine' Assign_PJ ?F ?k0 ?k1 ?k2 ?k3 ?k4 ?k5 ?k6 ?ka ?kb ?k7 ?k8 ?_; (case F => k_asm); (case k0 => rfl); (case k1 => with_unfolding_all rfl); (case k2 => with_unfolding_all rfl); (case k3 => decide); (case k4 => rfl); (case k5 => decide); (case k6 => rfl); (case ka => rfl); (case kb => decide); (case k7 => rfl); (case k8 => rfl))
 repeat' first | (k_unfold; try dsimp only) | walk1 | (dsimp only; walk1)
 generalize pairsTo xs 5 = pr at *
 have hmx : ∀ x t, Value.str x t ∈ dv1 → x ∈ xs := fun x t hm => strs_mem h1 hm
 refine ⟨P, pv, _, rfl, rfl, F, N, .inr ⟨_, .head _, rfl, _, rfl⟩, by omega, fun i zs nw tk => 1 ≤ tk ∧ nw = (P, listOf (List.toArray pv) pn) :: (W, listOf (List.toArray wl) wn) :: (a2, listOf (List.toArray dv2) n2) :: (a1, listOf (List.toArray dv1) n1) :: (nl, listOf (List.toArray nv) nn) :: (L + 1 + 1 + 1 + 1, o4) :: (L + 1 + 1 + 1, o3) :: (L + 1 + 1, o2) :: (L + 1, o1) :: tail ∧ IntsAre zs ((pr.take i).map (pairCmp ys)) ∧ ∀ v ∈ zs, TkI 1 tk v, ?_, ⟨htoks, rfl, .nil, fun _ h => nomatch h⟩, ?_, ?_⟩
 ·rintro i zs nw tk tk' hle hJq; refine hide fun Dq kq => ?_; obtain ⟨q1, q2, q3, q4⟩ := hJq; refine kq ?_; clear kq Dq
  exact ⟨Nat.le_trans q1 hle, q2, q3, fun v hv => (q4 v hv).le hle⟩
 ·rintro i zs nw v hi ⟨_, _, rfl, _⟩ hP
  refine hide fun Dq kq => ?_; obtain ⟨t, rv, nt, r, rfl, ho, hri, hrv, hr2, hrs⟩ := hpv.at hP; refine kq ?_; clear kq Dq
  have hot : (t, listOf rv.toArray nt) ∈ tail := ho.resolve_left fun e => absurd (Heap.lt_size e.2) (by rw [e.1]; exact Nat.not_lt.mpr F.above)
  refine hide fun Dq kq => ?_; obtain ⟨x, y, tx, ty, rfl, rfl⟩ := strs_two hrv hr2; refine kq ?_; clear kq Dq
  refine ⟨t, _, _, nt, rfl, .tail _ (.tail _ (.tail _ (.tail _ (.tail _ (.tail _ (.tail _ (.tail _ (.tail _ hot)))))))), ?_⟩
  rintro I oI C oC D m₂ h tk E' ⟨htk1, _, hzs, hzt⟩ hoC hm1 hm2 F₃ N₃ off ne
  clear F N
  have hx1 := hrs _ (.head _)
  have hy1 := hrs _ (.tail _ (.head _))
  have hxk := htk _ _ hx1
  have hyk := htk _ _ hy1
  have hxy := hsub _ (hmx _ _ hx1)
  have hyy := hsub _ (hmx _ _ hy1)
  repeat' first | (k_unfold; try dsimp only) | walk1 | (dsimp only; walk1)
  refine Hold.mk (wpAny_tk tk (by dsimp only; omega) ?_)
  k_dflt (refine' indexOf_spec (vs := dv2) (xs := ys) ?C ?hd ?hu ?hl ?hx ?hy ?hty ?hts ?_; (case C => exact cx_of B F₃ BO N₃ no_mu); (case hd => ktr_room); (case hu => ktr_units); (case hl => exact PySem.IsL.isList (n := n2) (N₃ (a2, listOf dv2.toArray n2) (.tail _ (.tail _ (.tail _ (.tail _ (.tail _ (.head _))))))).1); (case hx => exact h2); (case hy => exact hxy); (case hty => exact hxk.1); (case hts => exact hxk.2))
  intro ta h₄ tk₄ hK₄ hle₄
  have hle₄ : tk ≤ tk₄ := hle₄
  have F₄ := fr_keep0 F₃ hK₄
  have N₄ := news_keep0 N₃ hK₄
  clear F₃ N₃ hK₄
  repeat' first | (k_unfold; try dsimp only) | walk1 | (dsimp only; walk1)
  refine Hold.mk (wpAny_tk tk (by dsimp only; omega) ?_)
  k_dflt (refine' indexOf_spec (vs := dv2) (xs := ys) ?C ?hd ?hu ?hl ?hx ?hy ?hty ?hts ?_; (case C => exact cx_of B F₄ BO N₄ no_mu); (case hd => ktr_room); (case hu => ktr_units); (case hl => exact PySem.IsL.isList (n := n2) (N₄ (a2, listOf dv2.toArray n2) (.tail _ (.tail _ (.tail _ (.tail _ (.tail _ (.head _))))))).1); (case hx => exact h2); (case hy => exact hyy); (case hty => exact hyk.1); (case hts => exact hyk.2))
  intro tb h₅ tk₅ hK₅ hle₅
  have hle₅ : tk ≤ tk₅ := hle₅
  have F₅ := fr_keep0 F₄ hK₅
  have N₅ := news_keep0 N₄ hK₅
  clear F₄ N₄ hK₅
  repeat' first | (k_unfold; try dsimp only) | walk1 | (dsimp only; walk1)
  refine Hold.mk ?_
  k_dflt (refine' cmp_spec ?C ?hd ?hu ?_; (case C => exact cx_of B F₅ BO N₅ no_mu); (case hd => ktr_room); (case hu => ktr_units))
  intro tc h₆ tk₆ hK₆ hlo hhi
  have hlo : tk₅ ≤ tc := hlo
  have h7 : tk₅ < tk₆ := Nat.lt_of_le_of_lt hlo hhi
  have F₆ := fr_keep0 F₅ hK₆
  have N₆ := news_keep0 N₅ hK₆
  refine Hold.mk ⟨_, _, _, rfl, F₆, N₆, off, .inr ⟨_, .head _, rfl, _, rfl⟩, by omega, rfl, ?_, ?_⟩
  ·rw [List.take_add_one, hri, List.map_append]
   exact hzs.append (.cons _ _ .nil)
  ·intro v hv
   rcases List.mem_append.mp hv with hv | hv
   ·exact (hzt v hv).le (by omega)
   ·rw [List.mem_singleton.mp hv]
    intro x' t' e
    cases e
    exact ⟨Nat.le_trans (Nat.le_trans htk1 hle₅) hlo, hhi⟩
 ·rintro zs nw tk ⟨_, rfl, hzs, hzt⟩ D h F₃ N₃ oD
  rw [hlen, List.take_length] at hzs
  exact hret _ _ D zs _ (jmap_told ▸ F₃) N₃ hzs hzt
end

end
section
def pairIn (ys r : List Str) : Int := if (ys.take (ys.idxOf (r.getD 0 Str.empty))).contains (r.getD 1 Str.empty) then 1 else -1
section
local macro_rules | `(tactic| walk_at "eval ListComp") => `(tactic| (refine Hold.out ?_))
local macro_rules | `(tactic| walk_at "compareOp NotEq int int") => `(tactic| (refine Hold.out ?_))
local macro_rules | `(tactic| walk_at "compareOp NotEq ref ref") => `(tactic| (refine Hold.out ?_))
local macro_rules | `(tactic| walk_at "compareOp In str ref") => `(tactic| (refine Hold.out ?_))
local macro_rules | `(tactic| walk_at "call builtin:len") => `(tactic| (refine Hold.out ?_))
local macro_rules | `(tactic| walk_at "getMethod ref") => `(tactic| ((with_reducible show wpAny _ _ (getMethod (Value.ref _) (Str.ofString "index") _) _ _ _); refine Hold.out ?_))
local macro_rules | `(tactic| walk_at "call builtin:list.index") => `(tactic| (refine Hold.out ?_))
local macro_rules | `(tactic| walk_at "subscriptTail Name Slice ref ref") => `(tactic| (refine Hold.out ?_))
local macro_rules | `(tactic| walk_at "call ref") => `(tactic| (with_reducible refine hold_call 28 ?_))
theorem law_S7 {w : World} {dp un : Nat} {A₀ : Around} {base : Heap} {L fa nl O a1 a2 P W Tl : Addr} {cd : Value} {s : Shared} {Q : Flow → Shared → Prop} {E : Value → Shared → Prop} {nv dv1 dv2 pv wl tv : List Value} {nn n1 n2 pn wn tn : Nat} {xs ys : List Str} {pr : List (List Str)} {cs : List Int} {tail : List (Addr × Obj)} {o1 o2 o3 o4 : Obj}
 (B : Below A₀ base [] base) (BO : BOk w base) (hd : dp + 110 < recursionLimit) (hu : un + 1100 < cLine)
 (F : Fr base L s.heap (jmap (some (.ref O)) (some (.ref W)) (some (.ref P)) (some (.ref Tl)))) (N : News base L s.heap ((Tl, listOf (List.toArray tv) tn) :: (P, listOf (List.toArray pv) pn) :: (W, listOf (List.toArray wl) wn) :: (a2, listOf (List.toArray dv2) n2) :: (a1, listOf (List.toArray dv1) n1) :: (nl, listOf (List.toArray nv) nn) :: (L + 1 + 1 + 1 + 1, o4) :: (L + 1 + 1 + 1, o3) :: (L + 1 + 1, o2) :: (L + 1, o1) :: tail))
 (d4 : o4.data = .cell (some (.ref a2))) (h1 : StrsAre dv1 xs) (h2 : StrsAre dv2 ys) (hy5 : ys.length = 5) (hsub : ∀ x ∈ xs, x ∈ ys) (hpv : RowsIn base L tail dv1 2 pv pr) (hp10 : pr.length < 100) (hw20 : wl.length < 100)
 (htv : IntsAre tv cs) (htt : ∀ v ∈ tv, TkI 1 s.toks v) (hcount : ((cs.count 1 : Nat) : Int) = (wl.length : Int) - 1) (hcs : cs = pr.map (pairIn ys)) (htoks : 1 ≤ s.toks)
 (hret : ∀ h' tk', Fr base L h' (jmap (some (.ref O)) (some (.ref W)) (some (.ref P)) (some (.ref Tl))) → News base L h' ((Tl, listOf (List.toArray tv) tn) :: (P, listOf (List.toArray pv) pn) :: (W, listOf (List.toArray wl) wn) :: (a2, listOf (List.toArray dv2) n2) :: (a1, listOf (List.toArray dv1) n1) :: (nl, listOf (List.toArray nv) nn) :: (L + 1 + 1 + 1 + 1, o4) :: (L + 1 + 1 + 1, o3) :: (L + 1 + 1, o2) :: (L + 1, o1) :: tail) → Q .next { s with heap := h', toks := tk' }) :
 wpAny (model Pg w) ((Ar dp un []).deeper (lawE w L fa cd)) (exec (lawS w 7) (lawE w L fa cd)) Q E s := by
 revert w dp un A₀ base L fa nl O a1 a2 P W Tl cd s Q E nv dv1 dv2 pv wl tv nn n1 n2 pn wn tn xs ys pr cs tail o1 o2 o3 o4
 refine @(pk39 (((((w00, δ), (δ, Ar 0 0 [])), δ), (δ, ((δ, s00), δ))), δ) ?_)
 generalize z39 _ _ = Z; generalize Z.1.1.1.1.1 = w, Z.1.1.1.1.2 = dp, Z.1.1.1.2.1 = un, Z.1.1.1.2.2 = A₀, Z.1.1.2.1.1 = base, Z.1.1.2.1.2 = L, Z.1.1.2.2.1 = fa, Z.1.1.2.2.2.1 = nl, Z.1.1.2.2.2.2 = O, Z.1.2.1.1.1 = a1, Z.1.2.1.1.2 = a2, Z.1.2.1.2.1 = P, Z.1.2.1.2.2.1 = W, Z.1.2.1.2.2.2 = Tl, Z.1.2.2.1.1 = cd, Z.1.2.2.1.2 = s, Z.1.2.2.2.1 = Q, Z.1.2.2.2.2.1 = E, Z.1.2.2.2.2.2 = nv, Z.2.1.1.1.1 = dv1, Z.2.1.1.1.2 = dv2, Z.2.1.1.2.1 = pv, Z.2.1.1.2.2.1 = wl, Z.2.1.1.2.2.2 = tv, Z.2.1.2.1.1 = nn, Z.2.1.2.1.2 = n1, Z.2.1.2.2.1 = n2, Z.2.1.2.2.2.1 = pn, Z.2.1.2.2.2.2 = wn, Z.2.2.1.1.1 = tn, Z.2.2.1.1.2 = xs, Z.2.2.1.2.1 = ys, Z.2.2.1.2.2.1 = pr, Z.2.2.1.2.2.2 = cs, Z.2.2.2.1.1 = tail, Z.2.2.2.1.2 = o1, Z.2.2.2.2.1 = o2, Z.2.2.2.2.2.1 = o3, Z.2.2.2.2.2.2 = o4
 intro B BO hd hu F N d4 h1 h2 hy5 hsub hpv hp10 hw20 htv htt hcount hcs htoks hret
 have X := BO.X
 refine hide fun Dq kq => ?_; obtain ⟨p, loose, mean, mg, mb, T⟩ := BO.T; refine kq ?_; clear kq Dq
 have hlen : pv.length = pr.length := hpv.length
 with_unfolding_all show wpAny _ ((Ar dp un []).deeper (envOfC _ (Scope.mk _ _ _ _ _) _ _ _)) (exec (Stmt.If _ _ _ _) (envOfC _ (Scope.mk _ _ _ _ _) _ _ _)) _ _ _
 repeat' first | (k_unfold; try dsimp only) | walk1 | (dsimp only; walk1)
 refine Hold.mk ?_
 k_dflt (refine' countOf_spec (vs := tv) (xs := cs) ?C ?hd ?hu ?hl ?hx ?hty ?hts ?_; (case C => exact cx_of B F BO N no_mu); (case hd => ktr_room); (case hu => ktr_units); (case hl => exact PySem.IsL.isList (n := tn) (N _ (.head _)).1); (case hx => exact htv); (case hty => (intro e; have e : s.toks = 0 := e; omega)); (case hts => (intro v hv x t e; exact ⟨fun z => absurd (htt v hv x t e).1 (by rw [z]; exact Nat.not_succ_le_zero _), fun z => absurd (htt v hv x t e).2 (by rw [z]; exact Nat.lt_irrefl _)⟩)))
 intro tc h₂ tk₂ hK
 have F₂ := fr_keep0 F hK
 have N₂ := news_keep0 N hK
 clear F N
 repeat' first | (k_unfold; try dsimp only) | walk1 | (dsimp only; walk1)
 refine Hold.mk (len_cat (vs := wl) (n := wn) N₂ (.tail _ (.tail _ (.head _))) (by omega) ?_)
 repeat' first | (k_unfold; try dsimp only) | walk1 | (dsimp only; walk1)
 refine Hold.mk (ne_int ?_)
 rw [show (((cs.count 1 : Nat) : Int) != ((wl.length : Nat) : Int) - 1) = false from by rw [hcount]; simp]
 clear hcount htt
 repeat' first | (k_unfold; try dsimp only) | walk1 | (dsimp only; walk1)
 refine Hold.mk ?_
 k_dflt (refine' ListComp_PJ ?F ?k2 ?k3 ?k4 ?k5 ?k6 ?ka ?kb ?_; (case F => k_asm); (case k2 => with_unfolding_all rfl); (case k3 => decide); (case k4 => rfl); (case k5 => decide); (case k6 => rfl); (case ka => rfl); (case kb => decide))
 repeat' first | (k_unfold; try dsimp only) | walk1 | (dsimp only; walk1)
 refine ⟨P, pv, _, rfl, rfl, F₂, N₂, .inr ⟨_, .tail _ (.head _), rfl, _, rfl⟩, by omega, fun i zs nw tk => nw = (Tl, listOf (List.toArray tv) tn) :: (P, listOf (List.toArray pv) pn) :: (W, listOf (List.toArray wl) wn) :: (a2, listOf (List.toArray dv2) n2) :: (a1, listOf (List.toArray dv1) n1) :: (nl, listOf (List.toArray nv) nn) :: (L + 1 + 1 + 1 + 1, o4) :: (L + 1 + 1 + 1, o3) :: (L + 1 + 1, o2) :: (L + 1, o1) :: tail ∧ IntsAre zs ((pr.take i).map (pairIn ys)), ?_, ⟨rfl, .nil⟩, ?_, ?_⟩
 ·rintro i zs nw tk tk' hle q
  exact q
 ·rintro i zs nw v hi ⟨_, rfl, _⟩ hP
  refine hide fun Dq kq => ?_; obtain ⟨t, rv, nt, r, rfl, ho, hri, hrv, hr2, hrs⟩ := hpv.at hP; refine kq ?_; clear kq Dq
  have hot : (t, listOf rv.toArray nt) ∈ tail := ho.resolve_left fun e => absurd (Heap.lt_size e.2) (by rw [e.1]; exact Nat.not_lt.mpr F₂.above)
  refine hide fun Dq kq => ?_; obtain ⟨x, y, tx, ty, rfl, rfl⟩ := strs_two hrv hr2; refine kq ?_; clear kq Dq
  refine ⟨t, _, _, nt, rfl, .tail _ (.tail _ (.tail _ (.tail _ (.tail _ (.tail _ (.tail _ (.tail _ (.tail _ (.tail _ hot))))))))), ?_⟩
  rintro I oI C oC D m₂ h tk E' ⟨_, hzs⟩ hoC hm1 hm2 F₃ N₃ off ne
  clear F₂ N₂
  have hxy := hsub _ (strs_mem h1 (hrs _ (.head _)))
  have hyy := hsub _ (strs_mem h1 (hrs _ (.tail _ (.head _))))
  have h2l : (a2, listOf dv2.toArray n2) ∈ (I, oI) :: (C, oC) :: (D, LCg.lst zs) :: (Tl, listOf (List.toArray tv) tn) :: (P, listOf (List.toArray pv) pn) :: (W, listOf (List.toArray wl) wn) :: (a2, listOf (List.toArray dv2) n2) :: (a1, listOf (List.toArray dv1) n1) :: (nl, listOf (List.toArray nv) nn) :: (L + 1 + 1 + 1 + 1, o4) :: (L + 1 + 1 + 1, o3) :: (L + 1 + 1, o2) :: (L + 1, o1) :: tail := .tail _ (.tail _ (.tail _ (.tail _ (.tail _ (.tail _ (.head _))))))
  have hix : ys.idxOf x ≤ dv2.length := by rw [h2.length]; exact List.idxOf_le_length
  have hd5 : dv2.length = 5 := by rw [h2.length, hy5]
  have off' := off
  repeat' first | (k_unfold; try dsimp only) | walk1 | (dsimp only; walk1)
  refine Hold.mk (index_method (N₃ _ h2l).1 ?_)
  repeat' first | (k_unfold; try dsimp only) | walk1 | (dsimp only; walk1)
  refine Hold.mk (index_strs (PySem.IsL.isList (n := n2) (N₃ _ h2l).1) h2 hxy (by omega) ?_)
  repeat' first | (k_unfold; try dsimp only) | walk1 | (dsimp only; walk1)
  refine Hold.mk ?_
  k_dflt (refine' slice_upto (vs := dv2) (k := ys.idxOf x) ?F ?N ?hl ?hw ?hz ?_; (case F => exact F₃); (case N => exact N₃); (case hl => exact PySem.IsL.isList (n := n2) (N₃ _ h2l).1); (case hw => exact hix); (case hz => omega))
  intro D₈ h₈ F₈ N₈ l8
  clear F₃ N₃
  repeat' first | (k_unfold; try dsimp only) | walk1 | (dsimp only; walk1)
  refine Hold.mk (in_list_strs (PySem.IsL.isList (n := 0) (N₈ _ (.head _)).1) (h2.take' _) ?_)
  rw [List.any_beq']
  have N₉ : News base L h₈ _ := fun p hp => N₈ p (.tail _ hp)
  have hin : pairIn ys [x, y] = if (ys.take (ys.idxOf x)).contains y = true then 1 else -1 := rfl
  repeat' first | (k_unfold; try dsimp only) | walk1 | (dsimp only; walk1)
  ·rename (List.contains _ _ = true) => hc
   refine Hold.mk ⟨_, _, _, rfl, F₈, N₉, off', .inr ⟨_, .tail _ (.head _), rfl, _, rfl⟩, rfl, ?_⟩
   rw [List.take_add_one, hri, List.map_append]
   refine hzs.append ?_
   show IntsAre _ [pairIn ys [x, y]]
   rw [hin, if_pos hc]; exact .cons _ _ .nil
  ·rename (List.contains _ _ = false) => hc
   refine Hold.mk ⟨_, _, _, rfl, F₈, N₉, off', .inr ⟨_, .tail _ (.head _), rfl, _, rfl⟩, rfl, ?_⟩
   rw [List.take_add_one, hri, List.map_append]
   refine hzs.append ?_
   show IntsAre _ [pairIn ys [x, y]]
   rw [hin, if_neg (by rw [hc]; decide)]; exact .cons _ _ .nil
 ·rintro zs nw tk ⟨rfl, hzs⟩ D h F₃ N₃ oD
  rw [hlen, List.take_length] at hzs
  clear F₂ N₂
  repeat' first | (k_unfold; try dsimp only) | walk1 | (dsimp only; walk1)
  refine Hold.mk (ke_ne_ints (PySem.IsL.isList (n := tn) (N₃ _ (.tail _ (.head _))).1) (PySem.IsL.isList (n := zs.length) (N₃ _ (.head _)).1) htv hzs (by ktr_units) ?_)
  rw [decide_eq_true hcs]
  clear hcs
  repeat' first | (k_unfold; try dsimp only) | walk1 | (dsimp only; walk1)
  exact hret _ _ F₃ (fun p hp => N₃ p (.tail _ hp))
end

end
section
local macro_rules | `(tactic| walk_at "zz") => `(tactic| skip)
def changedN (l : List Nat) (q : Nat) : List Nat := (l.set q (l.getD (q + 1) 0)).set (q + 1) (l.getD q 0)
theorem getD_ltr {l : List Nat} {q : Nat} (hq : q < l.length) : (l.map ltr).getD q Str.empty = ltr (l.getD q 0) := by
 simp [List.getD, List.getElem?_map, List.getElem?_eq_getElem hq]
theorem swap_ltr {l : List Nat} {q : Nat} (hq : q + 1 < l.length) : swapAt (l.map ltr) q = (changedN l q).map ltr := by
 rw [swapAt, changedN, getD_ltr hq, getD_ltr (by omega), List.map_set, List.map_set]
theorem two_in (ps : List (Nat × Nat)) (a b : Nat) : ((ps.map two).any fun x => x == ltr a ++ ltr b) = decide ((a, b) ∈ ps) := by
 rw [List.any_beq', List.contains_eq_mem]
 refine decide_eq_decide.mpr ⟨fun h => ?_, fun h => List.mem_map.mpr ⟨_, h, rfl⟩⟩
 refine hide fun Dq kq => ?_; obtain ⟨p, hp, e⟩ := List.mem_map.mp h; refine kq ?_; clear kq Dq
 have e : (two p).cps.toList = [a, b] := by rw [e]; rfl
 have : p = (a, b) := by
  obtain ⟨x, y⟩ := p
  simp at e
  rw [e.1, e.2]
 rw [← this]; exact hp
section
local macro_rules | `(tactic| walk_at "eval ListComp") => `(tactic| (refine Hold.out ?_))
local macro_rules | `(tactic| walk_at "pyIter ref") => `(tactic| (refine Hold.out ?_))
local macro_rules | `(tactic| walk_at "compareOp NotEq ref ref") => `(tactic| (refine Hold.out ?_))
local macro_rules | `(tactic| walk_at "compareOp In str ref") => `(tactic| (refine Hold.out ?_))
local macro_rules | `(tactic| walk_at "binaryOp Add str str") => `(tactic| (refine Hold.out ?_))
local macro_rules | `(tactic| walk_at "subscriptTail Name Name ref int") => `(tactic| (refine Hold.out ?_))
local macro_rules | `(tactic| walk_at "subscriptTail Name BinOp ref int") => `(tactic| (refine Hold.out ?_))
local macro_rules | `(tactic| walk_at "call ref") => `(tactic| (with_reducible refine hold_call 216 ?_))
local macro_rules | `(tactic| walk_at "call ref") => `(tactic| (with_reducible refine hold_call 209 ?_))
theorem law_S8 {w : World} {dp un : Nat} {A₀ : Around} {base : Heap} {L fa nl O a1 a2 P W Tl : Addr} {cd : Value} {s : Shared} {Q : Flow → Shared → Prop} {E : Value → Shared → Prop} {nv dv1 dv2 : List Value} {nn n1 n2 : Nat} {ps : List (Nat × Nat)} {ord : List Nat} {o1 o2 o3 o4 : Obj}
 (B : Below A₀ base [] base) (BO : BOk w base) (hd : dp + 110 < recursionLimit) (hu : un + 1100 < cLine) (hps : OkN ps) (hlen : ps.length < 9) (hnv : StrsAre nv (ps.map two))
 (F : Fr base L s.heap (jmap (some (.ref O)) (some (.ref W)) (some (.ref P)) (some (.ref Tl)))) (N : News base L s.heap [(a2, listOf (List.toArray dv2) n2), (a1, listOf (List.toArray dv1) n1), (nl, listOf (List.toArray nv) nn), (L + 1 + 1 + 1 + 1, o4), (L + 1 + 1 + 1, o3), (L + 1 + 1, o2), (L + 1, o1)])
 (d2 : o2.data = .cell (some (.ref nl))) (d3 : o3.data = .cell (some (.ref a1))) (h1 : StrsAre dv1 (ord.map ltr)) (ho5 : ord.length = 5) (hch : ∀ q, q < 4 → (changedN ord q).Nodup ∧ (∀ c ∈ changedN ord q, c ∈ works) ∧ throughP ps [] (changedN ord q) = if (ord.getD (q + 1) 0, ord.getD q 0) ∈ ps then q else 5)
 (hret : ∀ h' tk', Fr base L h' (jmap (some (.ref O)) (some (.ref W)) (some (.ref P)) (some (.ref Tl))) → News base L h' [(a2, listOf (List.toArray dv2) n2), (a1, listOf (List.toArray dv1) n1), (nl, listOf (List.toArray nv) nn), (L + 1 + 1 + 1 + 1, o4), (L + 1 + 1 + 1, o3), (L + 1 + 1, o2), (L + 1, o1)] → Q .next { s with heap := h', toks := tk' }) :
 wpAny (model Pg w) ((Ar dp un []).deeper (lawE w L fa cd)) (exec (lawS w 8) (lawE w L fa cd)) Q E s := by
 revert w dp un A₀ base L fa nl O a1 a2 P W Tl cd s Q E nv dv1 dv2 nn n1 n2 ps ord o1 o2 o3 o4
 refine @(pk30 ((((w00, δ), ((Ar 0 0 [], δ), δ)), δ), (((s00, δ), δ), δ)) ?_)
 generalize z30 _ _ = Z; generalize Z.1.1.1.1 = w, Z.1.1.1.2.1 = dp, Z.1.1.1.2.2 = un, Z.1.1.2.1.1 = A₀, Z.1.1.2.1.2 = base, Z.1.1.2.2.1 = L, Z.1.1.2.2.2 = fa, Z.1.2.1.1.1 = nl, Z.1.2.1.1.2 = O, Z.1.2.1.2.1 = a1, Z.1.2.1.2.2 = a2, Z.1.2.2.1.1 = P, Z.1.2.2.1.2 = W, Z.1.2.2.2.1 = Tl, Z.1.2.2.2.2 = cd, Z.2.1.1.1 = s, Z.2.1.1.2.1 = Q, Z.2.1.1.2.2 = E, Z.2.1.2.1.1 = nv, Z.2.1.2.1.2 = dv1, Z.2.1.2.2.1 = dv2, Z.2.1.2.2.2 = nn, Z.2.2.1.1.1 = n1, Z.2.2.1.1.2 = n2, Z.2.2.1.2.1 = ps, Z.2.2.1.2.2 = ord, Z.2.2.2.1.1 = o1, Z.2.2.2.1.2 = o2, Z.2.2.2.2.1 = o3, Z.2.2.2.2.2 = o4
 intro B BO hd hu hps hlen hnv F N d2 d3 h1 ho5 hch hret
 have X := BO.X
 refine hide fun Dq kq => ?_; obtain ⟨p, loose, mean, mg, mb, T⟩ := BO.T; refine kq ?_; clear kq Dq
 have hd5 : dv1.length = 5 := by rw [h1.length, List.length_map, ho5]
 have hat : ∀ q : Nat, q < 5 → ∃ t, dv1[q]? = some (.str (ltr (ord.getD q 0)) t) := fun q hq => by
  have e : dv1[q]? = some dv1[q] := List.getElem?_eq_getElem (by omega)
  refine hide fun Dq kq => ?_; obtain ⟨y, t, hy, ev⟩ := strs_at h1 e; refine kq ?_; clear kq Dq
  refine ⟨t, ?_⟩
  rw [e, ev, ← getD_ltr (by omega), List.getD, hy]; rfl
 with_unfolding_all show wpAny _ ((Ar dp un []).deeper (envOfC _ (Scope.mk _ _ _ _ _) _ _ _)) (exec (Stmt.If _ _ _ _) (envOfC _ (Scope.mk _ _ _ _ _) _ _ _)) _ _ _
 repeat' first | (k_unfold; try dsimp only) | walk1 | (dsimp only; walk1)
 refine Hold.mk ?_
 k_dflt (refine' ListComp_UX ?F ?k1 ?k2 ?k3 ?k4 ?k5 ?_; (case F => k_asm); (case k1 => with_unfolding_all rfl); (case k2 => decide); (case k3 => rfl); (case k4 => decide); (case k5 => rfl))
 repeat' first | (k_unfold; try dsimp only) | walk1 | (dsimp only; walk1)
 rename (IsRange _ _ _ _ _ _ _ _) => hR4
 rename (Fr base _ _ _) => F₂
 rename (News base _ _ _) => N₂
 refine Hold.mk ?_
 refine src_range rfl F₂ N₂ hR4 (by decide) (n := 4) (by decide) (by decide) ?_
 intro h₆
 refine rest_inv (n := 4) (fun q zs nw => nw = [(a2, listOf (List.toArray dv2) n2), (a1, listOf (List.toArray dv1) n1), (nl, listOf (List.toArray nv) nn), (L + 1 + 1 + 1 + 1, o4), (L + 1 + 1 + 1, o3), (L + 1 + 1, o2), (L + 1, o1)] ∧ IntsAre zs ((List.range q).map fun q => ((throughP ps [] (changedN ord q) : Nat) : Int))) ?_ ?_ _ 0 [] _ (Nat.zero_add _) ⟨rfl, .nil⟩
 ·rintro q zs nw kv I oI C oC D m₂ h tk E' hq ⟨rfl, hzs⟩ ⟨tq, rfl⟩ hoC hv F₃ N₃ off ne
  clear F₂ N₂
  have h1l := N₃ (a1, listOf dv1.toArray n1) (.tail _ (.tail _ (.tail _ (.tail _ (.head _)))))
  have hnl' := N₃ (nl, listOf nv.toArray nn) (.tail _ (.tail _ (.tail _ (.tail _ (.tail _ (.head _))))))
  repeat' first | (k_unfold; try dsimp only) | walk1 | (dsimp only; walk1)
  refine Hold.mk ?_
  k_dflt (refine' changed_spec (vs := dv1) (xs := ord.map ltr) ?C ?hd ?hu ?hl ?hx ?hk ?hk5 ?h8 ?_; (case C => exact cx_of B F₃ BO N₃ no_mu); (case hd => ktr_room); (case hu => ktr_units); (case hl => exact PySem.IsL.isList (n := n1) h1l.1); (case hx => exact h1); (case hk => omega); (case hk5 => (rw [List.length_map]; omega)); (case h8 => (rw [List.length_map]; omega)))
  intro r' h₄ tk₄ n' vs' hK₄ hfr hr' hsv _
  have F₄ := fr_keep0 F₃ hK₄
  have N₄ := news_keep0 N₃ hK₄
  obtain ⟨gr, rL⟩ := news_in F₃ hfr
  rw [show ((0 : Int) + (q : Nat)).toNat = q from by omega, swap_ltr (by omega)] at hsv
  have N₅ : News base L h₄ ((r', listOf vs'.toArray n') :: (I, oI) :: (C, oC) :: (D, LCg.lst zs) :: [(a2, listOf (List.toArray dv2) n2), (a1, listOf (List.toArray dv1) n1), (nl, listOf (List.toArray nv) nn), (L + 1 + 1 + 1 + 1, o4), (L + 1 + 1 + 1, o3), (L + 1 + 1, o2), (L + 1, o1)]) := fun p hp => by
   rcases List.mem_cons.mp hp with rfl | hp
   ·exact ⟨hr', rL, gr⟩
   ·exact N₄ p hp
  clear F₃ N₃ N₄ hK₄
  repeat' first | (k_unfold; try dsimp only) | walk1 | (dsimp only; walk1)
  refine Hold.mk ?_
  have hch' := hch q hq
  have hnl₅ := N₅ (nl, listOf nv.toArray nn) (.tail _ (.tail _ (.tail _ (.tail _ (.tail _ (.tail _ (.head _)))))))
  k_dflt (refine' through_spec (ps := ps) (order := changedN ord q) ?C ?hd ?hu ?hnl ?hnv ?hps ?hlen ?hol ?hov ?hon ?how ?fol ?fnl ?_; (case C => exact cx_of B F₄ BO N₅ no_mu); (case hd => ktr_room); (case hu => ktr_units); (case hnl => exact hnl₅.1); (case hnv => exact hnv); (case hps => exact hps); (case hlen => omega); (case hol => exact hr'); (case hov => exact hsv); (case hon => exact hch'.1); (case how => exact hch'.2.1); (case fol => exact off_law rfl rL); (case fnl => exact off_law rfl hnl₅.2.1))
  intro t' h₇ tk₇ hK₇
  obtain ⟨F₇, N₇⟩ := keepW_law F₄ N₅ rfl hK₇
  refine ⟨_, _, _, rfl, F₇, fun p hp => N₇ p (.tail _ hp), off, trivial, rfl, ?_⟩
  rw [List.range_succ, List.map_append]
  exact hzs.append (.cons _ _ .nil)
 ·rintro zs nw ⟨rfl, hzs⟩
  intro D h tk F₃ N₃ oD
  clear F₂ N₂
  repeat' first | (k_unfold; try dsimp only) | walk1 | (dsimp only; walk1)
  refine Hold.mk ?_
  k_dflt (refine' ListComp_UX ?F ?k1 ?k2 ?k3 ?k4 ?k5 ?_; (case F => k_asm); (case k1 => with_unfolding_all rfl); (case k2 => decide); (case k3 => rfl); (case k4 => decide); (case k5 => rfl))
  repeat' first | (k_unfold; try dsimp only) | walk1 | (dsimp only; walk1)
  rename (IsRange _ _ _ _ _ _ _ _) => hR5
  rename (Fr base _ _ _) => F₄
  rename (News base _ _ _) => N₄
  refine Hold.mk ?_
  refine src_range rfl F₄ N₄ hR5 (by decide) (n := 4) (by decide) (by decide) ?_
  intro h₇
  refine rest_inv (n := 4) (fun q us nw => nw = (D, LCg.lst zs) :: [(a2, listOf (List.toArray dv2) n2), (a1, listOf (List.toArray dv1) n1), (nl, listOf (List.toArray nv) nn), (L + 1 + 1 + 1 + 1, o4), (L + 1 + 1 + 1, o3), (L + 1 + 1, o2), (L + 1, o1)] ∧ IntsAre us ((List.range q).map fun q => (((if (ord.getD (q + 1) 0, ord.getD q 0) ∈ ps then q else 5) : Nat) : Int))) ?_ ?_ _ 0 [] _ (Nat.zero_add _) ⟨rfl, .nil⟩
  ·rintro q us nw kv I oI C oC D' m₂ h tk E' hq ⟨rfl, hus⟩ ⟨tq, rfl⟩ hoC hv F₅ N₅ off ne
   clear F₄ N₄
   obtain ⟨t0, hv0⟩ := hat q (by omega)
   obtain ⟨t1, hv1⟩ := hat (q + 1) (by omega)
   have h1l := N₅ (a1, listOf dv1.toArray n1) (.tail _ (.tail _ (.tail _ (.tail _ (.tail _ (.head _))))))
   have hnl' := N₅ (nl, listOf nv.toArray nn) (.tail _ (.tail _ (.tail _ (.tail _ (.tail _ (.tail _ (.head _)))))))
   repeat' first | (k_unfold; try dsimp only) | walk1 | (dsimp only; walk1)
   refine Hold.mk (item_any (n := n1) (vs := dv1) h1l.1 (by omega) (by rw [show ((0 : Int) + (q : Nat) + 1).toNat = q + 1 from by omega]; exact hv1) (by omega) ?_)
   repeat' first | (k_unfold; try dsimp only) | walk1 | (dsimp only; walk1)
   refine Hold.mk (item_any (n := n1) (vs := dv1) h1l.1 (by omega) (by rw [show ((0 : Int) + (q : Nat)).toNat = q from by omega]; exact hv0) (by omega) ?_)
   repeat' first | (k_unfold; try dsimp only) | walk1 | (dsimp only; walk1)
   refine Hold.mk (PyProof.Rows.add_str ?_ (hsz := by rw [sizeLine_eq]; show 1 + 1 ≤ _; decide))
   intro t2 tk2
   repeat' first | (k_unfold; try dsimp only) | walk1 | (dsimp only; walk1)
   refine Hold.mk (in_list_strs (PySem.IsL.isList (n := nn) hnl'.1) hnv ?_)
   have hin : ((ps.map two).any fun x => x == ltr (ord.getD (q + 1) 0) ++ ltr (ord.getD q 0)) = decide ((ord.getD (q + 1) 0, ord.getD q 0) ∈ ps) := two_in _ _ _
   rw [hin]
   clear hin
   repeat' first | (k_unfold; try dsimp only) | walk1 | (dsimp only; walk1)
   ·rename (_ ∈ ps) => hm
    refine ⟨_, _, _, rfl, F₅, N₅, off, trivial, rfl, ?_⟩
    rw [List.range_succ, List.map_append, show ((0 : Int) + (q : Nat)) = ((q : Nat) : Int) from by omega]
    refine hus.append ?_
    show IntsAre _ [(((if (ord.getD (q + 1) 0, ord.getD q 0) ∈ ps then q else 5) : Nat) : Int)]
    rw [if_pos hm]; exact .cons _ _ .nil
   ·rename (¬ _ ∈ ps) => hm
    refine ⟨_, _, _, rfl, F₅, N₅, off, trivial, rfl, ?_⟩
    rw [List.range_succ, List.map_append]
    refine hus.append ?_
    show IntsAre _ [(((if (ord.getD (q + 1) 0, ord.getD q 0) ∈ ps then q else 5) : Nat) : Int)]
    rw [if_neg hm]; exact .cons _ _ .nil
  ·rintro us nw ⟨rfl, hus⟩
   intro D' h tk F₅ N₅ oD'
   clear F₄ N₄
   repeat' first | (k_unfold; try dsimp only) | walk1 | (dsimp only; walk1)
   refine Hold.mk (ke_ne_ints (PySem.IsL.isList (n := zs.length) (N₅ _ (.tail _ (.head _))).1) (PySem.IsL.isList (n := us.length) (N₅ _ (.head _)).1) hzs hus (by ktr_units) ?_)
   have he : (List.range 4).map (fun q => ((throughP ps [] (changedN ord q) : Nat) : Int)) = (List.range 4).map (fun q => (((if (ord.getD (q + 1) 0, ord.getD q 0) ∈ ps then q else 5) : Nat) : Int)) := by
    refine List.map_congr_left fun q hq => ?_
    rw [(hch q (List.mem_range.mp hq)).2.2]
   rw [decide_eq_true he]
   clear he
   repeat' first | (k_unfold; try dsimp only) | walk1 | (dsimp only; walk1)
   exact hret _ _ F₅ (fun p hp => N₅ p (.tail _ (.tail _ hp)))
end

end
section
theorem keepW_lawM {base h h' : Heap} {L : Addr} {m : Str → Option Value} {news : List (Addr × Obj)} {env : Env} {mu : List Addr} (F : Fr base L h m) (N : News base L h news) (hf : env.frame = some L) (k : KeepW [env] h h' mu) (hmu : ∀ b ∈ mu, base.get? b = none ∧ b ≠ L) :
  Fr base L h' m ∧ ∀ p ∈ news, p.1 ∉ mu → h'.get? p.1 = some p.2 ∧ p.1 ≠ L ∧ base.get? p.1 = none := by
 have off : ∀ b, b ≠ L → Off [env] b := fun b hb e he hq => by
  rw [List.mem_singleton.mp he, hf] at hq
  exact hb (Option.some.inj hq).symm
 refine ⟨⟨?_, fun b o e => k.off (F.keep b o e) (fun z => by rw [(hmu b z).1] at e; cases e) (off b fun z => ?_), F.above⟩, fun p hp hm => ⟨k.off (N p hp).1 hm (off _ (N p hp).2.1), (N p hp).2⟩⟩
 ·refine hide fun Dq kq => ?_; obtain ⟨oL, es, ep, hL, hd, r⟩ := F.ns; refine kq ?_; clear kq Dq
  refine hide fun Dq kq => ?_; obtain ⟨sl, q, _⟩ := k L oL hL (fun z => (hmu L z).2 rfl); refine kq ?_; clear kq Dq
  exact ⟨_, es, ep, q, hd, r⟩
 ·rw [z] at e
  exact absurd (Heap.lt_size e) (Nat.not_lt.mpr F.above)
section
local macro_rules | `(tactic| walk_at "compareOp Eq ref ref") => `(tactic| (refine Hold.out ?_))
local macro_rules | `(tactic| walk_at "subscriptTail Name Slice ref ref") => `(tactic| (refine Hold.out ?_))
local macro_rules | `(tactic| walk_at "call ref") => `(tactic| (with_reducible refine hold_call 176 ?_))
theorem law_S9 {w : World} {dp un : Nat} {A₀ : Around} {base : Heap} {L fa nl O a1 a2 P W Tl : Addr} {cd : Value} {s : Shared} {Q : Flow → Shared → Prop} {E : Value → Shared → Prop} {nv dv1 dv2 : List Value} {nn n1 n2 : Nat} {xs ys : List Str} {o1 o2 o3 o4 : Obj}
 (B : Below A₀ base [] base) (BO : BOk w base) (hd : dp + 110 < recursionLimit) (hu : un + 1100 < cLine)
 (F : Fr base L s.heap (jmap (some (.ref O)) (some (.ref W)) (some (.ref P)) (some (.ref Tl)))) (N : News base L s.heap [(a2, listOf (List.toArray dv2) n2), (a1, listOf (List.toArray dv1) n1), (nl, listOf (List.toArray nv) nn), (L + 1 + 1 + 1 + 1, o4), (L + 1 + 1 + 1, o3), (L + 1 + 1, o2), (L + 1, o1)])
 (d3 : o3.data = .cell (some (.ref a1))) (d4 : o4.data = .cell (some (.ref a2))) (h1 : StrsAre dv1 xs) (h2 : StrsAre dv2 ys) (hx5 : xs.length = 5) (hy5 : ys.length = 5) (hy : ∀ y ∈ ys, PyData.strOk y = true) (huld : uldP xs (ys.drop 1) = (ys.take 1, []))
 (hret : ∀ h' tk' m', Fr base L h' m' → Q (.ret (.bool true)) { s with heap := h', toks := tk' }) :
 wpAny (model Pg w) ((Ar dp un []).deeper (lawE w L fa cd)) (exec (lawS w 9) (lawE w L fa cd)) Q E s := by
 revert w dp un A₀ base L fa nl O a1 a2 P W Tl cd s Q E nv dv1 dv2 nn n1 n2 xs ys o1 o2 o3 o4
 refine @(pk30 ((((w00, δ), ((Ar 0 0 [], δ), δ)), δ), (((s00, δ), δ), δ)) ?_)
 generalize z30 _ _ = Z; generalize Z.1.1.1.1 = w, Z.1.1.1.2.1 = dp, Z.1.1.1.2.2 = un, Z.1.1.2.1.1 = A₀, Z.1.1.2.1.2 = base, Z.1.1.2.2.1 = L, Z.1.1.2.2.2 = fa, Z.1.2.1.1.1 = nl, Z.1.2.1.1.2 = O, Z.1.2.1.2.1 = a1, Z.1.2.1.2.2 = a2, Z.1.2.2.1.1 = P, Z.1.2.2.1.2 = W, Z.1.2.2.2.1 = Tl, Z.1.2.2.2.2 = cd, Z.2.1.1.1 = s, Z.2.1.1.2.1 = Q, Z.2.1.1.2.2 = E, Z.2.1.2.1.1 = nv, Z.2.1.2.1.2 = dv1, Z.2.1.2.2.1 = dv2, Z.2.1.2.2.2 = nn, Z.2.2.1.1.1 = n1, Z.2.2.1.1.2 = n2, Z.2.2.1.2.1 = xs, Z.2.2.1.2.2 = ys, Z.2.2.2.1.1 = o1, Z.2.2.2.1.2 = o2, Z.2.2.2.2.1 = o3, Z.2.2.2.2.2 = o4
 intro B BO hd hu F N d3 d4 h1 h2 hx5 hy5 hy huld hret
 have X := BO.X
 refine hide fun Dq kq => ?_; obtain ⟨p, loose, mean, mg, mb, T⟩ := BO.T; refine kq ?_; clear kq Dq
 have hd5 : dv1.length = 5 := by rw [h1.length, hx5]
 have he5 : dv2.length = 5 := by rw [h2.length, hy5]
 with_unfolding_all show wpAny _ ((Ar dp un []).deeper (envOfC _ (Scope.mk _ _ _ _ _) _ _ _)) (exec (Stmt.Return _ _) (envOfC _ (Scope.mk _ _ _ _ _) _ _ _)) _ _ _
 repeat' first | (k_unfold; try dsimp only) | walk1 | (dsimp only; walk1)
 rename (Fr base _ _ _) => F₂
 rename (News base _ _ _) => N₂
 rename_i el c₁ h₁ l1
 refine Hold.mk ?_
 k_dflt (refine' slice_from (vs := dv2) (k := 1) ?F ?N ?hl ?hw ?hz ?_; (case F => exact F₂); (case N => exact N₂); (case hl => exact PySem.IsL.isList (n := n2) (N₂ _ (.tail _ (.head _))).1); (case hw => omega); (case hz => omega))
 intro al h₃ F₃ N₃ l3
 clear F₂ N₂
 have hne : el ≠ al := Nat.ne_of_lt (l3 _ (.head _))
 repeat' first | (k_unfold; try dsimp only) | walk1 | (dsimp only; walk1)
 refine Hold.mk ?_
 k_dflt (refine' uld_spec (evs := dv1) (avs := dv2.drop 1) (exs := xs) (axs := ys.drop 1) ?C ?hd ?hu ?hel ?hal ?hne ?he ?ha ?hez ?haz ?_; (case C => exact cx_of B F₃ BO N₃ (by simp)); (case hd => ktr_room); (case hu => ktr_units); (case hel => exact (N₃ _ (.tail _ (.head _))).1); (case hal => exact (N₃ _ (.head _)).1); (case hne => exact hne); (case he => exact h1); (case ha => exact h2.drop' 1); (case hez => omega); (case haz => (rw [List.length_drop]; omega)))
 intro T' M h₄ tk₄ mvs avs' mn an' hK hTf hMf hT hM hal hms has
 rw [huld] at hms has
 clear huld
 have hmu : ∀ b ∈ [el, al], base.get? b = none ∧ b ≠ L := fun b hb => by
  simp only [List.mem_cons, List.not_mem_nil, or_false] at hb
  rcases hb with rfl | rfl
  ·exact ⟨(N₃ _ (.tail _ (.head _))).2.2, (N₃ _ (.tail _ (.head _))).2.1⟩
  ·exact ⟨(N₃ _ (.head _)).2.2, (N₃ _ (.head _)).2.1⟩
 obtain ⟨F₄, N₄⟩ := keepW_lawM F₃ N₃ rfl hK hmu
 have lt3 := fun p hp => l3 p (.tail _ hp)
 have off2 : ∀ p ∈ [(a2, listOf dv2.toArray n2), (L + 1 + 1 + 1 + 1, o4)], p.1 ∉ [el, al] := fun p hp => by
  simp only [List.mem_cons, List.not_mem_nil, or_false, not_or] at hp ⊢
  rcases hp with rfl | rfl
  ·exact ⟨Nat.ne_of_lt l1.1, Nat.ne_of_lt (l3 _ (.tail _ (.head _)))⟩
  ·exact ⟨Nat.ne_of_lt l1.2.2.2.1, Nat.ne_of_lt (l3 (L + 1 + 1 + 1 + 1, o4) (.tail _ (.tail _ (.tail _ (.tail _ (.head _))))))⟩
 obtain ⟨gT, TL⟩ := news_in F₃ hTf
 obtain ⟨gM, ML⟩ := news_in F₃ hMf
 have N₅ : News base L h₄ [(T', tupOf [.ref M, .ref al]), (M, listOf mvs.toArray mn), (al, listOf avs'.toArray an'), (a2, listOf dv2.toArray n2), (L + 1 + 1 + 1 + 1, o4)] :=
  all_cons ⟨hT, TL, gT⟩ (all_cons ⟨hM, ML, gM⟩ (all_cons ⟨hal, (hmu al (.tail _ (.head _))).2, (hmu al (.tail _ (.head _))).1⟩ (all_cons (N₄ (a2, listOf dv2.toArray n2) (.tail _ (.tail _ (.head _))) (off2 _ (.head _)))
   (all_cons (N₄ (L + 1 + 1 + 1 + 1, o4) (.tail _ (.tail _ (.tail _ (.tail _ (.tail _ (.head _)))))) (off2 _ (.tail _ (.head _)))) fun _ h => nomatch h))))
 clear N₄ F₃ N₃ hK hT hM hal l3 lt3 l1
 repeat' first | (k_unfold; try dsimp only) | walk1 | (dsimp only; walk1)
 refine Hold.mk ?_
 k_dflt (refine' slice_upto (vs := dv2) (k := 1) ?F ?N ?hl ?hw ?hz ?_; (case F => exact F₄); (case N => exact N₅); (case hl => exact PySem.IsL.isList (n := n2) (N₅ _ (.tail _ (.tail _ (.tail _ (.head _))))).1); (case hw => omega); (case hz => omega))
 intro D h₅ F₅ N₆ l5
 clear F₄ N₅
 repeat' first | (k_unfold; try dsimp only) | walk1 | (dsimp only; walk1)
 rename (Fr base _ _ _) => F₆
 rename (News base _ _ _) => N₇
 have hlay : (PyData.tuple [rowD (ys.take 1), rowD []]).canLay0 = true := by
  have e1 := lay_strs (ys.take 1) (fun y hy' => hy y (List.mem_of_mem_take hy'))
  simp only [PyData.canLay0, PyData.canLayAll0, e1, List.map_nil, Bool.and_self]
 have hsh : SeqAt.shaped (.tuple [rowD (ys.take 1), rowD []]) = true := by
  have hdep : (PyData.tuple [rowD (ys.take 1), rowD []]).depth ≤ 64 := by simp only [PyData.depth, PyData.depthAll, depth_strs, List.map_nil]; decide
  simp only [SeqAt.shaped, hlay, decide_eq_true hdep, Bool.and_self]
 have g := fun p hp => (N₇ p hp).1
 refine Hold.mk (eq_dataH (da := .tuple [rowD (ys.take 1), rowD []]) (db := .tuple [rowD (ys.take 1), rowD []])
  (reads_tuple_at (g _ (.tail _ (.tail _ (.tail _ (.head _))))) rfl rfl (.cons (reads_newData (PySem.IsL.isList (g _ (.tail _ (.tail _ (.tail _ (.tail _ (.head _))))))) (carried_strs hms)) (.cons (reads_newData (PySem.IsL.isList (g _ (.tail _ (.tail _ (.tail _ (.tail _ (.tail _ (.head _)))))))) (carried_strs has)) .nil)))
  (reads_tuple_at (g _ (.head _)) rfl rfl (.cons (reads_newData (PySem.IsL.isList (g _ (.tail _ (.tail _ (.head _))))) (carried_strs (h2.take' 1))) (.cons (reads_newData (ys := []) (PySem.IsL.isList (g _ (.tail _ (.head _)))) .nil) .nil)))
  hsh hsh (by ktr_units) ?_)
 rw [PySem.SeqAt.eqv_refl _ hlay]
 exact hret _ _ _ F₆
end

end
section
theorem idx_ltr (c : Nat) : ∀ l : List Nat, (l.map ltr).idxOf (ltr c) = l.idxOf c
 | [] => rfl
 | a :: l => by
  rw [List.map_cons, List.idxOf_cons, List.idxOf_cons, idx_ltr c l]
  by_cases h : a = c
  ·subst h; simp
  ·have h1 : (ltr a == ltr c) = false := by simpa using fun e => h (ltr_inj (congrArg Str.mk (by simpa using e)))
   have h2 : (a == c) = false := by simpa using h
   rw [h1, h2]
def toldN (ys row : List Nat) : List Int := (List.range 4).map fun k => cmpP ((ys.idxOf (row.getD k 0) : Nat) : Int) ((ys.idxOf (row.getD (k + 1) 0) : Nat) : Int)
theorem told_ltr {ys row : List Nat} (h : row.length = 5) : toldS (ys.map ltr) (row.map ltr) = toldN ys row := by
 refine List.map_congr_left fun k hk => ?_
 have hk := List.mem_range.mp hk
 rw [getD_ltr (by omega), getD_ltr (by omega), idx_ltr, idx_ltr]
def wayNs (ys : List Nat) (rows : List (List Nat)) : List (List Nat) := let row := rows.getLastD []; if 1 ∈ toldN ys row then rows ++ [changedN row ((toldN ys row).idxOf 1)] else rows
def wayN (xs ys : List Nat) : Nat → List (List Nat)
 | 0 => [xs]
 | n + 1 => wayNs ys (wayN xs ys n)
abbrev mm (rows : List (List Nat)) : List (List Str) := rows.map fun r => r.map ltr
theorem last_mem {rows : List (List Nat)} (h : rows ≠ []) : rows.getLastD [] ∈ rows := by
 rcases List.eq_nil_or_concat rows with e | ⟨r, a, e⟩
 ·exact absurd e h
 ·rw [e, List.concat_eq_append]; simp
theorem last_mm {rows : List (List Nat)} (h : rows ≠ []) : (mm rows).getLastD [] = (rows.getLastD []).map ltr := by
 rcases List.eq_nil_or_concat rows with e | ⟨r, a, e⟩
 ·exact absurd e h
 ·rw [e, List.concat_eq_append]; simp [mm]
theorem told_idx {ys row : List Nat} (h : 1 ∈ toldN ys row) : (toldN ys row).idxOf 1 < 4 := by
 have := List.idxOf_lt_length_of_mem h
 simpa [toldN] using this
theorem way_mm {xs ys : List Nat} (hx : xs.length = 5) : ∀ n, wayS (xs.map ltr) (ys.map ltr) n = mm (wayN xs ys n) ∧ wayN xs ys n ≠ [] ∧ ∀ r ∈ wayN xs ys n, r.length = 5
 | 0 => ⟨rfl, by simp [wayN], fun r hr => by rw [List.mem_singleton.mp hr]; exact hx⟩
 | n + 1 => by
  refine hide fun Dq kq => ?_; obtain ⟨e, hne, hl⟩ := way_mm (ys := ys) hx n; refine kq ?_; clear kq Dq
  have h5 := hl _ (last_mem hne)
  simp only [wayS, wayStep, wayN, wayNs, e, last_mm hne, told_ltr h5]
  by_cases h : 1 ∈ toldN ys ((wayN xs ys n).getLastD [])
  ·have hi := told_idx h
   rw [if_pos h, if_pos h, swap_ltr (by omega)]
   refine ⟨by simp [mm], by simp, fun r hr => ?_⟩
   rcases List.mem_append.mp hr with hr | hr
   ·exact hl r hr
   ·rw [List.mem_singleton.mp hr, changedN, List.length_set, List.length_set]; exact h5
  ·rw [if_neg h, if_neg h]
   exact ⟨rfl, hne, hl⟩
theorem contains_ltr (c : Nat) (l : List Nat) : (l.map ltr).contains (ltr c) = l.contains c := by
 rw [List.contains_eq_mem, List.contains_eq_mem]
 exact decide_eq_decide.mpr map_ltr_mem
def wrongN (ys row : List Nat) : List Nat := (List.range 4).filter fun k => (ys.take (ys.idxOf (row.getD k 0))).contains (row.getD (k + 1) 0)
theorem wrong_ltr {ys row : List Nat} (h : row.length = 5) : wrongS (ys.map ltr) (row.map ltr) = wrongN ys row := by
 refine List.filter_congr fun k hk => ?_
 have hk := List.mem_range.mp hk
 rw [getD_ltr (by omega), getD_ltr (by omega), idx_ltr, ← List.map_take, contains_ltr]
def turnN (row : List Nat) (k : Nat) : List Nat := row.take k ++ [row.getD (k + 1) 0, row.getD k 0] ++ row.drop (k + 2)
theorem turn_ltr {row : List Nat} {k : Nat} (hk : k + 1 < row.length) : turnS (row.map ltr) k = (turnN row k).map ltr := by
 rw [turnS, turnN, getD_ltr hk, getD_ltr (by omega)]
 simp
theorem turnN_len {row : List Nat} {k : Nat} (hk : k + 1 < row.length) : (turnN row k).length = row.length := by
 rw [turnN, List.length_append, List.length_append, List.length_take, List.length_drop]
 simp only [List.length_cons, List.length_nil]
 omega
def dueNs (ys : List Nat) (rows : List (List Nat)) : List (List Nat) := let row := rows.getLastD []; match wrongN ys row with
 | [] => rows
 | k :: _ => rows ++ [turnN row k]
def dueN (xs ys : List Nat) : Nat → List (List Nat)
 | 0 => [xs]
 | n + 1 => dueNs ys (dueN xs ys n)
theorem due_mm {xs ys : List Nat} (hx : xs.length = 5) : ∀ n, dueS (xs.map ltr) (ys.map ltr) n = mm (dueN xs ys n) ∧ dueN xs ys n ≠ [] ∧ ∀ r ∈ dueN xs ys n, r.length = 5
 | 0 => ⟨rfl, by simp [dueN], fun r hr => by rw [List.mem_singleton.mp hr]; exact hx⟩
 | n + 1 => by
  refine hide fun Dq kq => ?_; obtain ⟨e, hne, hl⟩ := due_mm (ys := ys) hx n; refine kq ?_; clear kq Dq
  have h5 := hl _ (last_mem hne)
  simp only [dueS, dueStep, dueN, dueNs, e, last_mm hne, wrong_ltr h5]
  cases h : wrongN ys ((dueN xs ys n).getLastD []) with
  | nil => exact ⟨rfl, hne, hl⟩
  | cons k l =>
   have hk : k < 4 := by
    have : k ∈ wrongN ys ((dueN xs ys n).getLastD []) := by rw [h]; exact .head _
    rw [wrongN, List.mem_filter, List.mem_range] at this
    exact this.1
   dsimp only
   rw [turn_ltr (by omega)]
   refine ⟨by simp [mm], by simp, fun r hr => ?_⟩
   rcases List.mem_append.mp hr with hr | hr
   ·exact hl r hr
   ·rw [List.mem_singleton.mp hr, turnN_len (by omega)]; exact h5
def pairsN (xs : List Nat) : List (List Nat) := (List.range 5).flatMap fun j => (List.range (4 - j)).map fun q => [xs.getD j 0, xs.getD (j + 1 + q) 0]
theorem pairs_mm {xs : List Nat} (hx : xs.length = 5) : pairsTo (xs.map ltr) 5 = mm (pairsN xs) := by
 match xs, hx with
 | [a, b, c, d, e], _ => rfl
def pairCmpN (ys r : List Nat) : Int := cmpP ((ys.idxOf (r.getD 0 0) : Nat) : Int) ((ys.idxOf (r.getD 1 0) : Nat) : Int)
def pairInN (ys r : List Nat) : Int := if (ys.take (ys.idxOf (r.getD 0 0))).contains (r.getD 1 0) then 1 else -1
theorem pairCmp_ltr {ys r : List Nat} (h : r.length = 2) : pairCmp (ys.map ltr) (r.map ltr) = pairCmpN ys r := by
 rw [pairCmp, pairCmpN, getD_ltr (by omega), getD_ltr (by omega), idx_ltr, idx_ltr]
theorem pairIn_ltr {ys r : List Nat} (h : r.length = 2) : pairIn (ys.map ltr) (r.map ltr) = pairInN ys r := by
 rw [pairIn, pairInN, getD_ltr (by omega), getD_ltr (by omega), idx_ltr, ← List.map_take, contains_ltr]
theorem pairsN_two (xs : List Nat) : ∀ r ∈ pairsN xs, r.length = 2 := fun r hr => by
 refine hide fun Dq kq => ?_; obtain ⟨j, _, hr⟩ := List.mem_flatMap.mp hr; refine kq ?_; clear kq Dq
 refine hide fun Dq kq => ?_; obtain ⟨q, _, rfl⟩ := List.mem_map.mp hr; refine kq ?_; clear kq Dq
 rfl
def uldNs (st : List Nat × List Nat) (x : Nat) : List Nat × List Nat := if x ∈ st.2 then (st.1, st.2.erase x) else (st.1 ++ [x], st.2)
def uldN (exs axs : List Nat) : List Nat × List Nat := exs.reverse.foldl uldNs ([], axs)
theorem uld_fold : ∀ (l : List Nat) (a b : List Nat), (l.map ltr).foldl uldS (a.map ltr, b.map ltr) = ((l.foldl uldNs (a, b)).1.map ltr, (l.foldl uldNs (a, b)).2.map ltr)
 | [], _, _ => rfl
 | x :: l, a, b => by
  rw [List.map_cons, List.foldl_cons, List.foldl_cons]
  by_cases h : x ∈ b
  ·have e1 : uldS (a.map ltr, b.map ltr) (ltr x) = (a.map ltr, (b.erase x).map ltr) := by
    rw [uldS, if_pos (map_ltr_mem.mpr h)]
    simp only [erase_idx]
   have e2 : uldNs (a, b) x = (a, b.erase x) := if_pos h
   rw [e1, e2]; exact uld_fold l a (b.erase x)
  ·have e1 : uldS (a.map ltr, b.map ltr) (ltr x) = ((a ++ [x]).map ltr, b.map ltr) := by
    rw [uldS, if_neg (fun z => h (map_ltr_mem.mp z)), List.map_append]; rfl
   have e2 : uldNs (a, b) x = (a ++ [x], b) := if_neg h
   rw [e1, e2]; exact uld_fold l (a ++ [x]) b
theorem uld_ltr (exs axs : List Nat) : uldP (exs.map ltr) (axs.map ltr) = ((uldN exs axs).1.map ltr, (uldN exs axs).2.map ltr) := by
 rw [uldP, ← List.map_reverse]; exact uld_fold exs.reverse [] axs

end
end
end
end
end
end
section
abbrev free6 : List (Nat × Nat) := [(98, 97), (100, 97), (100, 99), (101, 97), (101, 98), (101, 99)]
def graphN (bs : List Bool) : List (Nat × Nat) := base4 ++ ((free6.zip bs).filter (·.2)).map (·.1)
def chkW (ps : List (Nat × Nat)) (a b : List Nat) (rows : List (List Nat)) : Bool :=
 decide (dueN a b 11 = rows) && rows.all (fun r => decide r.Nodup && r.all (fun c => works.contains c) && throughP ps [] r == 5) && decide (rows.length < 20)
def chkP (a b : List Nat) (rows : List (List Nat)) : Bool :=
 decide ((pairsN a).map (pairCmpN b) = (pairsN a).map (pairInN b)) && decide ((((pairsN a).map (pairCmpN b)).count 1 : Nat) + 1 = rows.length) && decide (uldN a (b.drop 1) = (b.take 1, []))
def chkC (ps : List (Nat × Nat)) (a : List Nat) : Bool :=
 (List.range 4).all fun q => decide (changedN a q).Nodup && (changedN a q).all (fun c => works.contains c) && throughP ps [] (changedN a q) == if (a.getD (q + 1) 0, a.getD q 0) ∈ ps then q else 5
def chk (ps : List (Nat × Nat)) : Bool := chkW ps (iterP ps 0 5) (iterP ps (-1) 5) (wayN (iterP ps 0 5) (iterP ps (-1) 5) 11) && chkP (iterP ps 0 5) (iterP ps (-1) 5) (wayN (iterP ps 0 5) (iterP ps (-1) 5) 11) && chkC ps (iterP ps 0 5)
def bools : Nat → List (List Bool)
 | 0 => [[]]
 | n + 1 => (bools n).map (false :: ·) ++ (bools n).map (true :: ·)
theorem bools_mem : ∀ l : List Bool, l ∈ bools l.length
 | [] => .head _
 | b :: l => by
  have ih := bools_mem l
  cases b
  ·exact List.mem_append_left _ (List.mem_map_of_mem ih)
  ·exact List.mem_append_right _ (List.mem_map_of_mem ih)
theorem chk_fff : ∀ l ∈ bools 3, chk (graphN (false :: false :: false :: l)) = true := by decide +kernel
theorem chk_fft : ∀ l ∈ bools 3, chk (graphN (false :: false :: true :: l)) = true := by decide +kernel
theorem chk_ftf : ∀ l ∈ bools 3, chk (graphN (false :: true :: false :: l)) = true := by decide +kernel
theorem chk_ftt : ∀ l ∈ bools 3, chk (graphN (false :: true :: true :: l)) = true := by decide +kernel
theorem chk_tff : ∀ l ∈ bools 3, chk (graphN (true :: false :: false :: l)) = true := by decide +kernel
theorem chk_tft : ∀ l ∈ bools 3, chk (graphN (true :: false :: true :: l)) = true := by decide +kernel
theorem chk_ttf : ∀ l ∈ bools 3, chk (graphN (true :: true :: false :: l)) = true := by decide +kernel
theorem chk_ttt : ∀ l ∈ bools 3, chk (graphN (true :: true :: true :: l)) = true := by decide +kernel
theorem chk_all (b1 b2 b3 b4 b5 b6 : Bool) : chk (graphN [b1, b2, b3, b4, b5, b6]) = true := by
 have h := bools_mem [b4, b5, b6]
 cases b1 <;> cases b2 <;> cases b3
 ·exact chk_fff _ h
 ·exact chk_fft _ h
 ·exact chk_ftf _ h
 ·exact chk_ftt _ h
 ·exact chk_tff _ h
 ·exact chk_tft _ h
 ·exact chk_ttf _ h
 ·exact chk_ttt _ h
theorem freeB_congr {ps ps' : List (Nat × Nat)} (h : ∀ p, p ∈ ps ↔ p ∈ ps') (dn : List Nat) (c : Nat) : freeB ps dn c = freeB ps' dn c := by
 have e : freeB ps dn c = true ↔ freeB ps' dn c = true := by
  rw [freeB_iff, freeB_iff]
  exact ⟨fun q => ⟨q.1, q.2.1, fun p hp => q.2.2 p ((h p).mpr hp)⟩, fun q => ⟨q.1, q.2.1, fun p hp => q.2.2 p ((h p).mp hp)⟩⟩
 cases h1 : freeB ps dn c <;> cases h2 : freeB ps' dn c <;> simp_all
theorem iterP_congr {ps ps' : List (Nat × Nat)} (h : ∀ p, p ∈ ps ↔ p ∈ ps') (side : Int) : ∀ k, iterP ps side k = iterP ps' side k
 | 0 => rfl
 | k + 1 => by
  rw [iterP, iterP, iterP_congr h side k, show freeB ps (iterP ps' side k) = freeB ps' (iterP ps' side k) from funext fun c => freeB_congr h _ c]
theorem throughP_congr {ps ps' : List (Nat × Nat)} (h : ∀ p, p ∈ ps ↔ p ∈ ps') : ∀ l dn, throughP ps dn l = throughP ps' dn l
 | [], _ => rfl
 | c :: l, dn => by rw [throughP_cons, throughP_cons, freeB_congr h, throughP_congr h l]
theorem graph_of {ps : List (Nat × Nat)} (hps : OkN ps) (hb : ∀ p ∈ base4, p ∈ ps) : ∀ p, p ∈ ps ↔ p ∈ graphN (free6.map fun p => decide (p ∈ ps)) := by
 intro p
 have all10 : ∀ a ∈ works, ∀ b ∈ works, b < a → (a, b) ∈ base4 ∨ (a, b) ∈ free6 := by decide
 have key : ∀ l : List (Nat × Nat), (((l.zip (l.map fun p => decide (p ∈ ps))).filter (·.2)).map (·.1)) = l.filter fun p => decide (p ∈ ps) := by
  intro l
  induction l with
  | nil => rfl
  | cons x l ih =>
   rw [List.map_cons, List.zip_cons_cons, List.filter_cons, List.filter_cons]
   by_cases h : x ∈ ps
   ·simp only [h, decide_true, if_true, List.map_cons, ih]
   ·simp only [h, decide_false, Bool.false_eq_true, if_false, ih]
 rw [graphN, key, List.mem_append, List.mem_filter]
 constructor
 ·intro hp
  refine hide fun Dq kq => ?_; obtain ⟨h1, h2, h3⟩ := hps p hp; refine kq ?_; clear kq Dq
  rcases all10 p.1 h1 p.2 h2 h3 with h | h
  ·exact .inl h
  ·exact .inr ⟨h, decide_eq_true hp⟩
 ·rintro (h | h)
  ·exact hb p h
  ·exact of_decide_eq_true h.2
structure Plain (ps : List (Nat × Nat)) (a b : List Nat) (rows : List (List Nat)) : Prop where
 due : dueN a b 11 = rows
 row : ∀ r ∈ rows, r.Nodup ∧ (∀ c ∈ r, c ∈ works) ∧ throughP ps [] r = 5
 few : rows.length < 20
 cmp : (pairsN a).map (pairCmpN b) = (pairsN a).map (pairInN b)
 cnt : ((pairsN a).map (pairCmpN b)).count 1 + 1 = rows.length
 uld : uldN a (b.drop 1) = (b.take 1, [])
 chg : ∀ q, q < 4 → (changedN a q).Nodup ∧ (∀ c ∈ changedN a q, c ∈ works) ∧ throughP ps [] (changedN a q) = if (a.getD (q + 1) 0, a.getD q 0) ∈ ps then q else 5
theorem plain_of_chk {ps : List (Nat × Nat)} (h : chk ps = true) : Plain ps (iterP ps 0 5) (iterP ps (-1) 5) (wayN (iterP ps 0 5) (iterP ps (-1) 5) 11) := by
 unfold chk at h
 generalize iterP ps 0 5 = a at *
 generalize iterP ps (-1) 5 = b at *
 generalize wayN a b 11 = rows at *
 rw [Bool.and_eq_true, Bool.and_eq_true] at h
 refine hide fun Dq kq => ?_; obtain ⟨⟨h1, h2⟩, h3⟩ := h; refine kq ?_; clear kq Dq
 rw [chkW, Bool.and_eq_true, Bool.and_eq_true] at h1
 rw [chkP, Bool.and_eq_true, Bool.and_eq_true] at h2
 rw [chkC] at h3
 refine ⟨of_decide_eq_true h1.1.1, fun r hr => ?_, of_decide_eq_true h1.2, of_decide_eq_true h2.1.1, of_decide_eq_true h2.1.2, of_decide_eq_true h2.2, fun q hq => ?_⟩
 ·have := List.all_eq_true.mp h1.1.2 r hr
  rw [Bool.and_eq_true, Bool.and_eq_true] at this
  exact ⟨of_decide_eq_true this.1.1, fun c hc => List.contains_iff_mem.mp (List.all_eq_true.mp this.1.2 c hc), eq_of_beq this.2⟩
 ·have := List.all_eq_true.mp h3 q (List.mem_range.mpr hq)
  rw [Bool.and_eq_true, Bool.and_eq_true] at this
  exact ⟨of_decide_eq_true this.1.1, fun c hc => List.contains_iff_mem.mp (List.all_eq_true.mp this.1.2 c hc), eq_of_beq this.2⟩
theorem plain_law {ps : List (Nat × Nat)} (hps : OkN ps) (hb : ∀ p ∈ base4, p ∈ ps) : Plain ps (iterP ps 0 5) (iterP ps (-1) 5) (wayN (iterP ps 0 5) (iterP ps (-1) 5) 11) := by
 have hg := graph_of hps hb
 have hc : chk (graphN (free6.map fun p => decide (p ∈ ps))) = true := chk_all (decide ((98, 97) ∈ ps)) (decide ((100, 97) ∈ ps)) (decide ((100, 99) ∈ ps)) (decide ((101, 97) ∈ ps)) (decide ((101, 98) ∈ ps)) (decide ((101, 99) ∈ ps))
 have h := plain_of_chk hc
 rw [← iterP_congr hg, ← iterP_congr hg] at h
 refine ⟨h.due, fun r hr => ?_, h.few, h.cmp, h.cnt, h.uld, fun q hq => ?_⟩
 ·rw [throughP_congr hg]; exact h.row r hr
 ·have := h.chg q hq
  rw [throughP_congr hg]
  refine ⟨this.1, this.2.1, this.2.2.trans ?_⟩
  by_cases hm : ((iterP ps 0 5).getD (q + 1) 0, (iterP ps 0 5).getD q 0) ∈ ps
  ·rw [if_pos hm, if_pos ((hg _).mp hm)]
  ·rw [if_neg hm, if_neg (fun z => hm ((hg _).mpr z))]

end
section
theorem ord_all {ps : List (Nat × Nat)} {side : Int} (hps : OkN ps) : ∀ c ∈ works, c ∈ iterP ps side 5 := fun c hc => by
 obtain ⟨h1, h2⟩ := iterP_ok (side := side) hps 5 (Nat.le_refl _)
 refine Classical.byContradiction fun hn => ?_
 have := nodup_len (l := c :: iterP ps side 5) (m := works) (List.nodup_cons.mpr ⟨hn, h1⟩) (fun a ha => by
  rcases List.mem_cons.mp ha with rfl | ha
  ·exact hc
  ·exact h2 a ha)
 rw [List.length_cons, iterP_len] at this
 exact absurd this (by decide)
theorem ord_sub {ps : List (Nat × Nat)} (hps : OkN ps) : ∀ x ∈ ordS ps 0, x ∈ ordS ps (-1) := fun x hx => by
 refine hide fun Dq kq => ?_; obtain ⟨c, hc, rfl⟩ := List.mem_map.mp hx; refine kq ?_; clear kq Dq
 exact List.mem_map_of_mem (ord_all hps c ((iterP_ok hps 5 (Nat.le_refl _)).2 c hc))
theorem ord_apt {ps : List (Nat × Nat)} {md hi : Nat} {dv1 dv2 : List Value} (h1 : Ord ps 0 1 md dv1) (h2 : Ord ps (-1) md hi dv2) : ∀ x t, Value.str x t ∈ dv1 → t ≠ 0 ∧ ∀ v ∈ dv2, Apt x t v := fun x t hm => by
 have a := h1.tb _ hm x t rfl
 refine ⟨Nat.ne_of_gt a.1, fun v hv y u e => ?_⟩
 have b := h2.tb _ hv y u e
 have c : t < u := Nat.lt_of_lt_of_le a.2 b.1
 exact ⟨Nat.ne_of_gt (Nat.lt_of_le_of_lt (Nat.zero_le _) c), fun z => absurd c (by rw [z]; exact Nat.lt_irrefl _)⟩
theorem ord_lt {ps : List (Nat × Nat)} {md hi : Nat} {dv2 : List Value} (h2 : Ord ps (-1) md hi dv2) : md < hi := by
 have hl := h2.sa.length
 rw [List.length_map, iterP_len] at hl
 refine hide fun Dq kq => ?_; obtain ⟨x, t, _, e⟩ := strs_at h2.sa (i := 0) (v := dv2[0]) (List.getElem?_eq_getElem (by omega)); refine kq ?_; clear kq Dq
 have := h2.tb _ (List.getElem_mem (by omega : 0 < dv2.length)) x t e
 exact Nat.lt_of_le_of_lt this.1 this.2
theorem pairsN_len (xs : List Nat) : (pairsN xs).length < 100 := by
 simp [pairsN, List.length_flatMap]
 decide
theorem cmp_mm {a b : List Nat} (ha : a.length = 5) : (pairsTo (a.map ltr) 5).map (pairCmp (b.map ltr)) = (pairsN a).map (pairCmpN b) := by
 rw [pairs_mm ha, mm, List.map_map]
 exact List.map_congr_left fun r hr => pairCmp_ltr (pairsN_two a r hr)
theorem in_mm {a b : List Nat} (ha : a.length = 5) : (pairsTo (a.map ltr) 5).map (pairIn (b.map ltr)) = (pairsN a).map (pairInN b) := by
 rw [pairs_mm ha, mm, List.map_map]
 exact List.map_congr_left fun r hr => pairIn_ltr (pairsN_two a r hr)
theorem law_body {w : World} {dp un : Nat} {A₀ : Around} {base : Heap} {L fa sl : Addr} {cd : Value} {s : Shared} {Q : Flow → Shared → Prop} {E : Value → Shared → Prop} {vs : List Value} {ns : List Int} {o1 o2 o3 o4 : Obj}
 (B : Below A₀ base [] base) (BO : BOk w base) (hd : dp + 110 < recursionLimit) (hu : un + 1100 < cLine) (hsl : base.IsList sl vs.toArray) (hI : IntsAre vs ns) (h63 : ns.length < 64)
 (F : Fr base L s.heap (jmap none none none none)) (N : News base L s.heap [(L + 1 + 1 + 1 + 1, o4), (L + 1 + 1 + 1, o3), (L + 1 + 1, o2), (L + 1, o1)])
 (d1 : o1.data = .cell (some (.ref sl))) (d2 : o2.data = .cell none) (d3 : o3.data = .cell none) (d4 : o4.data = .cell none)
 (hret : ∀ h' tk' m', Fr base L h' m' → Q (.ret (.bool true)) { s with heap := h', toks := tk' }) :
 wpAny (model Pg w) ((Ar dp un []).deeper (lawE w L fa cd)) (execs [lawS w 0, lawS w 1, lawS w 2, lawS w 3, lawS w 4, lawS w 5, lawS w 6, lawS w 7, lawS w 8, lawS w 9] (lawE w L fa cd)) Q E s := by
 revert w dp un A₀ base L fa sl cd s Q E vs ns o1 o2 o3 o4
 refine @(pk18 ((((w00, δ), (δ, Ar 0 0 [])), δ), (((s00, δ), δ), δ)) ?_)
 generalize z18 _ _ = Z; generalize Z.1.1.1.1 = w, Z.1.1.1.2 = dp, Z.1.1.2.1 = un, Z.1.1.2.2 = A₀, Z.1.2.1.1 = base, Z.1.2.1.2 = L, Z.1.2.2.1 = fa, Z.1.2.2.2.1 = sl, Z.1.2.2.2.2 = cd, Z.2.1.1.1 = s, Z.2.1.1.2 = Q, Z.2.1.2.1 = E, Z.2.1.2.2 = vs, Z.2.2.1.1 = ns, Z.2.2.1.2 = o1, Z.2.2.2.1 = o2, Z.2.2.2.2.1 = o3, Z.2.2.2.2.2 = o4
 intro B BO hd hu hsl hI h63 F N d1 d2 d3 d4 hret
 refine wpAny_execs_cons (law_S0 B BO (by omega) hu hsl hI h63 F N d1 d2 ?_)
 intro h₁ tk₁ nl nv nn o2' ps F₁ N₁ hnl dn hnv hps hlen hb4
 have PL := plain_law hps hb4
 refine wpAny_execs_cons (law_S1 (ps := ps) B BO hd hu hnv hps hlen F₁ N₁ dn ?_)
 intro h₂ tk₂ O a1 dv1 n1 a2 dv2 n2 md F₂ N₂ hmd O1 O2 hap
 have hlt := ord_lt O2
 refine wpAny_execs_cons (wpAny_tk 1 (by dsimp only; omega) (law_S2 B BO hd hu hnv hps hlen F₂ N₂ dn O1.sa O2.sa ?_))
 intro h₃ tk₃ F₃ N₃ t₃
 refine wpAny_execs_cons (wpAny_tk 1 t₃ (law_S3 B BO hd hu F₃ N₃ d3 d4 hap hnl ?_))
 intro h₄ tk₄ o3' o4' F₄ N₄ e3 e4 t₄
 have hsub := ord_sub hps
 have hapt := ord_apt O1 O2
 refine wpAny_execs_cons (wpAny_tk 1 t₄ (law_S4 (ps := ps) B BO hd hu hps F₄ N₄ e3 e4 O1.sa O2.sa hsub hapt ?_))
 intro h₅ tk₅ P pv pn W wl wn tail F₅ N₅ Mw Mp t₅
 rw [(way_mm (ys := iterP ps (-1) 5) (iterP_len ps 0 5) 11).1] at Mw
 have hdue : dueS (ordS ps 0) (ordS ps (-1)) 11 = mm (wayN (iterP ps 0 5) (iterP ps (-1) 5) 11) := (due_mm (ys := iterP ps (-1) 5) (iterP_len ps 0 5) 11).1.trans (congrArg mm PL.due)
 refine wpAny_execs_cons (wpAny_tk 1 t₅ (law_S5 (ps := ps) B BO hd hu hps hlen hnv F₅ N₅ dn e3 e4 O1.sa O2.sa hsub Mw PL.few hdue PL.row ?_))
 intro h₆ tk₆ F₆ N₆ t₆
 refine wpAny_execs_cons (wpAny_tk 1 t₆ (law_S6 (xs := ordS ps 0) (ys := ordS ps (-1)) B BO hd hu F₆ N₆ e4 O1.sa O2.sa hsub hapt Mp t₆ ?_))
 intro h₇ tk₇ Tl tv tn F₇ N₇ htv htt t₇
 have ecmp : (pairsTo (ordS ps 0) 5).map (pairCmp (ordS ps (-1))) = (pairsN (iterP ps 0 5)).map (pairCmpN (iterP ps (-1) 5)) := cmp_mm (iterP_len ps 0 5)
 have ein : (pairsTo (ordS ps 0) 5).map (pairIn (ordS ps (-1))) = (pairsN (iterP ps 0 5)).map (pairInN (iterP ps (-1) 5)) := in_mm (iterP_len ps 0 5)
 have hcs : (pairsTo (ordS ps 0) 5).map (pairCmp (ordS ps (-1))) = (pairsTo (ordS ps 0) 5).map (pairIn (ordS ps (-1))) := ecmp.trans (PL.cmp.trans ein.symm)
 have hwl : wl.length = (wayN (iterP ps 0 5) (iterP ps (-1) 5) 11).length := by rw [Mw.length, List.length_map]
 have hcount : ((((pairsTo (ordS ps 0) 5).map (pairCmp (ordS ps (-1)))).count 1 : Nat) : Int) = (wl.length : Int) - 1 := by
  have := PL.cnt
  rw [ecmp, hwl]; omega
 have hfew := PL.few
 refine wpAny_execs_cons (law_S7 (xs := ordS ps 0) (ys := ordS ps (-1)) (pr := pairsTo (ordS ps 0) 5) B BO hd hu F₇ N₇ e4 O1.sa O2.sa ordS_len hsub Mp (by rw [pairs_mm (iterP_len ps 0 5)]; show (mm (pairsN _)).length < 100; rw [List.length_map]; exact pairsN_len _) (by rw [hwl]; omega) htv htt hcount hcs t₇ ?_)
 intro h₈ tk₈ F₈ N₈
 have N₈' : News base L h₈ [(a2, listOf (List.toArray dv2) n2), (a1, listOf (List.toArray dv1) n1), (nl, listOf (List.toArray nv) nn), (L + 1 + 1 + 1 + 1, o4'), (L + 1 + 1 + 1, o3'), (L + 1 + 1, o2'), (L + 1, o1)] := fun p hp => N₈ p (.tail _ (.tail _ (.tail _ (List.mem_append_left _ hp))))
 refine wpAny_execs_cons (law_S8 (ord := iterP ps 0 5) B BO hd hu hps hlen hnv F₈ N₈' dn e3 O1.sa (iterP_len ps 0 5) PL.chg ?_)
 intro h₉ tk₉ F₉ N₉
 have huld : uldP (ordS ps 0) ((ordS ps (-1)).drop 1) = ((ordS ps (-1)).take 1, []) := by
  rw [← List.map_drop, uld_ltr, PL.uld, List.map_take]; rfl
 refine wpAny_execs_cons (law_S9 (xs := ordS ps 0) (ys := ordS ps (-1)) B BO hd hu F₉ N₉ e3 e4 O1.sa O2.sa ordS_len ordS_len (ordS_ok hps) huld ?_)
 intro h' tk' m' F'
 exact hret h' tk' m' F'

end
section
theorem jmap0 : (fun _ : Str => (none : Option Value)) = jmap none none none none := by
 funext y
 simp only [jmap, ite_self]
section
local macro_rules | `(tactic| k_qdec) => `(tactic| decide +kernel)
theorem T0 : PySem.Challenge.rw_of0061_01.Holds := by
 w_on
 refine holds_law hd.said fun k1 => ?_
 refine holds_open (q := hd.view_39) (loose := [PySem.Str.ofString "_NodeInfo"]) (Xt := hd.xt) (XP := XL hd.view_39 []) (Yf := hd.hook.obs) (Ya := hd.hook.val) (YP := hd.hook.says) (N := 3150) hd.left hd.hook.of hd.hook.keeps (fun s e => xl_of s (Bool.and_eq_true_iff.mp e).1) XL.keeps (by rfl) (by rfl) (by rfl) (fun s e => recFacts_of (Bool.and_eq_true_iff.mp e).2) (by rfl) k1 (by decide +kernel) ⟨rfl, rfl, rfl, rfl, rfl, by decide +kernel⟩ ?hw ?hc
 case hw => w_witness2
 k_go0
 rename (Below _ _ _ _) => K0
 rename (Frag.In _ _) => KX
 rename (Top _ _ _ _ _ _) => T
 rename (Heap.IsList _ _ _) => hL
 rename (IntsAre _ _) => hI
 rename (¬ _ < _) => hcond
 rename (Fr _ _ _ _) => F
 rename (News _ _ _ _) => N
 replace F := jmap0 ▸ (show Fr _ _ _ (fun _ => none) from F)
 with_unfolding_all refine law_body (dp := 1 + claimMargin) (un := 4) K0 ⟨KX, _, _, _, _, _, T⟩ ?_ ?_ hL hI ?_ F N ?_ ?_ ?_ ?_ ?_
 ·ktr_room
 ·ktr_units
 ·omega
 ·assumption
 ·assumption
 ·assumption
 ·assumption
 ·intro h' tk' m' F'
  dsimp only
  wrow_close
end

end
end
end Mine
theorem PySem.Challenge.cw_of0061_01_holds : PySem.Challenge.rw_of0061_01.Holds :=
  Mine.T0
