import PyProof.Rows.All
import Wide.All
import OpenK.AllK
import Wide.FinOn
import KE.KLcPair
import KE.KCat
import PyProof.DictCompW
import Lean
import PySem.Challenge.RW_bi0004_01
set_option Elab.async false
namespace Mine
open PySem PySem.W PyProof.Rows
local macro_rules | `(tactic| o_head $_) => `(tactic| skip)
set_option maxRecDepth 100000 in
set_option maxHeartbeats 0 in
theorem frag (h : PySem.Challenge.rw_bi0004_01.row.Holds) : PySem.Challenge.rw_bi0004_01.row.Holds := by
  k_head
  exact h
end Mine
set_option maxRecDepth 100000
namespace Mine
open PySem PySem.W PyProof.Rows
/-- the program with the first statements of its body alone -/
def cutP (n : Nat) : Program := { PySem.Challenge.pw_bi0004_01 with main := { PySem.Challenge.pw_bi0004_01.main with body := PySem.Challenge.pw_bi0004_01.main.body.take n } }
def ol0 : OpenLaw := { PySem.Challenge.rw_bi0004_01 with prog := cutP 0 }
def ol6 : OpenLaw := { PySem.Challenge.rw_bi0004_01 with prog := cutP 6 }
def ol7 : OpenLaw := { PySem.Challenge.rw_bi0004_01 with prog := cutP 7 }
def ol9 : OpenLaw := { PySem.Challenge.rw_bi0004_01 with prog := cutP 9 }
def ol10 : OpenLaw := { PySem.Challenge.rw_bi0004_01 with prog := cutP 10 }
def ol12 : OpenLaw := { PySem.Challenge.rw_bi0004_01 with prog := cutP 12 }
def ol13 : OpenLaw := { PySem.Challenge.rw_bi0004_01 with prog := cutP 13 }
local macro_rules | `(tactic| o_head $_) => `(tactic| skip)
set_option maxHeartbeats 0 in
theorem xf0 (h : ol0.row.Holds) : ol0.row.Holds := by
  x_head
  exact h
set_option maxHeartbeats 0 in
theorem xf6 (h : ol6.row.Holds) : ol6.row.Holds := by
  x_head
  exact h
set_option maxHeartbeats 0 in
theorem xf7 (h : ol7.row.Holds) : ol7.row.Holds := by
  x_head
  exact h
set_option maxHeartbeats 0 in
theorem xf9 (h : ol9.row.Holds) : ol9.row.Holds := by
  x_head
  exact h
set_option maxHeartbeats 0 in
theorem xf10 (h : ol10.row.Holds) : ol10.row.Holds := by
  x_head
  exact h
set_option maxHeartbeats 0 in
theorem xf12 (h : ol12.row.Holds) : ol12.row.Holds := by
  x_head
  exact h
set_option maxHeartbeats 0 in
theorem xf13 (h : ol13.row.Holds) : ol13.row.Holds := by
  x_head
  exact h
set_option maxHeartbeats 0 in
theorem xf (h : PySem.Challenge.rw_bi0004_01.row.Holds) : PySem.Challenge.rw_bi0004_01.row.Holds := by
  x_head
  exact h
end Mine
set_option maxRecDepth 1000000
namespace Mine
open PySem PySem.W PyProof.Rows
set_option maxHeartbeats 0
def pA : Program := PySem.Challenge.pw_bi0004_01
/-- the first text of a class statement's body -/
def docAt (k : Nat) : Str := match (behindTheImports pA)[k]? with
  | some (.ClassDef _ _ _ (.Expr (.Constant (.str s) _ _) _ :: _) _ _ _ _ _ _ _) => s
  | _ => Str.ofString ""
/-- objects that nothing reaches any more -/
def gbs (P : Params) : Frag := [(22, { cls := Value.type "tuple", data := Data.seq #[] }),
  (23, { cls := Value.type "builtin_function_or_method", data := Data.fields #[Value.builtin "type.__prepare__", Value.type "type"] }),
  (24, { cls := Value.type "dict", data := Data.dict #[{ hash := PyData.keyHash P (Str.ofString "__module__"), key := Value.str (Str.ofString "__module__") 203, val := Value.str (Str.ofString "matchpy.utils") 194 }, { hash := PyData.keyHash P (Str.ofString "__qualname__"), key := Value.str (Str.ofString "__qualname__") 205, val := Value.str (Str.ofString "Multiset") 204 }, { hash := PyData.keyHash P (Str.ofString "__firstlineno__"), key := Value.str (Str.ofString "__firstlineno__") 207, val := Value.int 5 206 }, { hash := PyData.keyHash P (Str.ofString "__init__"), key := Value.str (Str.ofString "__init__") 213, val := Value.ref 35 }, { hash := PyData.keyHash P (Str.ofString "__getitem__"), key := Value.str (Str.ofString "__getitem__") 222, val := Value.ref 42 }, { hash := PyData.keyHash P (Str.ofString "__setitem__"), key := Value.str (Str.ofString "__setitem__") 228, val := Value.ref 47 }, { hash := PyData.keyHash P (Str.ofString "__contains__"), key := Value.str (Str.ofString "__contains__") 236, val := Value.ref 54 }, { hash := PyData.keyHash P (Str.ofString "__len__"), key := Value.str (Str.ofString "__len__") 245, val := Value.ref 61 }, { hash := PyData.keyHash P (Str.ofString "__iter__"), key := Value.str (Str.ofString "__iter__") 254, val := Value.ref 68 }, { hash := PyData.keyHash P (Str.ofString "items"), key := Value.str (Str.ofString "items") 260, val := Value.ref 73 }, { hash := PyData.keyHash P (Str.ofString "distinct_elements"), key := Value.str (Str.ofString "distinct_elements") 267, val := Value.ref 80 }, { hash := PyData.keyHash P (Str.ofString "copy"), key := Value.str (Str.ofString "copy") 274, val := Value.ref 87 }, { hash := PyData.keyHash P (Str.ofString "add"), key := Value.str (Str.ofString "add") 282, val := Value.ref 94 }, { hash := PyData.keyHash P (Str.ofString "__eq__"), key := Value.str (Str.ofString "__eq__") 288, val := Value.ref 99 }, { hash := PyData.keyHash P (Str.ofString "__ne__"), key := Value.str (Str.ofString "__ne__") 296, val := Value.ref 106 }, { hash := PyData.keyHash P (Str.ofString "__le__"), key := Value.str (Str.ofString "__le__") 302, val := Value.ref 111 }, { hash := PyData.keyHash P (Str.ofString "__add__"), key := Value.str (Str.ofString "__add__") 312, val := Value.ref 118 }, { hash := PyData.keyHash P (Str.ofString "__sub__"), key := Value.str (Str.ofString "__sub__") 322, val := Value.ref 125 }, { hash := PyData.keyHash P (Str.ofString "__mul__"), key := Value.str (Str.ofString "__mul__") 332, val := Value.ref 132 }, { hash := PyData.keyHash P (Str.ofString "__static_attributes__"), key := Value.str (Str.ofString "__static_attributes__") 334, val := Value.ref 133 }] 20 }),
  (25, { cls := Value.type "tuple", data := Data.seq #[] }),
  (26, { cls := Value.none, data := Data.fields #[Value.int 7 0, Value.int 4 0, Value.ref 34, Value.int 18 0, Value.int 4 0, Value.ref 41, Value.int 24 0, Value.int 4 0, Value.ref 46, Value.int 34 0, Value.int 4 0, Value.ref 53, Value.int 37 0, Value.int 4 0, Value.ref 60, Value.int 43 0, Value.int 4 0, Value.ref 67, Value.int 48 0, Value.int 4 0, Value.ref 72, Value.int 51 0, Value.int 4 0, Value.ref 79, Value.int 54 0, Value.int 4 0, Value.ref 86, Value.int 57 0, Value.int 4 0, Value.ref 93, Value.int 60 0, Value.int 4 0, Value.ref 98, Value.int 65 0, Value.int 4 0, Value.ref 105, Value.int 68 0, Value.int 4 0, Value.ref 110, Value.int 71 0, Value.int 4 0, Value.ref 117, Value.int 77 0, Value.int 4 0, Value.ref 124, Value.int 83 0, Value.int 4 0, Value.ref 131] }),
  (27, { cls := Value.type "code", data := Data.fields #[Value.str (Str.ofString "Multiset") 198, Value.str (Str.ofString "Multiset") 199, Value.str (Str.ofString "/claim/cut.py") 200, Value.int 5 0, Value.int 0 0, Value.int 0 0, Value.int 0 0, Value.int 0 0, Value.ref 25, Value.bool false, Value.int 181 0, Value.ref 26, Value.none, Value.none, Value.none, Value.none, Value.int 201 0, Value.int 5 0, Value.str (Str.ofString "/claim/cut.py") 202] }),
  (28, { cls := Value.type "frame", slots := #[some (Value.ref 27), some (Value.ref 3), some (Value.ref 24), none, some (Value.str (Str.ofString "matchpy.utils") 194), none, some (Value.ref 0)] }),
  (138, { cls := Value.type "super", data := Data.fields #[Value.ref 135, Value.ref 135, Value.ref 135] }),
  (139, { cls := Value.type "builtin_function_or_method", data := Data.fields #[Value.builtin "object.__init_subclass__", Value.ref 135] }),
  (140, { cls := Value.type "tuple", data := Data.seq #[] }),
  (141, { cls := Value.type "builtin_function_or_method", data := Data.fields #[Value.builtin "type.__prepare__", Value.type "type"] }),
  (142, { cls := Value.type "dict", data := Data.dict #[{ hash := PyData.keyHash P (Str.ofString "__module__"), key := Value.str (Str.ofString "__module__") 352, val := Value.str (Str.ofString "matchpy.expressions.expressions") 343 }, { hash := PyData.keyHash P (Str.ofString "__qualname__"), key := Value.str (Str.ofString "__qualname__") 354, val := Value.str (Str.ofString "_tuplegetter") 353 }, { hash := PyData.keyHash P (Str.ofString "__firstlineno__"), key := Value.str (Str.ofString "__firstlineno__") 356, val := Value.int 89 355 }, { hash := PyData.keyHash P (Str.ofString "__init__"), key := Value.str (Str.ofString "__init__") 365, val := Value.ref 153 }, { hash := PyData.keyHash P (Str.ofString "__get__"), key := Value.str (Str.ofString "__get__") 374, val := Value.ref 161 }, { hash := PyData.keyHash P (Str.ofString "__set__"), key := Value.str (Str.ofString "__set__") 383, val := Value.ref 168 }, { hash := PyData.keyHash P (Str.ofString "__delete__"), key := Value.str (Str.ofString "__delete__") 391, val := Value.ref 175 }, { hash := PyData.keyHash P (Str.ofString "__static_attributes__"), key := Value.str (Str.ofString "__static_attributes__") 394, val := Value.ref 176 }] 8 }),
  (143, { cls := Value.type "tuple", data := Data.seq #[] }),
  (144, { cls := Value.none, data := Data.fields #[Value.int 91 0, Value.int 4 0, Value.ref 152, Value.int 95 0, Value.int 4 0, Value.ref 160, Value.int 102 0, Value.int 4 0, Value.ref 167, Value.int 105 0, Value.int 4 0, Value.ref 174] }),
  (145, { cls := Value.type "code", data := Data.fields #[Value.str (Str.ofString "_tuplegetter") 347, Value.str (Str.ofString "_tuplegetter") 348, Value.str (Str.ofString "/claim/cut.py") 349, Value.int 89 0, Value.int 0 0, Value.int 0 0, Value.int 0 0, Value.int 0 0, Value.ref 143, Value.bool false, Value.int 181 0, Value.ref 144, Value.none, Value.none, Value.none, Value.none, Value.int 350 0, Value.int 89 0, Value.str (Str.ofString "/claim/cut.py") 351] }),
  (146, { cls := Value.type "frame", slots := #[some (Value.ref 145), some (Value.ref 3), some (Value.ref 142), none, some (Value.str (Str.ofString "matchpy.expressions.expressions") 343), none, some (Value.ref 0)] }),
  (181, { cls := Value.type "super", data := Data.fields #[Value.ref 178, Value.ref 178, Value.ref 178] }),
  (182, { cls := Value.type "builtin_function_or_method", data := Data.fields #[Value.builtin "object.__init_subclass__", Value.ref 178] }),
  (190, { cls := Value.type "tuple", data := Data.seq #[] }),
  (191, { cls := Value.type "builtin_function_or_method", data := Data.fields #[Value.builtin "type.__prepare__", Value.type "type"] }),
  (192, { cls := Value.type "dict", data := Data.dict #[{ hash := PyData.keyHash P (Str.ofString "__module__"), key := Value.str (Str.ofString "__module__") 418, val := Value.str (Str.ofString "matchpy.expressions.expressions") 343 }, { hash := PyData.keyHash P (Str.ofString "__qualname__"), key := Value.str (Str.ofString "__qualname__") 420, val := Value.str (Str.ofString "Expression") 419 }, { hash := PyData.keyHash P (Str.ofString "__firstlineno__"), key := Value.str (Str.ofString "__firstlineno__") 422, val := Value.int 114 421 }, { hash := PyData.keyHash P (Str.ofString "__doc__"), key := Value.str (Str.ofString "__doc__") 424, val := Value.str (docAt 6) 423 }, { hash := PyData.keyHash P (Str.ofString "__init__"), key := Value.str (Str.ofString "__init__") 433, val := Value.ref 203 }, { hash := PyData.keyHash P (Str.ofString "variables"), key := Value.str (Str.ofString "variables") 443, val := Value.ref 211 }, { hash := PyData.keyHash P (Str.ofString "collect_variables"), key := Value.str (Str.ofString "collect_variables") 452, val := Value.ref 218 }, { hash := PyData.keyHash P (Str.ofString "symbols"), key := Value.str (Str.ofString "symbols") 460, val := Value.ref 226 }, { hash := PyData.keyHash P (Str.ofString "collect_symbols"), key := Value.str (Str.ofString "collect_symbols") 468, val := Value.ref 233 }, { hash := PyData.keyHash P (Str.ofString "is_constant"), key := Value.str (Str.ofString "is_constant") 476, val := Value.ref 241 }, { hash := PyData.keyHash P (Str.ofString "_is_constant"), key := Value.str (Str.ofString "_is_constant") 494, val := Value.ref 250 }, { hash := PyData.keyHash P (Str.ofString "is_syntactic"), key := Value.str (Str.ofString "is_syntactic") 502, val := Value.ref 259 }, { hash := PyData.keyHash P (Str.ofString "_is_syntactic"), key := Value.str (Str.ofString "_is_syntactic") 520, val := Value.ref 268 }, { hash := PyData.keyHash P (Str.ofString "with_renamed_vars"), key := Value.str (Str.ofString "with_renamed_vars") 528, val := Value.ref 276 }, { hash := PyData.keyHash P (Str.ofString "preorder_iter"), key := Value.str (Str.ofString "preorder_iter") 537, val := Value.ref 284 }, { hash := PyData.keyHash P (Str.ofString "_preorder_iter"), key := Value.str (Str.ofString "_preorder_iter") 546, val := Value.ref 291 }, { hash := PyData.keyHash P (Str.ofString "__getitem__"), key := Value.str (Str.ofString "__getitem__") 555, val := Value.ref 298 }, { hash := PyData.keyHash P (Str.ofString "__contains__"), key := Value.str (Str.ofString "__contains__") 563, val := Value.ref 305 }, { hash := PyData.keyHash P (Str.ofString "__static_attributes__"), key := Value.str (Str.ofString "__static_attributes__") 565, val := Value.ref 306 }] 19 }),
  (193, { cls := Value.type "tuple", data := Data.seq #[] }),
  (194, { cls := Value.none, data := Data.fields #[Value.int 126 0, Value.int 4 0, Value.ref 202, Value.int 130 0, Value.int 4 0, Value.ref 209, Value.int 136 0, Value.int 4 0, Value.ref 217, Value.int 151 0, Value.int 4 0, Value.ref 224, Value.int 154 0, Value.int 4 0, Value.ref 232, Value.int 158 0, Value.int 4 0, Value.ref 239, Value.int 162 0, Value.int 4 0, Value.ref 247, Value.int 166 0, Value.int 4 0, Value.ref 257, Value.int 170 0, Value.int 4 0, Value.ref 265, Value.int 173 0, Value.int 4 0, Value.ref 275, Value.int 176 0, Value.int 4 0, Value.ref 283, Value.int 198 0, Value.int 4 0, Value.ref 290, Value.int 202 0, Value.int 4 0, Value.ref 297, Value.int 226 0, Value.int 4 0, Value.ref 304] }),
  (195, { cls := Value.type "code", data := Data.fields #[Value.str (Str.ofString "Expression") 413, Value.str (Str.ofString "Expression") 414, Value.str (Str.ofString "/claim/cut.py") 415, Value.int 114 0, Value.int 0 0, Value.int 0 0, Value.int 0 0, Value.int 0 0, Value.ref 193, Value.bool false, Value.int 181 0, Value.ref 194, Value.none, Value.none, Value.none, Value.none, Value.int 416 0, Value.int 114 0, Value.str (Str.ofString "/claim/cut.py") 417] }),
  (196, { cls := Value.type "frame", slots := #[some (Value.ref 195), some (Value.ref 3), some (Value.ref 192), none, some (Value.str (Str.ofString "matchpy.expressions.expressions") 343), none, some (Value.ref 0)] }),
  (311, { cls := Value.type "super", data := Data.fields #[Value.ref 308, Value.ref 308, Value.ref 308] }),
  (312, { cls := Value.type "builtin_function_or_method", data := Data.fields #[Value.builtin "object.__init_subclass__", Value.ref 308] }),
  (314, { cls := Value.type "builtin_function_or_method", data := Data.fields #[Value.builtin "type.__prepare__", Value.type "type"] }),
  (315, { cls := Value.type "dict", data := Data.dict #[{ hash := PyData.keyHash P (Str.ofString "__module__"), key := Value.str (Str.ofString "__module__") 579, val := Value.str (Str.ofString "matchpy.expressions.expressions") 343 }, { hash := PyData.keyHash P (Str.ofString "__qualname__"), key := Value.str (Str.ofString "__qualname__") 581, val := Value.str (Str.ofString "Arity") 580 }, { hash := PyData.keyHash P (Str.ofString "__firstlineno__"), key := Value.str (Str.ofString "__firstlineno__") 583, val := Value.int 228 582 }, { hash := PyData.keyHash P (Str.ofString "__doc__"), key := Value.str (Str.ofString "__doc__") 585, val := Value.str (Str.ofString "Arity(min_count, fixed_size)") 584 }, { hash := PyData.keyHash P (Str.ofString "__slots__"), key := Value.str (Str.ofString "__slots__") 587, val := Value.ref 321 }, { hash := PyData.keyHash P (Str.ofString "_fields"), key := Value.str (Str.ofString "_fields") 590, val := Value.ref 322 }, { hash := PyData.keyHash P (Str.ofString "_field_defaults"), key := Value.str (Str.ofString "_field_defaults") 591, val := Value.ref 323 }, { hash := PyData.keyHash P (Str.ofString "__new__"), key := Value.str (Str.ofString "__new__") 601, val := Value.ref 330 }, { hash := PyData.keyHash P (Str.ofString "_make"), key := Value.str (Str.ofString "_make") 623, val := Value.ref 339 }, { hash := PyData.keyHash P (Str.ofString "_replace"), key := Value.str (Str.ofString "_replace") 634, val := Value.ref 348 }, { hash := PyData.keyHash P (Str.ofString "__replace__"), key := Value.str (Str.ofString "__replace__") 635, val := Value.ref 348 }, { hash := PyData.keyHash P (Str.ofString "__repr__"), key := Value.str (Str.ofString "__repr__") 643, val := Value.ref 355 }, { hash := PyData.keyHash P (Str.ofString "_asdict"), key := Value.str (Str.ofString "_asdict") 650, val := Value.ref 362 }, { hash := PyData.keyHash P (Str.ofString "__getnewargs__"), key := Value.str (Str.ofString "__getnewargs__") 658, val := Value.ref 369 }, { hash := PyData.keyHash P (Str.ofString "__match_args__"), key := Value.str (Str.ofString "__match_args__") 661, val := Value.ref 370 }, { hash := PyData.keyHash P (Str.ofString "min_count"), key := Value.str (Str.ofString "min_count") 671, val := Value.ref 372 }, { hash := PyData.keyHash P (Str.ofString "fixed_size"), key := Value.str (Str.ofString "fixed_size") 681, val := Value.ref 375 }, { hash := PyData.keyHash P (Str.ofString "__static_attributes__"), key := Value.str (Str.ofString "__static_attributes__") 682, val := Value.ref 377 }, { hash := PyData.keyHash P (Str.ofString "__classcell__"), key := Value.str (Str.ofString "__classcell__") 683, val := Value.ref 316 }] 19 }),
  (317, { cls := Value.type "tuple", data := Data.seq #[] }),
  (318, { cls := Value.none, data := Data.fields #[Value.int 234 0, Value.int 4 0, Value.ref 329, Value.int 239 0, Value.int 4 0, Value.ref 336, Value.int 246 0, Value.int 4 0, Value.ref 347, Value.int 257 0, Value.int 4 0, Value.ref 354, Value.int 261 0, Value.int 4 0, Value.ref 361, Value.int 264 0, Value.int 4 0, Value.ref 368] }),
  (319, { cls := Value.type "code", data := Data.fields #[Value.str (Str.ofString "Arity") 574, Value.str (Str.ofString "Arity") 575, Value.str (Str.ofString "/claim/cut.py") 576, Value.int 228 0, Value.int 0 0, Value.int 0 0, Value.int 0 0, Value.int 0 0, Value.ref 317, Value.bool false, Value.int 181 0, Value.ref 318, Value.none, Value.none, Value.none, Value.none, Value.int 577 0, Value.int 228 0, Value.str (Str.ofString "/claim/cut.py") 578] }),
  (320, { cls := Value.type "frame", slots := #[some (Value.ref 319), some (Value.ref 3), some (Value.ref 315), none, some (Value.str (Str.ofString "matchpy.expressions.expressions") 343), none, some (Value.ref 0)] }),
  (373, { cls := Value.type "frame", data := Data.dict #[{ hash := PyData.keyHash P (Str.ofString "self"), key := Value.str (Str.ofString "self") 664, val := Value.ref 372 }, { hash := PyData.keyHash P (Str.ofString "index"), key := Value.str (Str.ofString "index") 665, val := Value.int 0 662 }, { hash := PyData.keyHash P (Str.ofString "doc"), key := Value.str (Str.ofString "doc") 666, val := Value.str (Str.ofString "Alias for field number 0") 663 }] 3 }),
  (376, { cls := Value.type "frame", data := Data.dict #[{ hash := PyData.keyHash P (Str.ofString "self"), key := Value.str (Str.ofString "self") 674, val := Value.ref 375 }, { hash := PyData.keyHash P (Str.ofString "index"), key := Value.str (Str.ofString "index") 675, val := Value.int 1 672 }, { hash := PyData.keyHash P (Str.ofString "doc"), key := Value.str (Str.ofString "doc") 676, val := Value.str (Str.ofString "Alias for field number 1") 673 }] 3 }),
  (378, { cls := Value.type "list", data := Data.seq #[] }),
  (382, { cls := Value.type "super", data := Data.fields #[Value.ref 380, Value.ref 380, Value.ref 380] }),
  (383, { cls := Value.type "builtin_function_or_method", data := Data.fields #[Value.builtin "object.__init_subclass__", Value.ref 380] }),
  (384, { cls := Value.type "tuple", data := Data.seq #[] }),
  (385, { cls := Value.type "builtin_function_or_method", data := Data.fields #[Value.builtin "type.__prepare__", Value.type "type"] }),
  (386, { cls := Value.type "dict", data := Data.dict #[{ hash := PyData.keyHash P (Str.ofString "__module__"), key := Value.str (Str.ofString "__module__") 694, val := Value.str (Str.ofString "matchpy.expressions.expressions") 343 }, { hash := PyData.keyHash P (Str.ofString "__qualname__"), key := Value.str (Str.ofString "__qualname__") 696, val := Value.str (Str.ofString "_OperationMeta") 695 }, { hash := PyData.keyHash P (Str.ofString "__firstlineno__"), key := Value.str (Str.ofString "__firstlineno__") 698, val := Value.int 270 697 }, { hash := PyData.keyHash P (Str.ofString "__doc__"), key := Value.str (Str.ofString "__doc__") 700, val := Value.str (docAt 8) 699 }, { hash := PyData.keyHash P (Str.ofString "__init__"), key := Value.str (Str.ofString "__init__") 714, val := Value.ref 397 }, { hash := PyData.keyHash P (Str.ofString "__call__"), key := Value.str (Str.ofString "__call__") 725, val := Value.ref 405 }, { hash := PyData.keyHash P (Str.ofString "_simplify"), key := Value.str (Str.ofString "_simplify") 737, val := Value.ref 412 }, { hash := PyData.keyHash P (Str.ofString "__static_attributes__"), key := Value.str (Str.ofString "__static_attributes__") 738, val := Value.ref 413 }] 8 }),
  (387, { cls := Value.type "tuple", data := Data.seq #[] }),
  (388, { cls := Value.none, data := Data.fields #[Value.int 277 0, Value.int 4 0, Value.ref 396, Value.int 287 0, Value.int 4 0, Value.ref 404, Value.int 294 0, Value.int 4 0, Value.ref 411] }),
  (389, { cls := Value.type "code", data := Data.fields #[Value.str (Str.ofString "_OperationMeta") 689, Value.str (Str.ofString "_OperationMeta") 690, Value.str (Str.ofString "/claim/cut.py") 691, Value.int 270 0, Value.int 0 0, Value.int 0 0, Value.int 0 0, Value.int 0 0, Value.ref 387, Value.bool false, Value.int 181 0, Value.ref 388, Value.none, Value.none, Value.none, Value.none, Value.int 692 0, Value.int 270 0, Value.str (Str.ofString "/claim/cut.py") 693] }),
  (390, { cls := Value.type "frame", slots := #[some (Value.ref 389), some (Value.ref 3), some (Value.ref 386), none, some (Value.str (Str.ofString "matchpy.expressions.expressions") 343), none, some (Value.ref 0)] }),
  (418, { cls := Value.type "super", data := Data.fields #[Value.ref 415, Value.ref 415, Value.ref 415] }),
  (419, { cls := Value.type "builtin_function_or_method", data := Data.fields #[Value.builtin "object.__init_subclass__", Value.ref 415] }),
  (421, { cls := Value.type "builtin_function_or_method", data := Data.fields #[Value.builtin "type.__prepare__", Value.type "type"] }),
  (422, { cls := Value.type "dict", data := Data.dict #[{ hash := PyData.keyHash P (Str.ofString "__module__"), key := Value.str (Str.ofString "__module__") 752, val := Value.str (Str.ofString "matchpy.expressions.expressions") 343 }, { hash := PyData.keyHash P (Str.ofString "__qualname__"), key := Value.str (Str.ofString "__qualname__") 754, val := Value.str (Str.ofString "Operation") 753 }, { hash := PyData.keyHash P (Str.ofString "__firstlineno__"), key := Value.str (Str.ofString "__firstlineno__") 756, val := Value.int 317 755 }, { hash := PyData.keyHash P (Str.ofString "__doc__"), key := Value.str (Str.ofString "__doc__") 758, val := Value.str (docAt 9) 757 }, { hash := PyData.keyHash P (Str.ofString "__init__"), key := Value.str (Str.ofString "__init__") 773, val := Value.ref 436 }, { hash := PyData.keyHash P (Str.ofString "_count_operands"), key := Value.str (Str.ofString "_count_operands") 795, val := Value.ref 445 }, { hash := PyData.keyHash P (Str.ofString "new"), key := Value.str (Str.ofString "new") 823, val := Value.ref 457 }, { hash := PyData.keyHash P (Str.ofString "type_name"), key := Value.str (Str.ofString "type_name") 830, val := Value.ref 465 }, { hash := PyData.keyHash P (Str.ofString "__lt__"), key := Value.str (Str.ofString "__lt__") 840, val := Value.ref 472 }, { hash := PyData.keyHash P (Str.ofString "__eq__"), key := Value.str (Str.ofString "__eq__") 848, val := Value.ref 479 }, { hash := PyData.keyHash P (Str.ofString "__iter__"), key := Value.str (Str.ofString "__iter__") 856, val := Value.ref 486 }, { hash := PyData.keyHash P (Str.ofString "__len__"), key := Value.str (Str.ofString "__len__") 863, val := Value.ref 493 }, { hash := PyData.keyHash P (Str.ofString "__getitem__"), key := Value.str (Str.ofString "__getitem__") 871, val := Value.ref 500 }, { hash := PyData.keyHash P (Str.ofString "__contains__"), key := Value.str (Str.ofString "__contains__") 880, val := Value.ref 507 }, { hash := PyData.keyHash P (Str.ofString "_is_constant"), key := Value.str (Str.ofString "_is_constant") 887, val := Value.ref 514 }, { hash := PyData.keyHash P (Str.ofString "_is_syntactic"), key := Value.str (Str.ofString "_is_syntactic") 894, val := Value.ref 521 }, { hash := PyData.keyHash P (Str.ofString "collect_variables"), key := Value.str (Str.ofString "collect_variables") 903, val := Value.ref 528 }, { hash := PyData.keyHash P (Str.ofString "collect_symbols"), key := Value.str (Str.ofString "collect_symbols") 911, val := Value.ref 535 }, { hash := PyData.keyHash P (Str.ofString "_preorder_iter"), key := Value.str (Str.ofString "_preorder_iter") 922, val := Value.ref 544 }, { hash := PyData.keyHash P (Str.ofString "with_renamed_vars"), key := Value.str (Str.ofString "with_renamed_vars") 930, val := Value.ref 551 }, { hash := PyData.keyHash P (Str.ofString "__copy__"), key := Value.str (Str.ofString "__copy__") 937, val := Value.ref 558 }, { hash := PyData.keyHash P (Str.ofString "__static_attributes__"), key := Value.str (Str.ofString "__static_attributes__") 945, val := Value.ref 559 }, { hash := PyData.keyHash P (Str.ofString "__classcell__"), key := Value.str (Str.ofString "__classcell__") 946, val := Value.ref 423 }] 23 }),
  (424, { cls := Value.type "tuple", data := Data.seq #[] }),
  (425, { cls := Value.none, data := Data.fields #[Value.int 324 0, Value.int 4 0, Value.ref 435, Value.int 354 0, Value.int 4 0, Value.ref 442, Value.int 367 0, Value.int 4 0, Value.ref 454, Value.int 404 0, Value.int 4 0, Value.ref 464, Value.int 407 0, Value.int 4 0, Value.ref 471, Value.int 423 0, Value.int 4 0, Value.ref 478, Value.int 428 0, Value.int 4 0, Value.ref 485, Value.int 432 0, Value.int 4 0, Value.ref 492, Value.int 435 0, Value.int 4 0, Value.ref 499, Value.int 444 0, Value.int 4 0, Value.ref 506, Value.int 457 0, Value.int 4 0, Value.ref 513, Value.int 460 0, Value.int 4 0, Value.ref 520, Value.int 463 0, Value.int 4 0, Value.ref 527, Value.int 469 0, Value.int 4 0, Value.ref 534, Value.int 472 0, Value.int 4 0, Value.ref 543, Value.int 478 0, Value.int 4 0, Value.ref 550, Value.int 481 0, Value.int 4 0, Value.ref 557] }),
  (426, { cls := Value.type "code", data := Data.fields #[Value.str (Str.ofString "Operation") 747, Value.str (Str.ofString "Operation") 748, Value.str (Str.ofString "/claim/cut.py") 749, Value.int 317 0, Value.int 0 0, Value.int 0 0, Value.int 0 0, Value.int 0 0, Value.ref 424, Value.bool false, Value.int 181 0, Value.ref 425, Value.none, Value.none, Value.none, Value.none, Value.int 750 0, Value.int 317 0, Value.str (Str.ofString "/claim/cut.py") 751] }),
  (427, { cls := Value.type "frame", slots := #[some (Value.ref 426), some (Value.ref 3), some (Value.ref 422), none, some (Value.str (Str.ofString "matchpy.expressions.expressions") 343), none, some (Value.ref 0)] }),
  (562, { cls := Value.type "super", data := Data.fields #[Value.ref 561, Value.ref 561, Value.ref 561] }),
  (563, { cls := Value.type "builtin_function_or_method", data := Data.fields #[Value.builtin "object.__init_subclass__", Value.ref 561] }),
  (565, { cls := Value.type "builtin_function_or_method", data := Data.fields #[Value.builtin "type.__prepare__", Value.type "type"] }),
  (566, { cls := Value.type "dict", data := Data.dict #[{ hash := PyData.keyHash P (Str.ofString "__module__"), key := Value.str (Str.ofString "__module__") 957, val := Value.str (Str.ofString "matchpy.expressions.expressions") 343 }, { hash := PyData.keyHash P (Str.ofString "__qualname__"), key := Value.str (Str.ofString "__qualname__") 959, val := Value.str (Str.ofString "Atom") 958 }, { hash := PyData.keyHash P (Str.ofString "__firstlineno__"), key := Value.str (Str.ofString "__firstlineno__") 961, val := Value.int 483 960 }, { hash := PyData.keyHash P (Str.ofString "__doc__"), key := Value.str (Str.ofString "__doc__") 963, val := Value.str (Str.ofString "Base for all atomic expressions.") 962 }, { hash := PyData.keyHash P (Str.ofString "__static_attributes__"), key := Value.str (Str.ofString "__static_attributes__") 965, val := Value.ref 571 }] 5 }),
  (567, { cls := Value.type "tuple", data := Data.seq #[] }),
  (568, { cls := Value.none, data := Data.fields #[] }),
  (569, { cls := Value.type "code", data := Data.fields #[Value.str (Str.ofString "Atom") 952, Value.str (Str.ofString "Atom") 953, Value.str (Str.ofString "/claim/cut.py") 954, Value.int 483 0, Value.int 0 0, Value.int 0 0, Value.int 0 0, Value.int 0 0, Value.ref 567, Value.bool false, Value.int 181 0, Value.ref 568, Value.none, Value.none, Value.none, Value.none, Value.int 955 0, Value.int 483 0, Value.str (Str.ofString "/claim/cut.py") 956] }),
  (570, { cls := Value.type "frame", slots := #[some (Value.ref 569), some (Value.ref 3), some (Value.ref 566), none, some (Value.str (Str.ofString "matchpy.expressions.expressions") 343), none, some (Value.ref 0)] }),
  (574, { cls := Value.type "super", data := Data.fields #[Value.ref 573, Value.ref 573, Value.ref 573] }),
  (575, { cls := Value.type "builtin_function_or_method", data := Data.fields #[Value.builtin "object.__init_subclass__", Value.ref 573] }),
  (577, { cls := Value.type "builtin_function_or_method", data := Data.fields #[Value.builtin "type.__prepare__", Value.type "type"] }),
  (578, { cls := Value.type "dict", data := Data.dict #[{ hash := PyData.keyHash P (Str.ofString "__module__"), key := Value.str (Str.ofString "__module__") 975, val := Value.str (Str.ofString "matchpy.expressions.expressions") 343 }, { hash := PyData.keyHash P (Str.ofString "__qualname__"), key := Value.str (Str.ofString "__qualname__") 977, val := Value.str (Str.ofString "Symbol") 976 }, { hash := PyData.keyHash P (Str.ofString "__firstlineno__"), key := Value.str (Str.ofString "__firstlineno__") 979, val := Value.int 485 978 }, { hash := PyData.keyHash P (Str.ofString "__doc__"), key := Value.str (Str.ofString "__doc__") 981, val := Value.str (docAt 11) 980 }, { hash := PyData.keyHash P (Str.ofString "__init__"), key := Value.str (Str.ofString "__init__") 993, val := Value.ref 592 }, { hash := PyData.keyHash P (Str.ofString "collect_symbols"), key := Value.str (Str.ofString "collect_symbols") 1001, val := Value.ref 599 }, { hash := PyData.keyHash P (Str.ofString "with_renamed_vars"), key := Value.str (Str.ofString "with_renamed_vars") 1009, val := Value.ref 606 }, { hash := PyData.keyHash P (Str.ofString "__copy__"), key := Value.str (Str.ofString "__copy__") 1016, val := Value.ref 613 }, { hash := PyData.keyHash P (Str.ofString "type_name"), key := Value.str (Str.ofString "type_name") 1023, val := Value.ref 620 }, { hash := PyData.keyHash P (Str.ofString "__lt__"), key := Value.str (Str.ofString "__lt__") 1031, val := Value.ref 627 }, { hash := PyData.keyHash P (Str.ofString "__eq__"), key := Value.str (Str.ofString "__eq__") 1039, val := Value.ref 634 }, { hash := PyData.keyHash P (Str.ofString "__static_attributes__"), key := Value.str (Str.ofString "__static_attributes__") 1041, val := Value.ref 635 }, { hash := PyData.keyHash P (Str.ofString "__classcell__"), key := Value.str (Str.ofString "__classcell__") 1042, val := Value.ref 579 }] 13 }),
  (580, { cls := Value.type "tuple", data := Data.seq #[] }),
  (581, { cls := Value.none, data := Data.fields #[Value.int 495 0, Value.int 4 0, Value.ref 591, Value.int 504 0, Value.int 4 0, Value.ref 598, Value.int 507 0, Value.int 4 0, Value.ref 605, Value.int 510 0, Value.int 4 0, Value.ref 612, Value.int 513 0, Value.int 4 0, Value.ref 619, Value.int 516 0, Value.int 4 0, Value.ref 626, Value.int 525 0, Value.int 4 0, Value.ref 633] }),
  (582, { cls := Value.type "code", data := Data.fields #[Value.str (Str.ofString "Symbol") 970, Value.str (Str.ofString "Symbol") 971, Value.str (Str.ofString "/claim/cut.py") 972, Value.int 485 0, Value.int 0 0, Value.int 0 0, Value.int 0 0, Value.int 0 0, Value.ref 580, Value.bool false, Value.int 181 0, Value.ref 581, Value.none, Value.none, Value.none, Value.none, Value.int 973 0, Value.int 485 0, Value.str (Str.ofString "/claim/cut.py") 974] }),
  (583, { cls := Value.type "frame", slots := #[some (Value.ref 582), some (Value.ref 3), some (Value.ref 578), none, some (Value.str (Str.ofString "matchpy.expressions.expressions") 343), none, some (Value.ref 0)] }),
  (638, { cls := Value.type "super", data := Data.fields #[Value.ref 637, Value.ref 637, Value.ref 637] }),
  (639, { cls := Value.type "builtin_function_or_method", data := Data.fields #[Value.builtin "object.__init_subclass__", Value.ref 637] }),
  (641, { cls := Value.type "builtin_function_or_method", data := Data.fields #[Value.builtin "type.__prepare__", Value.type "type"] }),
  (642, { cls := Value.type "dict", data := Data.dict #[{ hash := PyData.keyHash P (Str.ofString "__module__"), key := Value.str (Str.ofString "__module__") 1053, val := Value.str (Str.ofString "matchpy.expressions.expressions") 343 }, { hash := PyData.keyHash P (Str.ofString "__qualname__"), key := Value.str (Str.ofString "__qualname__") 1055, val := Value.str (Str.ofString "Wildcard") 1054 }, { hash := PyData.keyHash P (Str.ofString "__firstlineno__"), key := Value.str (Str.ofString "__firstlineno__") 1057, val := Value.int 529 1056 }, { hash := PyData.keyHash P (Str.ofString "__doc__"), key := Value.str (Str.ofString "__doc__") 1059, val := Value.str (docAt 12) 1058 }, { hash := PyData.keyHash P (Str.ofString "__init__"), key := Value.str (Str.ofString "__init__") 1073, val := Value.ref 656 }, { hash := PyData.keyHash P (Str.ofString "_is_constant"), key := Value.str (Str.ofString "_is_constant") 1080, val := Value.ref 663 }, { hash := PyData.keyHash P (Str.ofString "_is_syntactic"), key := Value.str (Str.ofString "_is_syntactic") 1087, val := Value.ref 670 }, { hash := PyData.keyHash P (Str.ofString "with_renamed_vars"), key := Value.str (Str.ofString "with_renamed_vars") 1095, val := Value.ref 677 }, { hash := PyData.keyHash P (Str.ofString "dot"), key := Value.str (Str.ofString "dot") 1115, val := Value.ref 687 }, { hash := PyData.keyHash P (Str.ofString "star"), key := Value.str (Str.ofString "star") 1134, val := Value.ref 698 }, { hash := PyData.keyHash P (Str.ofString "plus"), key := Value.str (Str.ofString "plus") 1154, val := Value.ref 709 }, { hash := PyData.keyHash P (Str.ofString "type_name"), key := Value.str (Str.ofString "type_name") 1161, val := Value.ref 717 }, { hash := PyData.keyHash P (Str.ofString "__lt__"), key := Value.str (Str.ofString "__lt__") 1169, val := Value.ref 724 }, { hash := PyData.keyHash P (Str.ofString "__eq__"), key := Value.str (Str.ofString "__eq__") 1177, val := Value.ref 731 }, { hash := PyData.keyHash P (Str.ofString "__copy__"), key := Value.str (Str.ofString "__copy__") 1184, val := Value.ref 738 }, { hash := PyData.keyHash P (Str.ofString "__static_attributes__"), key := Value.str (Str.ofString "__static_attributes__") 1188, val := Value.ref 739 }, { hash := PyData.keyHash P (Str.ofString "__classcell__"), key := Value.str (Str.ofString "__classcell__") 1189, val := Value.ref 643 }] 17 }),
  (644, { cls := Value.type "tuple", data := Data.seq #[] }),
  (645, { cls := Value.none, data := Data.fields #[Value.int 543 0, Value.int 4 0, Value.ref 655, Value.int 564 0, Value.int 4 0, Value.ref 662, Value.int 567 0, Value.int 4 0, Value.ref 669, Value.int 570 0, Value.int 4 0, Value.ref 676, Value.int 574 0, Value.int 4 0, Value.ref 684, Value.int 586 0, Value.int 4 0, Value.ref 695, Value.int 590 0, Value.int 4 0, Value.ref 706, Value.int 602 0, Value.int 4 0, Value.ref 716, Value.int 605 0, Value.int 4 0, Value.ref 723, Value.int 616 0, Value.int 4 0, Value.ref 730, Value.int 621 0, Value.int 4 0, Value.ref 737] }),
  (646, { cls := Value.type "code", data := Data.fields #[Value.str (Str.ofString "Wildcard") 1048, Value.str (Str.ofString "Wildcard") 1049, Value.str (Str.ofString "/claim/cut.py") 1050, Value.int 529 0, Value.int 0 0, Value.int 0 0, Value.int 0 0, Value.int 0 0, Value.ref 644, Value.bool false, Value.int 181 0, Value.ref 645, Value.none, Value.none, Value.none, Value.none, Value.int 1051 0, Value.int 529 0, Value.str (Str.ofString "/claim/cut.py") 1052] }),
  (647, { cls := Value.type "frame", slots := #[some (Value.ref 646), some (Value.ref 3), some (Value.ref 642), none, some (Value.str (Str.ofString "matchpy.expressions.expressions") 343), none, some (Value.ref 0)] }),
  (742, { cls := Value.type "super", data := Data.fields #[Value.ref 741, Value.ref 741, Value.ref 741] }),
  (743, { cls := Value.type "builtin_function_or_method", data := Data.fields #[Value.builtin "object.__init_subclass__", Value.ref 741] }),
  (744, { cls := Value.type "tuple", data := Data.seq #[] }),
  (745, { cls := Value.type "builtin_function_or_method", data := Data.fields #[Value.builtin "type.__prepare__", Value.type "type"] }),
  (746, { cls := Value.type "dict", data := Data.dict #[{ hash := PyData.keyHash P (Str.ofString "__module__"), key := Value.str (Str.ofString "__module__") 1200, val := Value.str (Str.ofString "matchpy.expressions.expressions") 343 }, { hash := PyData.keyHash P (Str.ofString "__qualname__"), key := Value.str (Str.ofString "__qualname__") 1202, val := Value.str (Str.ofString "Pattern") 1201 }, { hash := PyData.keyHash P (Str.ofString "__firstlineno__"), key := Value.str (Str.ofString "__firstlineno__") 1204, val := Value.int 623 1203 }, { hash := PyData.keyHash P (Str.ofString "__doc__"), key := Value.str (Str.ofString "__doc__") 1206, val := Value.str (docAt 13) 1205 }, { hash := PyData.keyHash P (Str.ofString "__init__"), key := Value.str (Str.ofString "__init__") 1216, val := Value.ref 757 }, { hash := PyData.keyHash P (Str.ofString "__eq__"), key := Value.str (Str.ofString "__eq__") 1224, val := Value.ref 764 }, { hash := PyData.keyHash P (Str.ofString "is_syntactic"), key := Value.str (Str.ofString "is_syntactic") 1232, val := Value.ref 772 }, { hash := PyData.keyHash P (Str.ofString "__static_attributes__"), key := Value.str (Str.ofString "__static_attributes__") 1234, val := Value.ref 773 }] 8 }),
  (747, { cls := Value.type "tuple", data := Data.seq #[] }),
  (748, { cls := Value.none, data := Data.fields #[Value.int 630 0, Value.int 4 0, Value.ref 756, Value.int 640 0, Value.int 4 0, Value.ref 763, Value.int 646 0, Value.int 4 0, Value.ref 770] }),
  (749, { cls := Value.type "code", data := Data.fields #[Value.str (Str.ofString "Pattern") 1195, Value.str (Str.ofString "Pattern") 1196, Value.str (Str.ofString "/claim/cut.py") 1197, Value.int 623 0, Value.int 0 0, Value.int 0 0, Value.int 0 0, Value.int 0 0, Value.ref 747, Value.bool false, Value.int 181 0, Value.ref 748, Value.none, Value.none, Value.none, Value.none, Value.int 1198 0, Value.int 623 0, Value.str (Str.ofString "/claim/cut.py") 1199] }),
  (750, { cls := Value.type "frame", slots := #[some (Value.ref 749), some (Value.ref 3), some (Value.ref 746), none, some (Value.str (Str.ofString "matchpy.expressions.expressions") 343), none, some (Value.ref 0)] }),
  (778, { cls := Value.type "super", data := Data.fields #[Value.ref 775, Value.ref 775, Value.ref 775] }),
  (779, { cls := Value.type "builtin_function_or_method", data := Data.fields #[Value.builtin "object.__init_subclass__", Value.ref 775] })]
def mergeF : Nat → Frag → Frag → List Obj
  | 0, _, _ => []
  | _ + 1, [], [] => []
  | n + 1, [], q :: G => q.2 :: mergeF n [] G
  | n + 1, p :: K, [] => p.2 :: mergeF n K []
  | n + 1, p :: K, q :: G => bif Nat.blt p.1 q.1 then p.2 :: mergeF n K (q :: G) else q.2 :: mergeF n (p :: K) G
def odds : List Obj → List Obj
  | [] => []
  | [a] => [a]
  | a :: _ :: r => a :: odds r
def evens : List Obj → List Obj
  | [] => []
  | [_] => []
  | _ :: b :: r => b :: evens r
def treeOf : Nat → List Obj → BT
  | 0, _ => .nil
  | _, [] => .nil
  | n + 1, o :: r => .node o (treeOf n (odds r)) (treeOf n (evens r))
def pos0 : Pos := ⟨0, 0, 0, 0⟩
def envM : Env := { scope := pA.main.scope, locals := mainNs, globals := mainNs, cells := [], code := .ref 13, frame := some 14 }
def cM : Code := .body (behindTheImports pA) envM
def stT (os : OsState) (l : List Obj) (n t : Nat) : SharedT := ⟨treeOf 12 l, n, {}, #[], {}, t, os⟩
noncomputable def ob0 (P : Params) : List Obj := mergeF 21 (Mine.xf0.heap_1 P) []
noncomputable def ob6 (P : Params) : List Obj := mergeF 196 (Mine.xf6.heap_1 P) ((gbs P).takeWhile fun q => Nat.blt q.1 190)
noncomputable def ob7 (P : Params) : List Obj := mergeF 319 (Mine.xf7.heap_1 P) ((gbs P).takeWhile fun q => Nat.blt q.1 313)
noncomputable def ob9 (P : Params) : List Obj := mergeF 426 (Mine.xf9.heap_1 P) ((gbs P).takeWhile fun q => Nat.blt q.1 420)
noncomputable def ob10 (P : Params) : List Obj := mergeF 570 (Mine.xf10.heap_1 P) ((gbs P).takeWhile fun q => Nat.blt q.1 564)
noncomputable def ob12 (P : Params) : List Obj := mergeF 646 (Mine.xf12.heap_1 P) ((gbs P).takeWhile fun q => Nat.blt q.1 640)
noncomputable def ob13 (P : Params) : List Obj := mergeF 750 (Mine.xf13.heap_1 P) ((gbs P).takeWhile fun q => Nat.blt q.1 744)
noncomputable def obN (P : Params) : List Obj := mergeF 863 (Mine.xf.heap_1 P) (gbs P)
def sts (a b : Nat) : List Stmt := ((behindTheImports pA).drop a).take b
end Mine
set_option maxRecDepth 1000000
namespace Mine
open PySem PySem.W PyProof.Rows
set_option maxHeartbeats 0
theorem piece1 (w : World) (os : OsState) : segRunT treeTable pA w 11 (some (.ref 6)) 1 1101 (stT os (ob0 w.params) 15 187) (piecesOf (sts 0 6) envM cM pos0 [topFrame pos0]) = some (.next, stT os (ob6 w.params) 190 411, cM, ⟨107, 0, 113, 25⟩) := by
  rw [PySem.W.Fast.te10110043849684766642, PySem.W.Fast.te14364793385576792824]
  kernel_rfl
theorem piece2 (w : World) (os : OsState) : segRunT treeTable pA w 11 (some (.ref 6)) 1 1142 (stT os (ob6 w.params) 190 411) (piecesOf (sts 6 1) envM cM ⟨107, 0, 113, 25⟩ [topFrame pos0]) = some (.next, stT os (ob7 w.params) 313 572, cM, ⟨114, 0, 227, 33⟩) := by
  rw [PySem.W.Fast.te10110043849684766642, PySem.W.Fast.te14364793385576792824]
  kernel_rfl
theorem piece3 (w : World) (os : OsState) : segRunT treeTable pA w 11 (some (.ref 6)) 1 1206 (stT os (ob7 w.params) 313 572) (piecesOf (sts 7 2) envM cM ⟨114, 0, 227, 33⟩ [topFrame pos0]) = some (.next, stT os (ob9 w.params) 420 745, cM, ⟨270, 0, 316, 20⟩) := by
  rw [PySem.W.Fast.te10110043849684766642, PySem.W.Fast.te14364793385576792824]
  kernel_rfl
theorem piece4 (w : World) (os : OsState) : segRunT treeTable pA w 11 (some (.ref 6)) 1 1087 (stT os (ob9 w.params) 420 745) (piecesOf (sts 9 1) envM cM ⟨270, 0, 316, 20⟩ [topFrame pos0]) = some (.next, stT os (ob10 w.params) 564 950, cM, ⟨317, 0, 482, 74⟩) := by
  rw [PySem.W.Fast.te10110043849684766642, PySem.W.Fast.te14364793385576792824]
  kernel_rfl
theorem piece5 (w : World) (os : OsState) : segRunT treeTable pA w 11 (some (.ref 6)) 1 696 (stT os (ob10 w.params) 564 950) (piecesOf (sts 10 2) envM cM ⟨317, 0, 482, 74⟩ [topFrame pos0]) = some (.next, stT os (ob12 w.params) 640 1046, cM, ⟨485, 0, 528, 84⟩) := by
  rw [PySem.W.Fast.te10110043849684766642, PySem.W.Fast.te14364793385576792824]
  kernel_rfl
theorem piece6 (w : World) (os : OsState) : segRunT treeTable pA w 11 (some (.ref 6)) 1 1008 (stT os (ob12 w.params) 640 1046) (piecesOf (sts 12 1) envM cM ⟨485, 0, 528, 84⟩ [topFrame pos0]) = some (.next, stT os (ob13 w.params) 744 1193, cM, ⟨529, 0, 622, 114⟩) := by
  rw [PySem.W.Fast.te10110043849684766642, PySem.W.Fast.te14364793385576792824]
  kernel_rfl
theorem piece7 (w : World) (os : OsState) : segRunT treeTable pA w 11 (some (.ref 6)) 1 742 (stT os (ob13 w.params) 744 1193) (piecesOf (sts 13 16) envM cM ⟨529, 0, 622, 114⟩ [topFrame pos0]) = some (.next, stT os (obN w.params) 857 1350, cM, ⟨771, 0, 799, 15⟩) := by
  rw [PySem.W.Fast.te10110043849684766642, PySem.W.Fast.te14364793385576792824]
  kernel_rfl
end Mine
set_option maxRecDepth 1000000
namespace Mine
open PySem PySem.W PyProof.Rows
set_option maxHeartbeats 0
noncomputable def hpN (P : Params) : Heap := ⟨⟨obN P⟩, {}⟩
theorem run0 (w : World) (os : OsState) : topGo treeTable pA w 11 (some (.ref 6)) 12 ⟨boot_heap w.params, #[], boot_drawn, boot_toks, os⟩ (topStub pA) = some ((stT os (ob0 w.params) 15 187).abs, ⟨denote treeTable cM, cM, pos0, [topFrame pos0]⟩) := by
  kernel_rfl
theorem runB (w : World) (os : OsState) : segRun treeTable pA w 11 (some (.ref 6)) 1 1 (stT os (ob0 w.params) 15 187).abs (blockOf (behindTheImports pA) envM cM pos0 [topFrame pos0]) = some (.next, (stT os (ob0 w.params) 15 187).abs, cM, pos0) := by
  kernel_rfl
theorem runF (w : World) (os : OsState) : topRun treeTable pA w 11 (some (.ref 6)) 2 (stT os (obN w.params) 857 1350).abs (restOf [] envM cM ⟨771, 0, 799, 15⟩ [topFrame pos0]) = some ⟨hpN w.params, #[], {}, 1350, os⟩ := by
  kernel_rfl
theorem body3 : behindTheImports pA = sts 0 6 ++ (sts 6 1 ++ (sts 7 2 ++ (sts 9 1 ++ (sts 10 2 ++ (sts 12 1 ++ (sts 13 16 ++ [])))))) := by kernel_rfl
theorem runAll (w : World) (os : OsState) : topRun treeTable pA w 11 (some (.ref 6)) (12 + (1 + (1101 + (1142 + (1206 + (1087 + (696 + (1008 + (742 + 2))))))))) ⟨boot_heap w.params, #[], boot_drawn, boot_toks, os⟩ (topStub pA) = some ⟨hpN w.params, #[], {}, 1350, os⟩ := by
  refine go_top (run0 w os) ?_
  refine piece_block (b := behindTheImports pA) (env := envM) (c := cM) (q := pos0) (runB w os) ?_
  have h := piece_app (rest := (sts 6 1 ++ (sts 7 2 ++ (sts 9 1 ++ (sts 10 2 ++ (sts 12 1 ++ (sts 13 16 ++ []))))))) (segRun_of (piece1 w os)) (piece_app (rest := (sts 7 2 ++ (sts 9 1 ++ (sts 10 2 ++ (sts 12 1 ++ (sts 13 16 ++ [])))))) (segRun_of (piece2 w os)) (piece_app (rest := (sts 9 1 ++ (sts 10 2 ++ (sts 12 1 ++ (sts 13 16 ++ []))))) (segRun_of (piece3 w os)) (piece_app (rest := (sts 10 2 ++ (sts 12 1 ++ (sts 13 16 ++ [])))) (segRun_of (piece4 w os)) (piece_app (rest := (sts 12 1 ++ (sts 13 16 ++ []))) (segRun_of (piece5 w os)) (piece_app (rest := (sts 13 16 ++ [])) (segRun_of (piece6 w os)) (piece_app (rest := []) (segRun_of (piece7 w os)) (runF w os)))))))
  rw [← body3] at h
  exact h
theorem openB (w : World) : (fencedOpening treeTable pA w 14062).map (fun s => (s.heap, s.gens, s.drawn, s.toks)) = some (boot_heap w.params, Array.mk [], boot_drawn, boot_toks) :=
  boot_open (by kernel_rfl) (by rfl) (fun s => by kernel_rfl) w
theorem sizeB (w : World) : ((boot_heap w.params).isNs mainGlobals && (#[] : Array GenState).size == 0, (boot_heap w.params).objs.size, (boot_heap w.params).nsMap mainGlobals "__annotations__") = (true, 11, some (.ref 6)) := by
  kernel_rfl
end Mine
set_option maxRecDepth 1000000
namespace Mine
open PySem PySem.W PySem.W.X PyProof.Rows
set_option maxHeartbeats 0
def keepL : List Nat := [0, 2, 4, 5, 6, 7, 8, 9, 10, 11, 12, 13, 14, 17, 19, 20, 22, 23, 24, 25, 26, 27, 28]
def qV : Program := { pA with main := { pA.main with body := keepL.filterMap fun i => pA.main.body[i]? } }
def looseL : List Str := [Str.ofString "Multiset", Str.ofString "_tuplegetter", Str.ofString "Expression", Str.ofString "Arity", Str.ofString "_OperationMeta", Str.ofString "Operation", Str.ofString "Symbol", Str.ofString "Wildcard", Str.ofString "Pattern", Str.ofString "create_operation_expression"]
noncomputable def rwM : RowW := OpenRow.toRowW PySem.Challenge.rw_bi0004_01.row
noncomputable def XtM : Shared → Bool := fun s => xlAt qV [] s && recOk (RowW.records rwM) s
noncomputable def shN (w : World) (os : OsState) : Shared := ⟨hpN w.params, #[], {}, 1350, os⟩
theorem look1 (w : World) (os : OsState) : (staticsOk (importedModules pA.main.body) (boot_heap w.params) (hpN w.params) && namesBound pA (hpN w.params) && gensDone (shN w os) && laidKept (boot_heap w.params) (hpN w.params)) = true := by
  kernel_rfl
theorem look2 (w : World) (os : OsState) : openSeen qV looseL (importedModules pA.main.body) XtM true (shN w os) = openGood qV looseL := by
  rw [PySem.W.Fast.te4187177175401517315]
  kernel_rfl
theorem leftM : LeftO pA qV looseL XtM (fun s => s.heap) (fun w => hpN w.params) 14062 true :=
  LeftO.of_pieces (H₁ := hpN) openB sizeB runAll (by kernel_rfl) fun w => funext fun os => looks_pair (look1 w os) (looks_pair (look2 w os) rfl)
end Mine
set_option maxRecDepth 1000000
namespace Mine
open PySem PySem.W PySem.W.X PySem.Calls PyProof.Rows PySem.Spec
set_option maxHeartbeats 0
/-- the law's def as the text has it -/
noncomputable def defM : Option (DefRec × List (Str × Expr)) := defOf qV (Str.ofString "law")
noncomputable def pairM : DefRec × List (Str × Expr) := defM.get (by kernel_rfl)
noncomputable def dM : DefRec := pairM.1
noncomputable def kwM : List (Str × Expr) := pairM.2
theorem hdefM : defOf qV (Str.ofString "law") = some (dM, kwM) := by kernel_rfl
theorem hpM : pA.theDef (Str.ofString "law") = some (dM.params, dM.body, dM.scope) := by kernel_rfl
theorem hkM : kwWritten? dM.params.kwonlyargs dM.params.kw_defaults = some kwM := by kernel_rfl
theorem nameM : dM.name = Str.ofString "law" := by kernel_rfl
theorem sizeM (P : Params) : (hpN P).objs.size = 857 := by kernel_rfl
def pickM : List Nat → Frag → Frag
  | [], _ => []
  | _ :: _, [] => []
  | a :: as, q :: K => bif Nat.beq a q.1 then q :: pickM as K else pickM (a :: as) K
theorem mem_pick {x : Addr × Obj} : ∀ {as : List Nat} {K : Frag}, x ∈ pickM as K → x ∈ K
  | [], _, h => by rw [pickM] at h; cases h
  | _ :: _, [], h => by rw [pickM] at h; cases h
  | a :: as, q :: K, h => by
    rw [pickM] at h
    cases z : Nat.beq a q.1 <;> rw [z] at h
    · exact List.mem_cons_of_mem _ (mem_pick h)
    · rcases List.mem_cons.mp h with h | h
      · exact h ▸ List.mem_cons_self
      · exact List.mem_cons_of_mem _ (mem_pick h)
def okM : Nat → Nat → Frag → Frag → Bool
  | 0, _, K, _ => K.isEmpty
  | _ + 1, _, [], _ => true
  | n + 1, i, p :: K, [] => Nat.beq p.1 i && okM n (i + 1) K []
  | n + 1, i, p :: K, q :: G => bif Nat.blt p.1 q.1 then Nat.beq p.1 i && okM n (i + 1) K (q :: G) else okM n (i + 1) (p :: K) G
theorem ok_get {x : Addr × Obj} : ∀ {n i : Nat} {K G : Frag}, okM n i K G = true → x ∈ K → ∃ j : Nat, @Eq Nat x.1 (i + j) ∧ (mergeF n K G)[j]? = some x.2
  | 0, _, K, _, h, m => by
    rw [okM, List.isEmpty_iff] at h
    subst h
    cases m
  | _ + 1, _, [], _, _, m => by cases m
  | n + 1, i, p :: K, [], h, m => by
    rw [okM, Bool.and_eq_true, Nat.beq_eq] at h
    rcases List.mem_cons.mp m with m | m
    · subst m
      exact ⟨0, h.1, by rw [mergeF]; rfl⟩
    · obtain ⟨j, e, g⟩ := ok_get h.2 m
      exact ⟨j + 1, by rw [e]; omega, by rw [mergeF, List.getElem?_cons_succ]; exact g⟩
  | n + 1, i, p :: K, q :: G, h, m => by
    rw [okM] at h
    rw [mergeF]
    cases z : Nat.blt p.1 q.1 <;> rw [z] at h
    · obtain ⟨j, e, g⟩ := ok_get h m
      exact ⟨j + 1, by rw [e]; omega, by rw [cond_false, List.getElem?_cons_succ]; exact g⟩
    · rw [cond_true, Bool.and_eq_true, Nat.beq_eq] at h
      rcases List.mem_cons.mp m with m | m
      · subst m
        exact ⟨0, h.1, by rw [cond_true]; rfl⟩
      · obtain ⟨j, e, g⟩ := ok_get h.2 m
        exact ⟨j + 1, by rw [e]; omega, by rw [cond_true, List.getElem?_cons_succ]; exact g⟩
theorem mem_lookup {a : Addr} {o : Obj} : ∀ {K : Frag}, K.lookup a = some o → (a, o) ∈ K
  | [], l => by cases l
  | q :: K, l => by
    rw [List.lookup_cons] at l
    split at l
    · rename_i z
      cases l
      rw [beq_iff_eq.mp z]
      exact List.mem_cons_self
    · exact List.mem_cons_of_mem _ (mem_lookup l)
theorem okP (P : Params) : okM 860 0 (Mine.xf.heap_1 P) (gbs P) = true := by kernel_rfl
theorem subM (P : Params) : Mine.frag.heap_1 P = pickM ((Mine.frag.heap_1 P).map Prod.fst) (Mine.xf.heap_1 P) := by kernel_rfl
def unfreed (o : Obj) : Bool := match o with
  | ⟨_, _, .freed, _⟩ => false
  | _ => true
theorem unfreedM (P : Params) : ((Mine.frag.heap_1 P).all fun q => unfreed q.2) = true := by kernel_rfl
theorem get_hpN {P : Params} {a : Addr} {o : Obj} (h : (obN P)[a]? = some o) (u : unfreed o = true) : (hpN P).get? a = some o := by
  have h' : (hpN P).objs[a]? = some o := by rw [hpN]; simpa using h
  rw [Heap.get?, h']
  split
  · rename_i e
    cases e
    cases u
  · rfl
theorem inM (P : Params) : (Mine.frag.heap_1 P).In (hpN P) := by
  intro a o l
  have m := mem_lookup l
  have u := List.all_eq_true.mp (unfreedM P) _ m
  rw [subM P] at m
  obtain ⟨j, e, g⟩ := ok_get (okP P) (mem_pick m)
  have z : a = j := by rw [Nat.zero_add] at e; exact e
  rw [z]
  exact get_hpN g u
theorem tabM (P : Params) : (hpN P).get? 474 = some { cls := .none, data := .fields #[] } := by kernel_rfl
theorem no474 (P : Params) : (Mine.frag.heap_1 P).lookup 474 = none := by kernel_rfl
theorem bltM (P : Params) : nsIn (Mine.frag.heap_1 P) mainGlobals (Str.ofString "__builtins__") = some (some (.ref 4)) := by kernel_rfl
theorem lawM (P : Params) : nsIn (Mine.frag.heap_1 P) mainGlobals (Str.ofString "law") = some (some (.ref 856)) := by kernel_rfl
end Mine
local macro_rules | `(tactic| k_in) => `(tactic| first | with_reducible assumption | exact PySem.W.Frag.In.keeps (by with_reducible assumption) (PyProof.Rows.Fr.keep (by with_reducible assumption)))
local macro_rules | `(tactic| walk_at "eval Name") => `(tactic| (k_here; (fail_if_success k_inBlock); k_dflt (first
  | (refine' PySem.W.nameX_L ?F ?v ?_ ?a ?b; (case b => kernel_rfl); (case a => kernel_rfl); (case F => k_asm); (case v => rfl); k_whole)
  | (refine' PySem.W.nameX_K ?F ?X ?T ?e ?_ ?a ?b; (case b => kernel_rfl); (case a => kernel_rfl); (case F => k_asm); (case X => k_asm); (case T => k_asm); (case e => k_is); k_whole)
  | (refine' PySem.W.nameX_B ?F ?X ?T ?e ?v ?n ?_ ?a ?b; (case b => kernel_rfl); (case a => kernel_rfl); (case F => k_asm); (case X => k_asm); (case T => k_asm); (case e => k_is); (case v => first | boot_by_name | boot_fast); (case n => decide); k_whole))))
local macro_rules | `(tactic| walk_at "ite") => `(tactic| (k_closed; k_dflt (first | refine PySem.W.ite_pos (by decide +kernel) ?_ | refine PySem.W.ite_neg (by decide +kernel) ?_)))
local macro_rules | `(tactic| walk_at "exec If") => `(tactic| refine PySem.wpAny_If ?_)
local macro_rules | `(tactic| walk_at "getAttr ref") => `(tactic| (k_here; k_dflt (refine' PySem.W.get_own ?k1 ?k2 ?k3 ?k4 ?k5 ?k6 ?k7 ?k8 ?k9 ?_; (case k1 => k_asm); (case k2 => k_asm); (case k3 => k_inst); (case k4 => k_is); (case k5 => k_is); (case k6 => k_is); (case k7 => k_is); (case k8 => k_get); (case k9 => k_handed); k_whole)))
local macro_rules | `(tactic| walk_at "callWith ref") => `(tactic| (k_here; k_dflt (refine' PySem.W.callWith_K ?k1 ?k2 ?_; (case k1 => k_asm); (case k2 => k_is); k_whole)))
local macro_rules | `(tactic| walk_at "call builtin:isinstance") => `(tactic| (k_here; (with_reducible show PySem.wpAny _ _ (PySem.call _ [PySem.Value.ref _, PySem.Value.ref _]) _ _ _); (fail_if_success kit_ncls); k_dflt (first
  | (refine' PySem.W.isi_call ?k1 ?k2 ?k3 ?k4 ?_; (case k1 => k_in); (case k2 => k_types); (case k3 => k_is); (case k4 => intro e; cases e); k_whole)
  | (refine' PySem.W.kin_callC ?k1 ?k2 ?k3 ?k4 ?k5 ?k6 ?k7 ?k8 ?k9 ?_; (case k1 => k_in); (case k2 => k_inst); (case k3 => kin_no); (case k4 => k_is); (case k5 => k_is); (case k6 => k_is); (case k7 => k_is); (case k8 => k_is); (case k9 => k_is); k_whole))))
local macro_rules | `(tactic| walk_at "binaryOp FloorDiv int int") => `(tactic| (with_reducible refine PyProof.Rows.floordiv_int (by first | decide | omega | assumption) ?_))
namespace Mine
open PySem
/-- the five letters: three symbols, two variables -/
inductive Leaf where
  | a | b | c | x | y
  deriving DecidableEq, Repr
def Leaf.isVar : Leaf → Bool
  | .x => true
  | .y => true
  | _ => false
def Leaf.nm : Leaf → Str
  | .a => "a"
  | .b => "b"
  | .c => "c"
  | .x => "x"
  | .y => "y"
def Leaf.rk : Leaf → Nat
  | .a => 1
  | .b => 2
  | .c => 3
  | .x => 5
  | .y => 6
/-- an expression: a letter, or a sum (true) or product (false) of expressions -/
inductive Ex where
  | leaf (l : Leaf)
  | op (k : Bool) (es : List Ex)
def opRk (k : Bool) : Nat := if k then 0 else 4
mutual
def Ex.ht : Ex → Nat
  | .leaf _ => 0
  | .op _ es => htL es + 1
def htL : List Ex → Nat
  | [] => 0
  | e :: r => max e.ht (htL r)
end
mutual
def Ex.cmp : Ex → Ex → Ordering
  | .leaf l, .leaf m => compare l.rk m.rk
  | .leaf l, .op k _ => compare l.rk (opRk k)
  | .op k _, .leaf m => compare (opRk k) m.rk
  | .op k es, .op k' fs => (compare (opRk k) (opRk k')).then ((compare es.length fs.length).then (cmpL es fs))
def cmpL : List Ex → List Ex → Ordering
  | e :: es, f :: fs => (e.cmp f).then (cmpL es fs)
  | [], [] => .eq
  | [], _ :: _ => .lt
  | _ :: _, [] => .gt
end
def Ex.lt (e f : Ex) : Bool := e.cmp f == .lt

theorem natcmp_swap (a b : Nat) : (compare a b).swap = compare b a := by
  rw [Nat.compare_swap]
theorem natcmp_eq {a b : Nat} (h : compare a b = .eq) : a = b := Nat.compare_eq_eq.mp h

theorem then_swap (a b : Ordering) : (a.then b).swap = a.swap.then b.swap := by cases a <;> rfl

mutual
theorem cmp_swap : ∀ e f : Ex, (e.cmp f).swap = f.cmp e
  | .leaf l, .leaf m => by simp only [Ex.cmp]; exact natcmp_swap _ _
  | .leaf l, .op k _ => by simp only [Ex.cmp]; exact natcmp_swap _ _
  | .op k _, .leaf m => by simp only [Ex.cmp]; exact natcmp_swap _ _
  | .op k es, .op k' fs => by
    simp only [Ex.cmp, then_swap, natcmp_swap]
    rw [cmpL_swap es fs]
theorem cmpL_swap : ∀ es fs : List Ex, (cmpL es fs).swap = cmpL fs es
  | e :: es, f :: fs => by simp only [cmpL, then_swap]; rw [cmp_swap e f, cmpL_swap es fs]
  | [], [] => rfl
  | [], _ :: _ => rfl
  | _ :: _, [] => rfl
end

theorem rk_inj (l m : Leaf) (h : l.rk = m.rk) : l = m := by cases l <;> cases m <;> first | rfl | (exact absurd h (by decide))
theorem rk_ne_op (l : Leaf) (k : Bool) : l.rk ≠ opRk k := by cases l <;> cases k <;> decide
theorem opRk_inj (k k' : Bool) (h : opRk k = opRk k') : k = k' := by cases k <;> cases k' <;> first | rfl | (exact absurd h (by decide))
theorem then_eq {a b : Ordering} (h : a.then b = .eq) : a = .eq ∧ b = .eq := by cases a <;> simp_all [Ordering.then]
mutual
theorem cmp_eq : ∀ e f : Ex, e.cmp f = .eq → e = f
  | .leaf l, .leaf m => by
    intro h; simp only [Ex.cmp] at h; rw [rk_inj _ _ (natcmp_eq h)]
  | .leaf l, .op k _ => by intro h; simp only [Ex.cmp] at h; exact absurd (natcmp_eq h) (rk_ne_op l k)
  | .op k _, .leaf m => by intro h; simp only [Ex.cmp] at h; exact absurd (natcmp_eq h).symm (rk_ne_op m k)
  | .op k es, .op k' fs => by
    intro h
    simp only [Ex.cmp] at h
    obtain ⟨h1, h2⟩ := then_eq h
    obtain ⟨_, h3⟩ := then_eq h2
    rw [opRk_inj _ _ (natcmp_eq h1), cmpL_eq es fs h3]
theorem cmpL_eq : ∀ es fs : List Ex, cmpL es fs = .eq → es = fs
  | e :: es, f :: fs => by
    intro h
    simp only [cmpL] at h
    obtain ⟨h1, h2⟩ := then_eq h
    rw [cmp_eq e f h1, cmpL_eq es fs h2]
  | [], [] => fun _ => rfl
  | [], _ :: _ => by intro h; simp [cmpL] at h
  | _ :: _, [] => by intro h; simp [cmpL] at h
end
mutual
theorem cmp_refl : ∀ e : Ex, e.cmp e = .eq
  | .leaf l => by simp only [Ex.cmp]; exact Nat.compare_eq_eq.mpr rfl
  | .op k es => by
    simp only [Ex.cmp]
    rw [Nat.compare_eq_eq.mpr rfl, Nat.compare_eq_eq.mpr rfl, cmpL_refl es]; rfl
theorem cmpL_refl : ∀ es : List Ex, cmpL es es = .eq
  | [] => rfl
  | e :: es => by simp only [cmpL]; rw [cmp_refl e, cmpL_refl es]; rfl
end

theorem natcmp_lt {a b : Nat} : compare a b = .lt ↔ a < b := Nat.compare_eq_lt
theorem then_lt {a b : Ordering} : a.then b = .lt ↔ a = .lt ∨ (a = .eq ∧ b = .lt) := by cases a <;> simp [Ordering.then]
theorem natcmp_eq' {a b : Nat} : compare a b = .eq ↔ a = b := Nat.compare_eq_eq
mutual
theorem cmp_trans : ∀ e f g : Ex, e.cmp f = .lt → f.cmp g = .lt → e.cmp g = .lt
  | .leaf l, .leaf m, .leaf n => by simp only [Ex.cmp, natcmp_lt]; omega
  | .leaf l, .leaf m, .op _ _ => by simp only [Ex.cmp, natcmp_lt]; omega
  | .leaf l, .op _ _, .leaf n => by simp only [Ex.cmp, natcmp_lt]; omega
  | .leaf l, .op k es, .op k' fs => by simp only [Ex.cmp, natcmp_lt, then_lt, natcmp_eq']; omega
  | .op _ _, .leaf m, .leaf n => by simp only [Ex.cmp, natcmp_lt]; omega
  | .op _ _, .leaf m, .op _ _ => by simp only [Ex.cmp, natcmp_lt, then_lt, natcmp_eq']; omega
  | .op _ _, .op _ _, .leaf n => by simp only [Ex.cmp, natcmp_lt, then_lt, natcmp_eq']; omega
  | .op k es, .op k' fs, .op k'' gs => by
    simp only [Ex.cmp, natcmp_lt, then_lt, natcmp_eq']
    have ih := cmpL_trans es fs gs
    rintro (h | ⟨h, h1 | ⟨h1, h2⟩⟩) (q | ⟨q, q1 | ⟨q1, q2⟩⟩)
    all_goals first
      | (left; omega)
      | (right; refine ⟨by omega, ?_⟩; first | (left; omega) | (right; exact ⟨by omega, ih h2 q2⟩))
theorem cmpL_trans : ∀ es fs gs : List Ex, cmpL es fs = .lt → cmpL fs gs = .lt → cmpL es gs = .lt
  | e :: es, f :: fs, g :: gs => by
    simp only [cmpL, then_lt]
    have ih := cmpL_trans es fs gs
    have ih1 := cmp_trans e f g
    rintro (h | ⟨h, h1⟩) (q | ⟨q, q1⟩)
    · exact .inl (ih1 h q)
    · rw [← cmp_eq _ _ q]; exact .inl h
    · rw [cmp_eq _ _ h]; exact .inl q
    · rw [cmp_eq _ _ h, ← cmp_eq _ _ q]; exact .inr ⟨cmp_refl _, ih h1 q1⟩
  | [], [], _ => by intro h; simp [cmpL] at h
  | [], _ :: _, [] => by intro _ h; simp [cmpL] at h
  | [], _ :: _, _ :: _ => by intros; rfl
  | _ :: _, [], _ => by intro h; simp [cmpL] at h
  | _ :: _, _ :: _, [] => by intro _ h; simp [cmpL] at h
end
theorem lt_ops (k : Bool) (es fs : List Ex) : (Ex.op k es).lt (.op k fs) = if es.length = fs.length then cmpL es fs == .lt else decide (es.length < fs.length) := by
  unfold Ex.lt
  rw [Ex.cmp, natcmp_eq'.mpr rfl]
  show ((compare es.length fs.length).then (cmpL es fs) == .lt) = _
  rcases Nat.lt_trichotomy es.length fs.length with h | h | h
  · rw [natcmp_lt.mpr h, if_neg (by omega), decide_eq_true h]; rfl
  · rw [natcmp_eq'.mpr h, if_pos h]; rfl
  · rw [Nat.compare_eq_gt.mpr h, if_neg (by omega), decide_eq_false (by omega)]; rfl
theorem lt_kinds {k k' : Bool} (es fs : List Ex) (h : k ≠ k') : (Ex.op k es).lt (.op k' fs) = k := by
  cases k <;> cases k' <;> first | exact absurd rfl h | rfl
theorem cmpL_drop {es fs : List Ex} {i : Nat} {e f : Ex} (he : es[i]? = some e) (hf : fs[i]? = some f) : cmpL (es.drop i) (fs.drop i) = (e.cmp f).then (cmpL (es.drop (i + 1)) (fs.drop (i + 1))) := by
  obtain ⟨h1, rfl⟩ := List.getElem?_eq_some_iff.mp he
  obtain ⟨h2, rfl⟩ := List.getElem?_eq_some_iff.mp hf
  rw [List.drop_eq_getElem_cons h1, List.drop_eq_getElem_cons h2, cmpL]
theorem cmp_of_lt {e f : Ex} (h : e.lt f = true) : e.cmp f = .lt := by unfold Ex.lt at h; simpa using h
theorem cmp_of_gt {e f : Ex} (h : f.lt e = true) : e.cmp f = .gt := by rw [← cmp_swap, cmp_of_lt h]; rfl
theorem cmp_of_not {e f : Ex} (h : e.lt f = false) (q : f.lt e = false) : e.cmp f = .eq := by
  unfold Ex.lt at h q
  rw [← cmp_swap e f] at q
  cases hc : e.cmp f with
  | eq => rfl
  | lt => rw [hc] at h; cases h
  | gt => rw [hc] at q; cases q
/-- not above -/
def Ex.le (e f : Ex) : Prop := f.lt e = false
theorem le_iff (e f : Ex) : e.le f ↔ (e.cmp f = .lt ∨ e = f) := by
  unfold Ex.le Ex.lt
  rw [← cmp_swap e f]
  constructor
  · intro h
    cases hc : e.cmp f with
    | lt => exact .inl rfl
    | eq => exact .inr (cmp_eq _ _ hc)
    | gt => rw [hc] at h; simp [Ordering.swap] at h
  · rintro (h | h)
    · rw [h]; rfl
    · rw [h, cmp_refl]; rfl
theorem le_trans {e f g : Ex} (h : e.le f) (q : f.le g) : e.le g := by
  rw [le_iff] at h q ⊢
  rcases h with h | rfl
  · rcases q with q | rfl
    · exact .inl (cmp_trans _ _ _ h q)
    · exact .inl h
  · exact q
theorem le_antisymm {e f : Ex} (h : e.le f) (q : f.le e) : e = f := by
  rw [le_iff] at h q
  rcases h with h | rfl
  · rcases q with q | rfl
    · have := cmp_trans _ _ _ h q; rw [cmp_refl] at this; cases this
    · rfl
  · rfl
theorem le_of_lt {e f : Ex} (h : e.lt f = true) : e.le f := by
  rw [le_iff]; unfold Ex.lt at h; exact .inl (by simpa using h)
theorem le_refl (e : Ex) : e.le e := (le_iff e e).mpr (.inr rfl)
/-- sorted, as _sort leaves it -/
def Sorted (es : List Ex) : Prop := es.Pairwise Ex.le
theorem sorted_unique {es fs : List Ex} (h : Sorted es) (q : Sorted fs) (p : es.Perm fs) : es = fs :=
  List.Perm.eq_of_pairwise (fun _ _ _ _ => le_antisymm) h q p
end Mine
namespace Mine
open PySem
section
variable {α : Type}
/-- the row amid an insertion: the place k holds what is to go over -/
def amid (pre rest : List α) (y : α) (k : Nat) : List α := pre.take k ++ y :: (pre.drop k ++ rest)
theorem amid_start (pre rest : List α) (x : α) : pre ++ x :: rest = amid pre rest x pre.length := by simp [amid]
theorem amid_length (pre rest : List α) (y : α) {k : Nat} (h : k ≤ pre.length) : (amid pre rest y k).length = pre.length + rest.length + 1 := by
  simp only [amid, List.length_append, List.length_cons, List.length_take, List.length_drop]; omega
theorem amid_set (pre rest : List α) (y z : α) {k : Nat} (h : k ≤ pre.length) : (amid pre rest y k).set k z = amid pre rest z k := by
  unfold amid
  have : (pre.take k).length = k := by simp; omega
  rw [List.set_append_right _ _ (by omega), this, Nat.sub_self, List.set_cons_zero]
theorem amid_step (pre rest : List α) {j : Nat} (h : j < pre.length) : amid pre rest pre[j] (j + 1) = amid pre rest pre[j] j := by
  unfold amid
  have e1 : pre.take (j + 1) = pre.take j ++ [pre[j]] := List.take_succ_eq_append_getElem h
  have e2 : pre.drop j = pre[j] :: pre.drop (j + 1) := List.drop_eq_getElem_cons h
  rw [e1, e2, List.append_assoc]
  rfl
theorem amid_get (pre rest : List α) (y : α) {j : Nat} (h : j < pre.length) : (amid pre rest y (j + 1))[j]? = some pre[j] := by
  unfold amid
  have : (pre.take (j + 1)).length = j + 1 := by simp; omega
  rw [List.getElem?_append_left (by omega), List.getElem?_take_of_lt (by omega), List.getElem?_eq_getElem h]
theorem amid_perm (pre rest : List α) (x : α) (k : Nat) : (amid pre rest x k).Perm (pre ++ x :: rest) := by
  unfold amid
  have h1 : (pre.take k ++ x :: (pre.drop k ++ rest)).Perm (x :: (pre.take k ++ (pre.drop k ++ rest))) := List.perm_middle
  have h2 : (pre ++ x :: rest).Perm (x :: (pre ++ rest)) := List.perm_middle
  rw [← List.append_assoc, List.take_append_drop] at h1
  exact h1.trans h2.symm
end
theorem amid_sorted {β : Type} {pre : List (β × Ex)} {x : β × Ex} {k : Nat} (hs : Sorted (pre.map (·.2))) (hk : k ≤ pre.length) (h1 : ∀ q ∈ pre.drop k, x.2.lt q.2 = true)
    (h2 : k = 0 ∨ ∃ h : k - 1 < pre.length, x.2.lt pre[k - 1].2 = false) : Sorted ((pre.take k ++ x :: pre.drop k).map (·.2)) := by
  unfold Sorted at hs ⊢
  rw [List.pairwise_map] at hs ⊢
  have hs' := hs
  rw [← List.take_append_drop k pre, List.pairwise_append] at hs'
  obtain ⟨p1, p2, p3⟩ := hs'
  rw [List.pairwise_append]
  refine ⟨p1, List.pairwise_cons.mpr ⟨fun q hq => le_of_lt (h1 q hq), p2⟩, fun a ha b hb => ?_⟩
  rcases List.mem_cons.mp hb with rfl | hb
  · rcases h2 with rfl | ⟨h, hn⟩
    · simp at ha
    · have hl : pre[k - 1].2.le b.2 := hn
      obtain ⟨i, hi, rfl⟩ := List.getElem_of_mem ha
      have hi' : i < k := by simp at hi; omega
      rw [List.getElem_take]
      by_cases e : i = k - 1
      · subst e; exact hl
      · exact le_trans (List.pairwise_iff_getElem.mp hs i (k - 1) (by omega) h (by omega)) hl
  · exact p3 a ha b hb
end Mine
namespace Mine
/-- what an operand gives to an operation of a kind -/
def fl (k : Bool) : Ex → List Ex
  | .op k' es => if k' = k then es else [.op k' es]
  | e => [e]
def flat (k : Bool) (es : List Ex) : List Ex := es.flatMap (fl k)
theorem flat_append (k : Bool) (es fs : List Ex) : flat k (es ++ fs) = flat k es ++ flat k fs := by simp [flat]
theorem flat_cons (k : Bool) (e : Ex) (es : List Ex) : flat k (e :: es) = fl k e ++ flat k es := by simp [flat]
theorem flat_perm {k : Bool} {es fs : List Ex} (h : es.Perm fs) : (flat k es).Perm (flat k fs) := h.flatMap_right _
theorem flat_take_succ (k : Bool) {es : List Ex} {i : Nat} {e : Ex} (h : es[i]? = some e) : flat k (es.take (i + 1)) = flat k (es.take i) ++ fl k e := by
  obtain ⟨hi, rfl⟩ := List.getElem?_eq_some_iff.mp h
  rw [List.take_succ_eq_append_getElem hi, flat_append]
  simp [flat]
theorem flat_take_len (k : Bool) (es : List Ex) (i : Nat) : (flat k (es.take i)).length ≤ (flat k es).length := by
  have h := congrArg List.length (congrArg (flat k) (List.take_append_drop i es))
  rw [flat_append, List.length_append] at h
  omega
theorem ht_mem {e : Ex} : ∀ {es : List Ex}, e ∈ es → e.ht ≤ htL es
  | f :: r, h => by
    rw [htL]
    rcases List.mem_cons.mp h with rfl | h
    · exact Nat.le_max_left _ _
    · exact Nat.le_trans (ht_mem h) (Nat.le_max_right _ _)
theorem flat_ht {k : Bool} {es : List Ex} {N : Nat} (h : ∀ e ∈ es, e.ht < N) {f : Ex} (hf : f ∈ flat k es) : f.ht < N := by
  unfold flat at hf
  obtain ⟨e, he, hf⟩ := List.mem_flatMap.mp hf
  cases e with
  | leaf l => rw [List.mem_singleton.mp hf]; exact h _ he
  | op k' fs =>
    by_cases hk : k' = k
    · have e : fl k (.op k' fs) = fs := by simp [fl, hk]
      rw [e] at hf
      have h1 := ht_mem hf
      have h2 := h _ he
      rw [Ex.ht] at h2
      omega
    · have e : fl k (.op k' fs) = [.op k' fs] := by simp [fl, hk]
      rw [e] at hf
      rw [List.mem_singleton.mp hf]; exact h _ he
end Mine
namespace Mine
open PySem
def leB (a b : Ex) : Bool := !(b.lt a)
/-- sorted -/
def srt (l : List Ex) : List Ex := l.mergeSort leB
theorem srt_perm (l : List Ex) : (srt l).Perm l := List.mergeSort_perm l leB
theorem leB_iff (a b : Ex) : leB a b = true ↔ a.le b := by unfold leB Ex.le; simp
theorem le_total (a b : Ex) : a.le b ∨ b.le a := by
  rw [le_iff, le_iff]
  have h := cmp_swap a b
  cases hc : a.cmp b with
  | lt => exact .inl (.inl rfl)
  | eq => exact .inl (.inr (cmp_eq _ _ hc))
  | gt => rw [hc] at h; exact .inr (.inl h.symm)
theorem srt_sorted (l : List Ex) : Sorted (srt l) := by
  have h := List.pairwise_mergeSort (le := leB) (fun a b c h1 h2 => (leB_iff _ _).mpr (le_trans ((leB_iff _ _).mp h1) ((leB_iff _ _).mp h2))) (fun a b => by
    rcases le_total a b with h | h
    · rw [(leB_iff _ _).mpr h]; rfl
    · rw [(leB_iff _ _).mpr h]; simp) l
  exact h.imp fun h => (leB_iff _ _).mp h
theorem srt_unique {es l : List Ex} (p : es.Perm l) (h : Sorted es) : es = srt l := sorted_unique h (srt_sorted l) (p.trans (srt_perm l).symm)
theorem srt_congr {l l' : List Ex} (p : l.Perm l') : srt l = srt l' := srt_unique ((srt_perm l).trans p) (srt_sorted l)
/-- an operation of a kind, made of operands -/
def mk (k : Bool) (l : List Ex) : Ex := .op k (srt (flat k l))
theorem mk_of {k : Bool} {es l : List Ex} (p : es.Perm (flat k l)) (h : Sorted es) : Ex.op k es = mk k l := by unfold mk; rw [srt_unique p h]
theorem mk_congr {k : Bool} {l l' : List Ex} (p : (flat k l).Perm (flat k l')) : mk k l = mk k l' := by unfold mk; rw [srt_congr p]
theorem mk_perm {k : Bool} {l l' : List Ex} (p : l.Perm l') : mk k l = mk k l' := mk_congr (flat_perm p)
theorem fl_mk (k : Bool) (l : List Ex) : fl k (mk k l) = srt (flat k l) := by simp [fl, mk]
theorem flat_mk (k : Bool) (l m : List Ex) : (flat k (mk k l :: m)).Perm (flat k (l ++ m)) := by
  rw [flat_cons, fl_mk, flat_append]
  exact (srt_perm _).append_right _
theorem mk_mk (k : Bool) (l m : List Ex) : mk k (mk k l :: m) = mk k (l ++ m) := mk_congr (flat_mk k l m)
theorem mk_ht {k : Bool} {l : List Ex} {N : Nat} (h : ∀ e ∈ l, e.ht < N) (hN : 0 < N) : (mk k l).ht < N + 1 := by
  have hL : ∀ es : List Ex, (∀ e ∈ es, e.ht < N) → htL es < N := by
    intro es
    induction es with
    | nil => intro _; simpa [htL] using hN
    | cons e es ih =>
      intro h
      rw [htL]
      exact Nat.max_lt.mpr ⟨h e (.head _), ih fun x hx => h x (.tail _ hx)⟩
  unfold mk
  rw [Ex.ht]
  have := hL (srt (flat k l)) fun e he => flat_ht h ((srt_perm _).mem_iff.mp he)
  omega
def joinE (k : Bool) : List Ex → Ex
  | [e] => e
  | l => mk k l
end Mine
namespace Mine
open PySem
mutual
/-- holds a variable -/
def hv : Ex → Bool
  | .leaf l => l.isVar
  | .op _ es => hvL es
def hvL : List Ex → Bool
  | [] => false
  | e :: r => hv e || hvL r
end
mutual
/-- what stands for an expression behind the substitution -/
def sb (σ : Leaf → List Ex) : Ex → List Ex
  | .leaf l => if l.isVar then σ l else [.leaf l]
  | .op k es => if hvL es then [mk k (sbL σ es)] else [.op k es]
def sbL (σ : Leaf → List Ex) : List Ex → List Ex
  | [] => []
  | e :: r => sb σ e ++ sbL σ r
end
theorem sbL_flat (σ : Leaf → List Ex) : ∀ es : List Ex, sbL σ es = es.flatMap (sb σ)
  | [] => rfl
  | e :: r => by rw [sbL, sbL_flat σ r, List.flatMap_cons]
theorem hvL_any : ∀ es : List Ex, hvL es = es.any hv
  | [] => rfl
  | e :: r => by rw [hvL, hvL_any r, List.any_cons]
theorem sbL_take (σ : Leaf → List Ex) {es : List Ex} {i : Nat} {e : Ex} (h : es[i]? = some e) : sbL σ (es.take (i + 1)) = sbL σ (es.take i) ++ sb σ e := by
  obtain ⟨hi, rfl⟩ := List.getElem?_eq_some_iff.mp h
  rw [sbL_flat, sbL_flat, List.take_succ_eq_append_getElem hi, List.flatMap_append]
  simp
theorem hvL_take {es : List Ex} {i : Nat} {e : Ex} (h : es[i]? = some e) : hvL (es.take (i + 1)) = (hvL (es.take i) || hv e) := by
  obtain ⟨hi, rfl⟩ := List.getElem?_eq_some_iff.mp h
  rw [hvL_any, hvL_any, List.take_succ_eq_append_getElem hi, List.any_append]
  simp
theorem sbL_take_len (σ : Leaf → List Ex) (es : List Ex) (i : Nat) : (sbL σ (es.take i)).length ≤ (sbL σ es).length := by
  have h := congrArg List.length (congrArg (sbL σ) (List.take_append_drop i es))
  rw [sbL_flat, List.flatMap_append, List.length_append, ← sbL_flat, ← sbL_flat] at h
  omega
/-- what the walk through a substitution asks of the sizes -/
inductive OkS (σ : Leaf → List Ex) (N : Nat) : Ex → Prop
  | leaf (l : Leaf) : OkS σ N (.leaf l)
  | op (k : Bool) (es : List Ex) (h : ∀ e ∈ es, OkS σ N e) (h8 : (sbL σ es).length ≤ 8) (h2 : 2 ≤ (sbL σ es).length) (hf : (flat k (sbL σ es)).length ≤ 1000) (hf2 : 2 ≤ (flat k (sbL σ es)).length) (hN : ∀ e ∈ sbL σ es, e.ht < N) : OkS σ N (.op k es)
end Mine
namespace Mine
open PySem
/-- a tree, as the law writes an expression down -/
inductive Tr where
  | str (l : Leaf)
  | node (k : Bool) (ts : List Tr)
def Leaf.ch : Leaf → Nat
  | .a => 97
  | .b => 98
  | .c => 99
  | .x => 120
  | .y => 121
def kch (k : Bool) : Nat := if k then 43 else 42
theorem ch_inj {l m : Leaf} (h : l.ch = m.ch) : l = m := by cases l <;> cases m <;> first | rfl | exact absurd h (by decide)
theorem ch_ne (l : Leaf) : l.ch ≠ 40 := by cases l <;> decide
theorem kch_inj {k k' : Bool} (h : kch k = kch k') : k = k' := by cases k <;> cases k' <;> first | rfl | exact absurd h (by decide)
mutual
def Tr.txt : Tr → List Nat
  | .str l => [l.ch]
  | .node k ts => 40 :: kch k :: txtL ts
def txtL : List Tr → List Nat
  | [] => [41]
  | t :: r => 32 :: (t.txt ++ txtL r)
end
mutual
theorem txt_inj : ∀ (t t' : Tr) (r r' : List Nat), t.txt ++ r = t'.txt ++ r' → t = t' ∧ r = r'
  | .str l, .str m, r, r', h => by
    simp only [Tr.txt, List.cons_append, List.nil_append, List.cons.injEq] at h
    exact ⟨by rw [ch_inj h.1], h.2⟩
  | .str l, .node k ts, r, r', h => by
    simp only [Tr.txt, List.cons_append, List.nil_append, List.cons.injEq] at h
    exact absurd h.1 (ch_ne l)
  | .node k ts, .str l, r, r', h => by
    simp only [Tr.txt, List.cons_append, List.nil_append, List.cons.injEq] at h
    exact absurd h.1.symm (ch_ne l)
  | .node k ts, .node k' ts', r, r', h => by
    simp only [Tr.txt, List.cons_append, List.cons.injEq, true_and] at h
    obtain ⟨h3, h4⟩ := txtL_inj ts ts' r r' h.2
    exact ⟨by rw [kch_inj h.1, h3], h4⟩
theorem txtL_inj : ∀ (ts ts' : List Tr) (r r' : List Nat), txtL ts ++ r = txtL ts' ++ r' → ts = ts' ∧ r = r'
  | [], [], r, r', h => by
    simp only [txtL, List.cons_append, List.nil_append, List.cons.injEq, true_and] at h
    exact ⟨rfl, h⟩
  | [], t :: ts, r, r', h => by simp [txtL] at h
  | t :: ts, [], r, r', h => by simp [txtL] at h
  | t :: ts, t' :: ts', r, r', h => by
    simp only [txtL, List.cons_append, List.cons.injEq, true_and, List.append_assoc] at h
    obtain ⟨h1, h2⟩ := txt_inj t t' _ _ h
    obtain ⟨h3, h4⟩ := txtL_inj ts ts' r r' h2
    exact ⟨by rw [h1, h3], h4⟩
end
theorem txt_eq {t t' : Tr} (h : t.txt = t'.txt) : t = t' := (txt_inj t t' [] [] (by rw [h])).1
/-- sorted by the text -/
def TSorted (l : List Tr) : Prop := l.Pairwise fun a b => ¬ b.txt < a.txt
def leT (a b : Tr) : Bool := decide (¬ b.txt < a.txt)
def srtT (l : List Tr) : List Tr := l.mergeSort leT
theorem srtT_perm (l : List Tr) : (srtT l).Perm l := List.mergeSort_perm l leT
theorem leT_iff (a b : Tr) : leT a b = true ↔ ¬ b.txt < a.txt := by unfold leT; simp
theorem srtT_sorted (l : List Tr) : TSorted (srtT l) := by
  have h := List.pairwise_mergeSort (le := leT) (fun a b c h1 h2 => by
    rw [leT_iff] at h1 h2 ⊢
    exact List.not_lt.mpr (List.le_trans (List.not_lt.mp h1) (List.not_lt.mp h2))) (fun a b => by
    rcases List.le_total a.txt b.txt with h | h
    · rw [(leT_iff a b).mpr (List.not_lt.mpr h)]; rfl
    · rw [(leT_iff b a).mpr (List.not_lt.mpr h)]; simp) l
  exact h.imp fun h => (leT_iff _ _).mp h
theorem tsorted_unique {es fs : List Tr} (h : TSorted es) (q : TSorted fs) (p : es.Perm fs) : es = fs :=
  List.Perm.eq_of_pairwise (fun _ _ _ _ h1 h2 => txt_eq (List.le_antisymm (List.not_lt.mp h1) (List.not_lt.mp h2))) h q p
theorem srtT_unique {es l : List Tr} (p : es.Perm l) (h : TSorted es) : es = srtT l := tsorted_unique h (srtT_sorted l) (p.trans (srtT_perm l).symm)
theorem srtT_congr {l l' : List Tr} (p : l.Perm l') : srtT l = srtT l' := srtT_unique ((srtT_perm l).trans p) (srtT_sorted l)
mutual
/-- the tree of an expression -/
def pl : Ex → Tr
  | .leaf l => .str l
  | .op k es => .node k (srtT (plL es))
def plL : List Ex → List Tr
  | [] => []
  | e :: r => pl e :: plL r
end
theorem plL_map : ∀ es : List Ex, plL es = es.map pl
  | [] => rfl
  | e :: r => by rw [plL, plL_map r, List.map_cons]
def flT (k : Bool) : Tr → List Tr
  | .node k' ts => if k' = k then ts else [.node k' ts]
  | t => [t]
def flatT (k : Bool) (ts : List Tr) : List Tr := ts.flatMap (flT k)
def oneT (k : Bool) : List Tr → Tr
  | [t] => t
  | l => .node k (srtT l)
/-- what _law_joined gives -/
def joinT (k : Bool) (ts : List Tr) : Tr := oneT k (flatT k ts)
theorem oneT_two {k : Bool} {l : List Tr} (h : 2 ≤ l.length) : oneT k l = .node k (srtT l) := by
  match l, h with
  | _ :: _ :: _, _ => rfl
theorem flT_pl (k : Bool) (e : Ex) : (flT k (pl e)).Perm ((fl k e).map pl) := by
  cases e with
  | leaf l => exact .refl _
  | op k' es =>
    by_cases h : k' = k
    · have e1 : flT k (pl (.op k' es)) = srtT (plL es) := by simp [pl, flT, h]
      have e2 : fl k (.op k' es) = es := by simp [fl, h]
      rw [e1, e2, plL_map]
      exact srtT_perm _
    · have e1 : flT k (pl (.op k' es)) = [pl (.op k' es)] := by simp [pl, flT, h]
      have e2 : fl k (.op k' es) = [.op k' es] := by simp [fl, h]
      rw [e1, e2]
      exact .refl _
theorem flatT_pl (k : Bool) : ∀ l : List Ex, (flatT k (l.map pl)).Perm ((flat k l).map pl)
  | [] => .refl _
  | e :: r => by
    have ih := flatT_pl k r
    rw [flat_cons, List.map_append]
    show (flT k (pl e) ++ flatT k (r.map pl)).Perm _
    exact (flT_pl k e).append ih
theorem pl_mk (k : Bool) (l : List Ex) : pl (mk k l) = .node k (srtT ((flat k l).map pl)) := by
  unfold mk
  rw [pl, plL_map]
  rw [srtT_congr ((srt_perm (flat k l)).map pl)]
theorem joinT_mk {k : Bool} {l : List Ex} (h : 2 ≤ (flat k l).length) : joinT k (l.map pl) = pl (mk k l) := by
  unfold joinT
  have p := flatT_pl k l
  rw [oneT_two (by rw [p.length_eq, List.length_map]; exact h), pl_mk, srtT_congr p]
mutual
/-- what _law_built makes -/
def bt : Tr → Ex
  | .str l => .leaf l
  | .node k ts => btN k ts
def btN (k : Bool) : List Tr → Ex
  | [] => .op k []
  | t :: ts => btL k (bt t) ts
def btL (k : Bool) (acc : Ex) : List Tr → Ex
  | [] => acc
  | t :: ts => btL k (mk k [acc, bt t]) ts
end
theorem btL_eq (k : Bool) : ∀ (ts : List Tr) (acc : Ex), ts ≠ [] → btL k acc ts = mk k (acc :: ts.map bt)
  | [], _, h => absurd rfl h
  | [t], acc, _ => by rw [btL, btL]; rfl
  | t :: u :: r, acc, _ => by
    rw [btL, btL_eq k (u :: r) _ (by simp), mk_mk]
    rfl
theorem btL_snoc (k : Bool) : ∀ (ts : List Tr) (acc : Ex) (t : Tr), btL k acc (ts ++ [t]) = mk k [btL k acc ts, bt t]
  | [], acc, t => by rw [List.nil_append, btL, btL, btL]
  | u :: r, acc, t => by rw [List.cons_append, btL, btL, btL_snoc k r]
/-- in the form that the library keeps -/
inductive Nrm : Ex → Prop
  | leaf (l : Leaf) : Nrm (.leaf l)
  | op (k : Bool) (es : List Ex) (h2 : 2 ≤ es.length) (hs : Sorted es) (hn : ∀ e ∈ es, Nrm e) (hf : ∀ e ∈ es, fl k e = [e]) : Nrm (.op k es)
theorem Nrm.fl_pos {e : Ex} (h : Nrm e) (k : Bool) : 1 ≤ (fl k e).length := by
  cases h with
  | leaf l => exact Nat.le_refl _
  | op k' es h2 _ _ _ =>
    by_cases h : k' = k
    · have e2 : fl k (.op k' es) = es := by simp [fl, h]
      rw [e2]; omega
    · have e2 : fl k (.op k' es) = [.op k' es] := by simp [fl, h]
      rw [e2]; exact Nat.le_refl _
theorem flat_len {k : Bool} : ∀ {l : List Ex}, (∀ e ∈ l, 1 ≤ (fl k e).length) → l.length ≤ (flat k l).length
  | [], _ => Nat.zero_le _
  | e :: r, h => by
    have ih := flat_len (k := k) (l := r) fun x hx => h x (.tail _ hx)
    have h1 := h e (.head _)
    rw [flat_cons, List.length_append, List.length_cons]
    omega
theorem Nrm.fl_mem {e f : Ex} {k : Bool} (h : Nrm e) (hf : f ∈ fl k e) : Nrm f ∧ fl k f = [f] := by
  cases h with
  | leaf l => rw [List.mem_singleton.mp hf]; exact ⟨.leaf l, rfl⟩
  | op k' es h2 hs hn hq =>
    by_cases h : k' = k
    · have e2 : fl k (.op k' es) = es := by simp [fl, h]
      rw [e2] at hf
      subst h
      exact ⟨hn f hf, hq f hf⟩
    · have e2 : fl k (.op k' es) = [.op k' es] := by simp [fl, h]
      rw [e2] at hf
      rw [List.mem_singleton.mp hf]
      exact ⟨.op k' es h2 hs hn hq, e2⟩
theorem nrm_mk {k : Bool} {l : List Ex} (h : ∀ e ∈ l, Nrm e) (h2 : 2 ≤ (flat k l).length) : Nrm (mk k l) := by
  have hm : ∀ f ∈ srt (flat k l), Nrm f ∧ fl k f = [f] := fun f hf => by
    obtain ⟨e, he, hf⟩ := List.mem_flatMap.mp ((srt_perm _).mem_iff.mp hf)
    exact (h e he).fl_mem hf
  exact .op k _ (by rw [(srt_perm _).length_eq]; exact h2) (srt_sorted _) (fun e he => (hm e he).1) (fun e he => (hm e he).2)
theorem flat_self {k : Bool} : ∀ {l : List Ex}, (∀ e ∈ l, fl k e = [e]) → flat k l = l
  | [], _ => rfl
  | e :: r, h => by rw [flat_cons, h e (.head _), flat_self fun x hx => h x (.tail _ hx)]; rfl
theorem mk_self {k : Bool} {es : List Ex} (hs : Sorted es) (hf : ∀ e ∈ es, fl k e = [e]) : mk k es = .op k es := by
  unfold mk
  rw [flat_self hf, ← srt_unique (.refl _) hs]
theorem btN_two {k : Bool} {ts : List Tr} (h : 2 ≤ ts.length) : btN k ts = mk k (ts.map bt) := by
  match ts, h with
  | t :: u :: r, _ => rw [btN, btL_eq k (u :: r) _ (by simp)]; rfl
theorem bt_pl {e : Ex} (h : Nrm e) : bt (pl e) = e := by
  induction h with
  | leaf l => simp [pl, bt]
  | op k es h2 hs hn hf ih =>
    rw [pl, bt, plL_map, btN_two (by rw [(srtT_perm _).length_eq, List.length_map]; exact h2), mk_perm ((srtT_perm (es.map pl)).map bt), List.map_map]
    have e1 : es.map (bt ∘ pl) = es := by
      rw [List.map_congr_left (f := bt ∘ pl) (g := id) (fun e he => ih e he), List.map_id]
    rw [e1, mk_self hs hf]
mutual
def cnt : Ex → Nat
  | .leaf _ => 1
  | .op _ es => cntL es
def cntL : List Ex → Nat
  | [] => 0
  | e :: r => cnt e + cntL r
end
theorem cntL_sum : ∀ es : List Ex, cntL es = (es.map cnt).sum
  | [] => rfl
  | e :: r => by rw [cntL, cntL_sum r, List.map_cons, List.sum_cons]
theorem cntL_append (es fs : List Ex) : cntL (es ++ fs) = cntL es + cntL fs := by
  rw [cntL_sum, cntL_sum, cntL_sum, List.map_append, List.sum_append]
theorem cntL_perm {es fs : List Ex} (p : es.Perm fs) : cntL es = cntL fs := by
  induction p with
  | nil => rfl
  | cons x _ ih => rw [cntL, cntL, ih]
  | swap x y l => rw [cntL, cntL, cntL, cntL]; omega
  | trans _ _ h1 h2 => exact h1.trans h2
theorem cntL_fl (k : Bool) (e : Ex) : cntL (fl k e) = cnt e := by
  cases e with
  | leaf l => simp [fl, cntL, cnt]
  | op k' es =>
    by_cases h : k' = k
    · have e2 : fl k (.op k' es) = es := by simp [fl, h]
      rw [e2, cnt]
    · have e2 : fl k (.op k' es) = [.op k' es] := by simp [fl, h]
      rw [e2, cntL, cntL, Nat.add_zero]
theorem cntL_flat (k : Bool) : ∀ l : List Ex, cntL (flat k l) = cntL l
  | [] => rfl
  | e :: r => by rw [flat_cons, cntL_append, cntL_flat k r, cntL_fl, cntL]
theorem cnt_mk (k : Bool) (l : List Ex) : cnt (mk k l) = cntL l := by
  unfold mk
  rw [cnt, cntL_perm (srt_perm _), cntL_flat]
theorem cnt_joinE (k : Bool) (l : List Ex) : cnt (joinE k l) = cntL l := by
  match l with
  | [] => rw [joinE, cnt_mk]; simp
  | [e] => rw [joinE, cntL, cntL, Nat.add_zero]
  | e :: f :: r => rw [joinE, cnt_mk]; simp
end Mine
namespace Mine
open PySem
def prodE (term : List Leaf) : Ex := joinE false (term.map .leaf)
def sumE (terms : List (List Leaf)) : Ex := joinE true (terms.map prodE)
/-- what stands for a letter -/
def sg (σ : Leaf → List Ex) (l : Leaf) : List Ex := if l.isVar then σ l else [.leaf l]
def termE (σ : Leaf → List Ex) (term : List Leaf) : List Ex := if term.length = 1 then term.flatMap (sg σ) else [mk false (term.flatMap (sg σ))]
def anewE (σ : Leaf → List Ex) (terms : List (List Leaf)) : List Ex := terms.flatMap (termE σ)
def termT (σ : Leaf → List Ex) (term : List Leaf) : List Tr := if term.length = 1 then term.flatMap (fun l => (sg σ l).map pl) else [joinT false (term.flatMap fun l => (sg σ l).map pl)]
def anewT (σ : Leaf → List Ex) (terms : List (List Leaf)) : List Tr := terms.flatMap (termT σ)
def dueT (terms : List (List Leaf)) : Tr := joinT true (terms.map fun term => joinT false (term.map .str))
/-- a value for a variable -/
def GoodV (es : List Ex) : Prop := 1 ≤ es.length ∧ es.length ≤ 2 ∧ ∀ e ∈ es, Nrm e ∧ e.ht ≤ 1 ∧ cnt e ≤ 2
theorem joinE_two {k : Bool} {l : List Ex} (h : l.length ≠ 1) : joinE k l = mk k l := by
  match l, h with
  | [], _ => rfl
  | [_], h => exact absurd rfl h
  | _ :: _ :: _, _ => rfl
theorem fl_leaf (k : Bool) (l : Leaf) : fl k (.leaf l) = [.leaf l] := rfl
theorem flat_leafs (k : Bool) (term : List Leaf) : flat k (term.map .leaf) = term.map .leaf := flat_self fun e he => by
  obtain ⟨l, _, rfl⟩ := List.mem_map.mp he
  rfl
theorem prodE_one {term : List Leaf} (h : term.length = 1) : ∃ l, term = [l] ∧ prodE term = .leaf l := by
  match term, h with
  | [l], _ => exact ⟨l, rfl, rfl⟩
theorem prodE_two {term : List Leaf} (h : term.length ≠ 1) : prodE term = .op false (srt (term.map .leaf)) := by
  unfold prodE
  rw [joinE_two (by rw [List.length_map]; exact h)]
  unfold mk
  rw [flat_leafs]
theorem fl_prodE (term : List Leaf) : fl true (prodE term) = [prodE term] := by
  by_cases h : term.length = 1
  · obtain ⟨l, _, e⟩ := prodE_one h; rw [e]; rfl
  · rw [prodE_two h]; rfl
theorem flat_prods (terms : List (List Leaf)) : flat true (terms.map prodE) = terms.map prodE := flat_self fun e he => by
  obtain ⟨l, _, rfl⟩ := List.mem_map.mp he
  exact fl_prodE l
theorem sumE_eq {terms : List (List Leaf)} (h : 2 ≤ terms.length) : sumE terms = .op true (srt (terms.map prodE)) := by
  unfold sumE
  rw [joinE_two (by rw [List.length_map]; omega)]
  unfold mk
  rw [flat_prods]
theorem sb_leaf (σ : Leaf → List Ex) (l : Leaf) : sb σ (.leaf l) = sg σ l := by rw [sb]; rfl
theorem sbL_leafs (σ : Leaf → List Ex) (term : List Leaf) : sbL σ (term.map .leaf) = term.flatMap (sg σ) := by
  rw [sbL_flat, List.flatMap_map]
  exact congrArg (fun f => List.flatMap f term) (funext fun l => sb_leaf σ l)
theorem sbL_perm (σ : Leaf → List Ex) {es fs : List Ex} (p : es.Perm fs) : (sbL σ es).Perm (sbL σ fs) := by
  rw [sbL_flat, sbL_flat]; exact p.flatMap_right _
theorem hvL_perm {es fs : List Ex} (p : es.Perm fs) : hvL es = hvL fs := by
  rw [hvL_any, hvL_any]
  apply Bool.eq_iff_iff.mpr
  rw [List.any_eq_true, List.any_eq_true]
  exact ⟨fun ⟨x, h, q⟩ => ⟨x, p.mem_iff.mp h, q⟩, fun ⟨x, h, q⟩ => ⟨x, p.mem_iff.mpr h, q⟩⟩
mutual
theorem sb_plain (σ : Leaf → List Ex) : ∀ e : Ex, hv e = false → sb σ e = [e]
  | .leaf l, h => by rw [hv] at h; rw [sb, h]; rfl
  | .op k es, h => by rw [hv] at h; rw [sb, h]; rfl
theorem sbL_plain (σ : Leaf → List Ex) : ∀ es : List Ex, hvL es = false → sbL σ es = es
  | [], _ => rfl
  | e :: r, h => by
    rw [hvL, Bool.or_eq_false_iff] at h
    rw [sbL, sb_plain σ e h.1, sbL_plain σ r h.2]; rfl
end
theorem sb_op (σ : Leaf → List Ex) {k : Bool} {es l : List Ex} (p : es.Perm l) (he : Ex.op k es = mk k es) : sb σ (.op k es) = [mk k (sbL σ l)] := by
  rw [sb]
  cases h : hvL es with
  | true =>
    rw [if_pos rfl, mk_perm (sbL_perm σ p)]
  | false =>
    rw [if_neg (by simp), ← mk_perm (sbL_perm σ p), sbL_plain σ es h, ← he]
theorem sb_prod (σ : Leaf → List Ex) (term : List Leaf) : sb σ (prodE term) = termE σ term := by
  unfold termE
  by_cases h : term.length = 1
  · obtain ⟨l, rfl, e⟩ := prodE_one h
    rw [e, sb_leaf, if_pos h, List.flatMap_singleton]
  · rw [if_neg h, prodE_two h, sb_op σ (srt_perm _), sbL_leafs]
    exact (mk_self (srt_sorted _) fun e he => by
      obtain ⟨l, _, rfl⟩ := List.mem_map.mp ((srt_perm _).mem_iff.mp he)
      rfl).symm
theorem sbL_prods (σ : Leaf → List Ex) (terms : List (List Leaf)) : sbL σ (terms.map prodE) = anewE σ terms := by
  rw [sbL_flat, List.flatMap_map]
  exact congrArg (fun f => List.flatMap f terms) (funext fun l => sb_prod σ l)
theorem fl_sumE {terms : List (List Leaf)} : ∀ e ∈ srt (terms.map prodE), fl true e = [e] := fun e he => by
  obtain ⟨l, _, rfl⟩ := List.mem_map.mp ((srt_perm _).mem_iff.mp he)
  exact fl_prodE l
/-- what the substitution gives -/
theorem sb_sum (σ : Leaf → List Ex) {terms : List (List Leaf)} (h : 2 ≤ terms.length) : sb σ (sumE terms) = [mk true (anewE σ terms)] := by
  rw [sumE_eq h, sb_op σ (srt_perm _) (mk_self (srt_sorted _) fl_sumE).symm, sbL_prods]
theorem flatMap_pl (σ : Leaf → List Ex) (term : List Leaf) : (term.flatMap (sg σ)).map pl = term.flatMap fun l => (sg σ l).map pl := by
  rw [List.map_flatMap]
section
variable {σ : Leaf → List Ex} (hσ : ∀ l, l.isVar = true → GoodV (σ l))
include hσ
theorem sg_good (l : Leaf) : GoodV (sg σ l) := by
  unfold sg
  cases h : l.isVar with
  | true => exact hσ l h
  | false => exact ⟨Nat.le_refl _, Nat.le_succ _, fun e he => by rw [List.mem_singleton.mp he]; exact ⟨.leaf l, by rw [Ex.ht]; omega, by rw [cnt]; omega⟩⟩
theorem sg_len (term : List Leaf) : term.length ≤ (term.flatMap (sg σ)).length ∧ (term.flatMap (sg σ)).length ≤ 2 * term.length := by
  induction term with
  | nil => simp
  | cons l r ih =>
    have h := sg_good hσ l
    unfold GoodV at h
    rw [List.flatMap_cons, List.length_append, List.length_cons]
    omega
theorem sg_mem {term : List Leaf} {e : Ex} (h : e ∈ term.flatMap (sg σ)) : Nrm e ∧ e.ht ≤ 1 ∧ cnt e ≤ 2 := by
  obtain ⟨l, _, hl⟩ := List.mem_flatMap.mp h
  exact (sg_good hσ l).2.2 e hl
theorem sg_flat {term : List Leaf} (k : Bool) : term.length ≤ (flat k (term.flatMap (sg σ))).length :=
  Nat.le_trans (sg_len hσ term).1 (flat_len fun _ he => (sg_mem hσ he).1.fl_pos k)
theorem termE_pl {term : List Leaf} (h : 1 ≤ term.length) : (termE σ term).map pl = termT σ term := by
  unfold termE termT
  by_cases h1 : term.length = 1
  · rw [if_pos h1, if_pos h1, flatMap_pl]
  · rw [if_neg h1, if_neg h1, ← flatMap_pl, joinT_mk (Nat.le_trans (by omega) (sg_flat hσ false))]
    rfl
theorem anewE_pl {terms : List (List Leaf)} (h : ∀ t ∈ terms, 1 ≤ t.length) : (anewE σ terms).map pl = anewT σ terms := by
  unfold anewE anewT
  rw [List.map_flatMap]
  induction terms with
  | nil => rfl
  | cons t r ih =>
    rw [List.flatMap_cons, List.flatMap_cons, termE_pl hσ (h t (.head _)), ih fun x hx => h x (.tail _ hx)]
theorem termE_len {term : List Leaf} (h : 1 ≤ term.length) : 1 ≤ (termE σ term).length ∧ (termE σ term).length ≤ 2 := by
  unfold termE
  by_cases h1 : term.length = 1
  · rw [if_pos h1]
    have := sg_len hσ term
    omega
  · rw [if_neg h1]; exact ⟨Nat.le_refl _, Nat.le_succ _⟩
theorem anewE_len {terms : List (List Leaf)} (h : ∀ t ∈ terms, 1 ≤ t.length) : terms.length ≤ (anewE σ terms).length ∧ (anewE σ terms).length ≤ 2 * terms.length := by
  unfold anewE
  induction terms with
  | nil => simp
  | cons t r ih =>
    have h1 := termE_len hσ (h t (.head _))
    have h2 := ih fun x hx => h x (.tail _ hx)
    rw [List.flatMap_cons, List.length_append, List.length_cons]
    omega
theorem mkS_ht {term : List Leaf} : (mk false (term.flatMap (sg σ))).ht ≤ 2 := by
  have := mk_ht (k := false) (l := term.flatMap (sg σ)) (N := 2) (fun e he => by have := (sg_mem hσ he).2.1; omega) (by decide)
  omega
theorem termE_mem {term : List Leaf} (h : 1 ≤ term.length) {e : Ex} (he : e ∈ termE σ term) : Nrm e ∧ e.ht ≤ 2 := by
  unfold termE at he
  by_cases h1 : term.length = 1
  · rw [if_pos h1] at he
    have := sg_mem hσ he
    exact ⟨this.1, by omega⟩
  · rw [if_neg h1] at he
    rw [List.mem_singleton.mp he]
    exact ⟨nrm_mk (fun e he => (sg_mem hσ he).1) (Nat.le_trans (by omega) (sg_flat hσ false)), mkS_ht hσ⟩
theorem anewE_mem {terms : List (List Leaf)} (h : ∀ t ∈ terms, 1 ≤ t.length) {e : Ex} (he : e ∈ anewE σ terms) : Nrm e ∧ e.ht ≤ 2 := by
  obtain ⟨t, ht, he⟩ := List.mem_flatMap.mp he
  exact termE_mem hσ (h t ht) he
theorem anewE_flat {terms : List (List Leaf)} (h : ∀ t ∈ terms, 1 ≤ t.length) (k : Bool) : terms.length ≤ (flat k (anewE σ terms)).length :=
  Nat.le_trans (anewE_len hσ h).1 (flat_len fun _ he => (anewE_mem hσ h he).1.fl_pos k)
theorem told_pl {terms : List (List Leaf)} (h2 : 2 ≤ terms.length) (h : ∀ t ∈ terms, 1 ≤ t.length) : pl (mk true (anewE σ terms)) = joinT true (anewT σ terms) := by
  rw [← anewE_pl hσ h, joinT_mk (Nat.le_trans h2 (anewE_flat hσ h true))]
theorem told_nrm {terms : List (List Leaf)} (h2 : 2 ≤ terms.length) (h : ∀ t ∈ terms, 1 ≤ t.length) : Nrm (mk true (anewE σ terms)) :=
  nrm_mk (fun _ he => (anewE_mem hσ h he).1) (Nat.le_trans h2 (anewE_flat hσ h true))
theorem told_bt {terms : List (List Leaf)} (h2 : 2 ≤ terms.length) (h : ∀ t ∈ terms, 1 ≤ t.length) : bt (joinT true (anewT σ terms)) = mk true (anewE σ terms) := by
  rw [← told_pl hσ h2 h, bt_pl (told_nrm hσ h2 h)]
theorem told_ht {terms : List (List Leaf)} (h : ∀ t ∈ terms, 1 ≤ t.length) : (mk true (anewE σ terms)).ht ≤ 3 := by
  have := mk_ht (k := true) (l := anewE σ terms) (N := 3) (fun e he => by have := (anewE_mem hσ h he).2; omega) (by decide)
  omega
end
theorem prodE_nrm {term : List Leaf} (h : 1 ≤ term.length) : Nrm (prodE term) := by
  by_cases h1 : term.length = 1
  · obtain ⟨l, _, e⟩ := prodE_one h1; rw [e]; exact .leaf l
  · unfold prodE
    rw [joinE_two (by rw [List.length_map]; exact h1)]
    exact nrm_mk (fun e he => by obtain ⟨l, _, rfl⟩ := List.mem_map.mp he; exact .leaf l) (by rw [flat_leafs, List.length_map]; omega)
theorem prodE_ht {term : List Leaf} : (prodE term).ht ≤ 1 := by
  by_cases h1 : term.length = 1
  · obtain ⟨l, _, e⟩ := prodE_one h1; rw [e, Ex.ht]; omega
  · unfold prodE
    rw [joinE_two (by rw [List.length_map]; exact h1)]
    have := mk_ht (k := false) (l := term.map .leaf) (N := 1) (fun e he => by obtain ⟨l, _, rfl⟩ := List.mem_map.mp he; rw [Ex.ht]; omega) (by decide)
    omega
theorem sumE_ht {terms : List (List Leaf)} (h2 : 2 ≤ terms.length) : (sumE terms).ht ≤ 2 := by
  unfold sumE
  rw [joinE_two (by rw [List.length_map]; omega)]
  have := mk_ht (k := true) (l := terms.map prodE) (N := 2) (fun e he => by obtain ⟨l, _, rfl⟩ := List.mem_map.mp he; have := @prodE_ht l; omega) (by decide)
  omega
theorem sumE_nrm {terms : List (List Leaf)} (h2 : 2 ≤ terms.length) (h : ∀ t ∈ terms, 1 ≤ t.length) : Nrm (sumE terms) := by
  unfold sumE
  rw [joinE_two (by rw [List.length_map]; omega)]
  exact nrm_mk (fun e he => by obtain ⟨l, hl, rfl⟩ := List.mem_map.mp he; exact prodE_nrm (h l hl)) (by rw [flat_prods, List.length_map]; exact h2)
theorem prod_pl {term : List Leaf} (h : 1 ≤ term.length) : pl (prodE term) = joinT false (term.map .str) := by
  by_cases h1 : term.length = 1
  · obtain ⟨l, rfl, e⟩ := prodE_one h1; rw [e]; rfl
  · unfold prodE
    rw [joinE_two (by rw [List.length_map]; exact h1), ← joinT_mk (by rw [flat_leafs, List.length_map]; omega), List.map_map]
    have e1 : term.map (pl ∘ Ex.leaf) = term.map Tr.str := List.map_congr_left fun l _ => by simp [pl]
    rw [e1]
theorem sum_pl {terms : List (List Leaf)} (h2 : 2 ≤ terms.length) (h : ∀ t ∈ terms, 1 ≤ t.length) : pl (sumE terms) = dueT terms := by
  unfold sumE dueT
  rw [joinE_two (by rw [List.length_map]; omega), ← joinT_mk (by rw [flat_prods, List.length_map]; exact h2), List.map_map]
  have e1 : terms.map (pl ∘ prodE) = terms.map fun term => joinT false (term.map .str) := List.map_congr_left fun t ht => prod_pl (h t ht)
  rw [e1]
theorem cntL_leafs : ∀ term : List Leaf, cntL (term.map .leaf) = term.length
  | [] => rfl
  | l :: r => by rw [List.map_cons, cntL, cnt, cntL_leafs r, List.length_cons]; omega
theorem cnt_prod (term : List Leaf) : cnt (prodE term) = term.length := by unfold prodE; rw [cnt_joinE, cntL_leafs]
theorem cnt_sum (terms : List (List Leaf)) : cnt (sumE terms) = (terms.map List.length).sum := by
  unfold sumE
  rw [cnt_joinE, cntL_sum, List.map_map]
  exact congrArg List.sum (List.map_congr_left fun t _ => cnt_prod t)
/-- another product in the place of one makes another sum -/
theorem sum_more (t : List Leaf) (r : List (List Leaf)) (l : Leaf) : sumE (r ++ [t ++ [l]]) ≠ sumE (t :: r) := fun h => by
  have := congrArg cnt h
  rw [cnt_sum, cnt_sum] at this
  simp at this
  omega
theorem Nrm.cnt_pos {e : Ex} (h : Nrm e) : 1 ≤ cnt e := by
  induction h with
  | leaf l => rw [cnt]; omega
  | op k es h2 hs hn hf ih =>
    rw [cnt]
    match es, h2, ih with
    | e :: r, _, ih =>
      have := ih e (.head _)
      rw [cntL]; omega
theorem len_cnt : ∀ {l : List Ex}, (∀ e ∈ l, Nrm e) → l.length ≤ cntL l
  | [], _ => Nat.zero_le _
  | e :: r, h => by
    have a := (h e (.head _)).cnt_pos
    have b := len_cnt (l := r) fun x hx => h x (.tail _ hx)
    rw [cntL, List.length_cons]; omega
theorem flat_cnt {k : Bool} {l : List Ex} (h : ∀ e ∈ l, Nrm e) : (flat k l).length ≤ cntL l := by
  rw [← cntL_flat k l]
  refine len_cnt fun f hf => ?_
  obtain ⟨e, he, hf⟩ := List.mem_flatMap.mp hf
  exact ((h e he).fl_mem hf).1
theorem cntL_le {n : Nat} : ∀ {l : List Ex}, (∀ e ∈ l, cnt e ≤ n) → cntL l ≤ n * l.length
  | [], _ => Nat.zero_le _
  | e :: r, h => by
    have a := h e (.head _)
    have b := cntL_le (l := r) fun x hx => h x (.tail _ hx)
    rw [cntL, List.length_cons, Nat.mul_succ]; omega
theorem sg_cnt {σ : Leaf → List Ex} (hσ : ∀ l, l.isVar = true → GoodV (σ l)) (t : List Leaf) : cntL (t.flatMap (sg σ)) ≤ 4 * t.length := by
  have a := cntL_le (n := 2) fun e he => (sg_mem hσ (term := t) he).2.2
  have b := sg_len hσ t
  omega
theorem termE_cnt {σ : Leaf → List Ex} (hσ : ∀ l, l.isVar = true → GoodV (σ l)) (t : List Leaf) : cntL (termE σ t) ≤ 4 * t.length := by
  have a := sg_cnt hσ t
  unfold termE
  by_cases h1 : t.length = 1
  · rw [if_pos h1]; exact a
  · rw [if_neg h1, cntL, cntL, cnt_mk]; exact a
theorem anewE_cnt {σ : Leaf → List Ex} (hσ : ∀ l, l.isVar = true → GoodV (σ l)) {terms : List (List Leaf)} (h : ∀ t ∈ terms, 1 ≤ t.length ∧ t.length ≤ 3) : cntL (anewE σ terms) ≤ 12 * terms.length := by
  unfold anewE
  induction terms with
  | nil => simp [cntL]
  | cons t r ih =>
    have a := termE_cnt hσ t
    have b := ih fun x hx => h x (.tail _ hx)
    have c := h t (.head _)
    rw [List.flatMap_cons, cntL_append, List.length_cons]
    omega
theorem okS_sum {σ : Leaf → List Ex} (hσ : ∀ l, l.isVar = true → GoodV (σ l)) {terms : List (List Leaf)} (h2 : 2 ≤ terms.length) (h3 : terms.length ≤ 3) (h : ∀ t ∈ terms, 1 ≤ t.length ∧ t.length ≤ 3) : OkS σ 3 (sumE terms) := by
  have h1 : ∀ t ∈ terms, 1 ≤ t.length := fun t ht => (h t ht).1
  have pS := sbL_perm σ (srt_perm (terms.map prodE))
  rw [sbL_prods] at pS
  have fS := flat_perm (k := true) pS
  have l1 := anewE_len hσ h1
  rw [sumE_eq h2]
  refine .op true _ (fun e he => ?_) (by rw [pS.length_eq]; omega) (by rw [pS.length_eq]; omega) ?_ (by rw [fS.length_eq]; exact Nat.le_trans h2 (anewE_flat hσ h1 true)) (fun e he => by have := (anewE_mem hσ h1 (pS.mem_iff.mp he)).2; omega)
  · obtain ⟨t, ht, rfl⟩ := List.mem_map.mp ((srt_perm _).mem_iff.mp he)
    have b := h t ht
    by_cases h1 : t.length = 1
    · obtain ⟨l, _, e⟩ := prodE_one h1; rw [e]; exact .leaf l
    · rw [prodE_two h1]
      have pT := sbL_perm σ (srt_perm (t.map .leaf))
      rw [sbL_leafs] at pT
      have fT := flat_perm (k := false) pT
      have l2 := sg_len hσ t
      refine .op false _ (fun e he => ?_) (by rw [pT.length_eq]; omega) (by rw [pT.length_eq]; omega) ?_ (by rw [fT.length_eq]; exact Nat.le_trans (by omega) (sg_flat hσ false)) (fun e he => by have := (sg_mem hσ (pT.mem_iff.mp he)).2.1; omega)
      · obtain ⟨l, _, rfl⟩ := List.mem_map.mp ((srt_perm _).mem_iff.mp he)
        exact .leaf l
      · rw [fT.length_eq]
        have := flat_cnt (k := false) fun e he => (sg_mem hσ (term := t) he).1
        have := sg_cnt hσ t
        omega
  · rw [fS.length_eq]
    have a := flat_cnt (k := true) fun e he => (anewE_mem hσ h1 he).1
    have b := anewE_cnt hσ h
    omega
end Mine
set_option maxRecDepth 100000
set_option maxHeartbeats 4000000
namespace Mine
open PySem PySem.W PySem.Calls PyProof.Rows PySem.Spec
/-- sorted by texts: what comes out -/
def OutS (kz : List Str) (vs out : List Value) : Prop :=
  ∃ ps : List (Str × Value), ps.Perm (kz.zip vs) ∧ out = ps.map Prod.snd ∧ ps.Pairwise (fun p q => ¬ q.1.cps.toList < p.1.cps.toList)
def EndS (h₀ : Heap) (L : Addr) (m : Str → Option Value) (need : List (Addr × Obj)) (k : Str) (s₁ : Shared) (v : Value) (s₂ : Shared) : Prop :=
  ∃ h' tk t', s₂ = { s₁ with heap := h', toks := tk } ∧ v = .str k t' ∧ Fr h₀ L h' m ∧ News h₀ L h' need
theorem skSnoc {n : Str} {t : Tok} : ∀ {vs : List Value} {ns : List Str}, StrsAre vs ns → StrsAre (vs ++ [.str n t]) (ns ++ [n])
  | _, _, .nil => .cons n t .nil
  | _, _, .cons n' t' h => .cons n' t' (skSnoc h)
theorem skOut {keys : Array Value} {vs : List Value} {kz : List Str} (hk : StrsAre keys.toList kz) {xs : Array Keyed} (hp : xs.Perm (keys.zip vs.toArray)) (hs : SortedToK strKind xs xs.size) :
    OutS kz vs (xs.map (·.2)).toList := by
  have hl : xs.toList.Perm (keys.toList.zip vs) := by rw [← ksk_zip]; exact Array.perm_iff_toList_perm.mp hp
  have hmem : ∀ p ∈ xs.toList, ∃ x t, p.1 = .str x t := fun p hp => hk.all _ (List.of_mem_zip (hl.mem_iff.mp hp)).1
  refine ⟨xs.toList.map (fun p : Keyed => (strOf p.1, p.2)), ?_, ?_, ?_⟩
  · have e2 : (keys.toList.zip vs).map (fun p : Keyed => (strOf p.1, p.2)) = kz.zip vs := by
      rw [← hk.strs, List.zip_map_left]
      exact List.map_congr_left fun ⟨x, y⟩ _ => rfl
    rw [← e2]
    exact hl.map _
  · rw [Array.toList_map, List.map_map]; rfl
  · rw [List.pairwise_iff_getElem]
    intro i j hi hj hij
    have hi' : i < xs.size := by simpa using hi
    have hj' : j < xs.size := by simpa using hj
    have h1 := hs i j (Nat.le_of_lt hij) hj'
    obtain ⟨x, t, ex⟩ := hmem xs[i] (by simp)
    obtain ⟨y, u, ey⟩ := hmem xs[j] (by simp)
    rw [KK_str hi' (x := x) (t := t) (q := xs[i].2) (Prod.ext ex rfl), KK_str hj' (x := y) (t := u) (q := xs[j].2) (Prod.ext ey rfl)] at h1
    change decide (y.cps.toList < x.cps.toList) = false at h1
    simp only [List.getElem_map, Array.getElem_toList]
    rw [show strOf xs[i].1 = x by rw [ex]; rfl, show strOf xs[j].1 = y by rw [ey]; rfl]
    simpa using h1
theorem skLen {vs : List Value} {ss : List Str} (h : StrsAre vs ss) : vs.length = ss.length := by
  have := congrArg List.length h.strs
  rwa [List.length_map] at this
section
variable {prog : Program} {w : World} {A : Around} {E : Value → Shared → Prop} {s : Shared} {h₀ : Heap} {L : Addr} {m : Str → Option Value} {news : List (Addr × Obj)} {a kS : Addr} {vs : List Value} {kz : List Str} {keys : Array Value} {e e1 : Nat} {P : PySem.Fin → Shared → Prop}
theorem skTail {st : SortSt} (F : Fr h₀ L s.heap m) (N : News h₀ L s.heap (news ++ [(kS, seqObj "list" keys e), (a, seqObj "list" #[] e1)])) (hka : kS ≠ a) (hnk : ∀ p ∈ news, p.1 ≠ kS) (hna : ∀ p ∈ news, p.1 ≠ a)
    (hk : StrsAre keys.toList kz) (hlen : kz.length = vs.length) (h64 : vs.length < 64) (hp : (arrOf st).Perm (keys.zip vs.toArray)) (hs : SortedToK strKind (arrOf st) (arrOf st).size) (hfl : failedOf st = none)
    (h : ∀ h' tk out c, Fr h₀ L h' m → News h₀ L h' ((a, seqObj "list" out c) :: news) → OutS kz vs out.toList → P (.done (.ret .none)) { s with heap := h', toks := tk }) :
    wpAny (model prog w) A (ksk_tail a false e1 (.ref kS) st) P E s := by
  have nk := N (kS, seqObj "list" keys e) (List.mem_append_right _ (.head _))
  have na := N (a, seqObj "list" #[] e1) (List.mem_append_right _ (.tail _ (.head _)))
  have Nn : News h₀ L s.heap news := fun p hp => N p (List.mem_append_left _ hp)
  have hsz : keys.size = vs.length := by
    have h1 := skLen hk
    rw [Array.length_toList] at h1
    omega
  have hout : ((arrOf st).map (·.2)).size = vs.length := by rw [Array.size_map, hp.size_eq, Array.size_zip, hsz, List.size_toArray, Nat.min_self]
  have s1 := Heap.SameBut.update s.heap kS (Obj.mapSeq fun _ => (#[] : Array Value))
  have na1 : (s.heap.update kS (Obj.mapSeq fun _ => (#[] : Array Value))).get? a = some (seqObj "list" #[] e1) := (s1.2 a hka.symm).trans na.1
  have s2 := Heap.SameBut.update (s.heap.update kS (Obj.mapSeq fun _ => (#[] : Array Value))) a (Obj.mapSeq fun _ => (arrOf st).map (·.2))
  obtain ⟨c2, hc2⟩ : ∃ c2, ((s.heap.update kS (Obj.mapSeq fun _ => (#[] : Array Value))).update a (Obj.mapSeq fun _ => (arrOf st).map (·.2))).get? a = some (seqObj "list" ((arrOf st).map (·.2)) c2) := by
    have u := get?_update_seq na1 (fun _ => (arrOf st).map (·.2))
    exact Exists.intro _ u
  have N2 := ksk_news (ksk_news Nn s1 hnk) s2 hna
  unfold ksk_tail
  dsimp only
  refine wpAny_bind (listUpdate_at nk.1 rfl ?_ (by rw [hsz, sizeLine_eq]; omega) (Nat.zero_le _))
  refine wpAny_bind (wpAny_letGo ?_)
  refine wpAny_bind (seqEpoch_at na1 rfl ?_)
  refine wpAny_bind (listUpdate_at na1 rfl ?_ (Nat.zero_le _) (Nat.le_trans (Nat.le_of_eq hout) (by rw [sizeLine_eq]; omega)))
  rw [hfl]
  simp only [bne_self_eq_false, Bool.false_eq_true, if_false]
  refine wpAny_pure (h _ _ _ c2 (ksk_fr (ksk_fr F s1 nk.2.1 nk.2.2) s2 na.2.1 na.2.2) (fun p hp => ?_) (skOut hk hp hs))
  rcases List.mem_cons.mp hp with rfl | hp
  · exact ⟨hc2, na.2⟩
  · exact N2 p hp
theorem skKind {keys : Array Value} {kz : List Str} (hk : StrsAre keys.toList kz) (h2 : 2 ≤ keys.size) : keyKind' keys = pure oneType' := by
  match q : keys.toList, hk with
  | [], _ => rw [← Array.length_toList, q] at h2; simp at h2
  | [_], _ => rw [← Array.length_toList, q] at h2; simp at h2
  | v₁ :: v₂ :: rest, hk =>
    have ek : keys = (v₁ :: v₂ :: rest).toArray := by rw [← q, Array.toArray_toList]
    rw [ek]
    exact keyKind_strs hk
theorem skKeys {keys : Array Value} {vs : List Value} {kz : List Str} (hk : StrsAre keys.toList kz) : KeysOf strKind (keys.zip vs.toArray) := by
  intro p hp
  rw [ksk_zip] at hp
  obtain ⟨x, y⟩ := p
  obtain ⟨z, t, e⟩ := hk.all _ (List.of_mem_zip hp).1
  exact ⟨z.cps.toList, by rw [e]⟩
theorem skEnd (F : Fr h₀ L s.heap m) (N : News h₀ L s.heap (news ++ [(kS, seqObj "list" keys e), (a, seqObj "list" #[] e1)])) (hka : kS ≠ a) (hnk : ∀ p ∈ news, p.1 ≠ kS) (hna : ∀ p ∈ news, p.1 ≠ a)
    (hk : StrsAre keys.toList kz) (hlen : kz.length = vs.length) (h64 : vs.length < 64)
    (h : ∀ h' tk out c, Fr h₀ L h' m → News h₀ L h' ((a, seqObj "list" out c) :: news) → OutS kz vs out.toList → P (.done (.ret .none)) { s with heap := h', toks := tk }) :
    wpAny (model prog w) A (ksk_end a false vs.toArray e1 (.ref kS) keys) P E s := by
  have hsz : keys.size = vs.length := by
    have h1 := skLen hk
    rw [Array.length_toList] at h1
    omega
  have hzs : (keys.zip vs.toArray).size = vs.length := by rw [Array.size_zip, hsz, List.size_toArray, Nat.min_self]
  unfold ksk_end
  dsimp only
  simp only [Bool.false_eq_true, if_false]
  by_cases h2 : vs.toArray.size < 2
  · rw [if_pos h2, if_pos h2]
    refine wpAny_bind (wpAny_pure ?_)
    rw [StateT.run_pure]
    refine wpAny_bind (wpAny_pure ?_)
    dsimp only
    refine skTail (st := SortSt.mk' general' (keys.zip vs.toArray) #[] 7 none) F N hka hnk hna hk hlen h64 (Array.Perm.refl _) ?_ rfl h
    intro i j hij hj
    have hj2 : j < (keys.zip vs.toArray).size := hj
    rw [hzs] at hj2
    rw [List.size_toArray] at h2
    have : i = j := by omega
    subst this
    exact KeyOrd.kle_refl _
  · rw [if_neg h2, if_neg h2]
    rw [List.size_toArray] at h2
    rw [skKind hk (by rw [hsz]; omega)]
    refine wpAny_bind (wpAny_pure ?_)
    refine wpAny_bind (wpAny_mono (wpS_sortRunsK (a₀ := keys.zip vs.toArray) (st := SortSt.mk' oneType' (keys.zip vs.toArray) #[] 7 none)
      (Q := fun _ st' => (arrOf st').Perm (keys.zip vs.toArray) ∧ failedOf st' = none ∧ SortedToK strKind (arrOf st') (keys.zip vs.toArray).size)
      strKind_oneLt (skKeys hk) ⟨Array.Perm.refl _, rfl, rfl, rfl⟩ (by rw [hzs]; omega) (by rw [hzs]; exact h64) fun st' a1 a2 a3 => ⟨a1, a2, a3⟩) ?_ fun _ _ e => e)
    rintro ⟨⟨⟩, st'⟩ s' ⟨rfl, hp, hf, hs⟩
    dsimp only
    exact skTail F N hka hnk hna hk hlen h64 hp (by rw [hp.size_eq]; exact hs) hf h
theorem skRest {f : Value} (F : Fr h₀ L s.heap m) (N : News h₀ L s.heap (news ++ [(kS, seqObj "list" #[] 0), (a, seqObj "list" #[] e1)])) (hka : kS ≠ a) (hnk : ∀ p ∈ news, p.1 ≠ kS) (hna : ∀ p ∈ news, p.1 ≠ a)
    (hlen : kz.length = vs.length) (h64 : vs.length < 64)
    (turn : ∀ (i : Nat) (v : Value) (k : Str), vs[i]? = some v → kz[i]? = some k → ∀ (h : Heap) (tk : Nat) (own : List (Addr × Obj)), Fr h₀ L h m → News h₀ L h (news ++ own) →
      wpAny (model prog w) A (call f [v]) (EndS h₀ L m (news ++ own) k { s with heap := h, toks := tk }) (fun _ _ => False) { s with heap := h, toks := tk })
    (h : ∀ h' tk out c, Fr h₀ L h' m → News h₀ L h' ((a, seqObj "list" out c) :: news) → OutS kz vs out.toList → P (.done (.ret .none)) { s with heap := h', toks := tk }) :
    wpAny (model prog w) A (ksk_rest a f false vs.toArray e1 (.ref kS)) P E s := by
  unfold ksk_rest
  refine wpAny_bind (wpAny_rule ?_)
  first
    | rw [List.forIn_toArray]
    | (rw [← Array.forIn_toList]; simp only [List.toList_toArray])
    | rw [← Array.forIn_toList]
  refine wpAny_bind (ksk_fold (fun i s' => ∃ h' tk kA e, s' = { s with heap := h', toks := tk } ∧ Fr h₀ L h' m ∧ News h₀ L h' (news ++ [(kS, seqObj "list" kA e), (a, seqObj "list" #[] e1)]) ∧ StrsAre kA.toList (kz.take i)) vs 0 s
    ⟨s.heap, s.toks, #[], 0, rfl, F, N, by simpa using StrsAre.nil⟩ ?step ?done)
  case step =>
    rintro j x s' hx ⟨h', tk, kA, e, rfl, F', N', hk⟩
    simp only [Nat.zero_add] at hk ⊢
    have hj : j < vs.length := (List.getElem?_eq_some_iff.mp hx).1
    obtain ⟨k, hkj⟩ : ∃ k, kz[j]? = some k := ⟨_, List.getElem?_eq_getElem (by omega)⟩
    have hz : kA.size ≤ vs.length := by
      have h1 := skLen hk
      rw [Array.length_toList, List.length_take] at h1
      omega
    refine wpAny_bind (wpAny_attempt (wpAny_mono (turn j x k hx hkj h' tk _ F' N') (fun v s'' he => ?_) fun _ _ hF => hF.elim))
    obtain ⟨g, tk2, t2, rfl, rfl, F2, N2⟩ := he
    dsimp only
    have nk := N2 (kS, seqObj "list" kA e) (List.mem_append_right _ (.head _))
    have na := N2 (a, seqObj "list" #[] e1) (List.mem_append_right _ (.tail _ (.head _)))
    have s1 := Heap.SameBut.update g kS (Obj.mapSeq (·.push (.str k t2)))
    obtain ⟨c2, hc2⟩ : ∃ c2, (g.update kS (Obj.mapSeq (·.push (.str k t2)))).get? kS = some (seqObj "list" (kA.push (.str k t2)) c2) := ⟨_, get?_update_seq nk.1 (·.push (.str k t2))⟩
    have ek : kz.take (j + 1) = kz.take j ++ [k] := by rw [List.take_add_one, hkj]; simp
    have ea : (kA.push (Value.str k t2)).toList = kA.toList ++ [Value.str k t2] := by simp
    refine wpAny_bind (listUpdate_at nk.1 rfl ?_ (by rw [sizeLine_eq]; omega) (Nat.le_trans (Nat.le_of_eq (Array.size_push ..)) (by rw [sizeLine_eq]; omega)))
    refine wpAny_pure ⟨rfl, _, _, kA.push (.str k t2), c2, rfl, ksk_fr F2 s1 nk.2.1 nk.2.2, fun p hp => ?_, by rw [ea, ek]; exact skSnoc hk⟩
    rcases List.mem_append.mp hp with hp | hp
    · exact ksk_news (fun q hq => N2 q (List.mem_append_left _ hq)) s1 hnk p hp
    · rcases List.mem_cons.mp hp with rfl | hp
      · exact ⟨hc2, nk.2⟩
      · rw [List.mem_singleton.mp hp]
        exact ⟨(s1.2 a hka.symm).trans na.1, na.2⟩
  case done =>
    rintro s' ⟨h', tk, kA, e, rfl, F', N', hk⟩
    have hk' : StrsAre kA.toList kz := by
      have e3 : kz.take (0 + vs.length) = kz := List.take_of_length_le (by omega)
      rw [e3] at hk
      exact hk
    have nk := N' (kS, seqObj "list" kA e) (List.mem_append_right _ (.head _))
    try dsimp only
    refine wpAny_bind (listItems_at nk.1 rfl ?_)
    exact skEnd F' N' hka hnk hna hk' hlen h64 fun h3 tk3 out c F3 N3 k3 => h h3 tk3 out c F3 N3 k3
theorem skSort {f : Value} {n : Nat} (F : Fr h₀ L s.heap m) (N : News h₀ L s.heap news) (ho : s.heap.get? a = some (seqObj "list" vs.toArray n)) (haL : a ≠ L) (ha0 : h₀.get? a = none) (hna : ∀ p ∈ news, p.1 ≠ a)
    (hlen : kz.length = vs.length) (h64 : vs.length < 64)
    (turn : ∀ (i : Nat) (v : Value) (k : Str), vs[i]? = some v → kz[i]? = some k → ∀ (h : Heap) (tk : Nat) (own : List (Addr × Obj)), Fr h₀ L h m → News h₀ L h (news ++ own) →
      wpAny (model prog w) A (call f [v]) (EndS h₀ L m (news ++ own) k { s with heap := h, toks := tk }) (fun _ _ => False) { s with heap := h, toks := tk })
    (h : ∀ h' tk out c, Fr h₀ L h' m → News h₀ L h' ((a, seqObj "list" out c) :: news) → OutS kz vs out.toList → P (.done (.ret .none)) { s with heap := h', toks := tk }) :
    wpAny (model prog w) A (ksk_tree a f false) P E s := by
  have ha : a < s.heap.objs.size := Heap.lt_size ho
  have s1 := Heap.SameBut.update s.heap a (Obj.mapSeq fun _ => (#[] : Array Value))
  obtain ⟨e1, ho1⟩ : ∃ e1, (s.heap.update a (Obj.mapSeq fun _ => (#[] : Array Value))).get? a = some (seqObj "list" #[] e1) := ⟨_, get?_update_seq ho fun _ => #[]⟩
  have F1 := ksk_fr F s1 haL ha0
  have N1 := ksk_news N s1 hna
  have hkS : ((s.heap.update a (Obj.mapSeq fun _ => (#[] : Array Value))).push (seqObj "tuple" vs.toArray 0)).objs.size = s.heap.objs.size + 1 := by rw [size_push', Heap.size_update]
  have hLk : L < ((s.heap.update a (Obj.mapSeq fun _ => (#[] : Array Value))).push (seqObj "tuple" vs.toArray 0)).objs.size := (F1.push _).ns.lt
  unfold ksk_tree
  refine wpAny_bind (listItems_at ho rfl ?_)
  refine wpAny_bind (listUpdate_at ho rfl ?_ (by rw [List.size_toArray, sizeLine_eq]; omega) (Nat.zero_le _))
  refine wpAny_bind (seqEpoch_at ho1 rfl ?_)
  refine wpAny_bind (wpAny_newTuple ?_ (by show vs.length ≤ _; rw [sizeLine_eq]; omega))
  refine wpAny_bind (wpAny_newList ?_ (Nat.zero_le _))
  refine wpAny_holding ?_
  refine skRest (s := { s with heap := ((s.heap.update a (Obj.mapSeq fun _ => (#[] : Array Value))).push (seqObj "tuple" vs.toArray 0)).push (seqObj "list" #[] 0) }) (kS := ((s.heap.update a (Obj.mapSeq fun _ => (#[] : Array Value))).push (seqObj "tuple" vs.toArray 0)).objs.size)
    ((F1.push _).push _) (fun p hp => ?_) (by rw [hkS]; exact Nat.ne_of_gt (Nat.lt_succ_of_lt ha)) (fun p hp => by rw [hkS]; exact Nat.ne_of_lt (Nat.lt_succ_of_lt (Heap.lt_size (N p hp).1))) hna hlen h64 turn h
  rcases List.mem_append.mp hp with hp | hp
  · exact ⟨Heap.get?_push_of_some _ (Heap.get?_push_of_some _ (N1 p hp).1), (N1 p hp).2⟩
  · rcases List.mem_cons.mp hp with rfl | hp
    · exact ⟨Heap.get?_push_size _ rfl, Nat.ne_of_gt hLk, Heap.get?_none_of_le (Nat.le_trans F.above (Nat.le_of_lt hLk))⟩
    · rw [List.mem_singleton.mp hp]
      exact ⟨Heap.get?_push_of_some _ (Heap.get?_push_of_some _ ho1), haL, ha0⟩
end
section
variable {prog : Program} {w : World} {A : Around} {E : Value → Shared → Prop} {s : Shared} {h₀ : Heap} {L l : Addr} {m : Str → Option Value} {news : List (Addr × Obj)} {vs : List Value} {Q : Value → Shared → Prop}
/-- sorted(a list, key=a def that answers texts) -/
theorem sortedKeyS {kz : List Str} {f : Addr} (F : Fr h₀ L s.heap m) (N : News h₀ L s.heap news) (hl : s.heap.IsList l vs.toArray) (hlen : kz.length = vs.length) (h64 : vs.length < 64)
    (turn : ∀ (i : Nat) (v : Value) (k : Str), vs[i]? = some v → kz[i]? = some k → ∀ (h : Heap) (tk : Nat) (own : List (Addr × Obj)), Fr h₀ L h m → News h₀ L h (news ++ own) →
      wpAny (model prog w) A.in1.in1 (call (.ref f) [v]) (EndS h₀ L m (news ++ own) k { s with heap := h, toks := tk }) (fun _ _ => False) { s with heap := h, toks := tk })
    (h : ∀ D h' tk out c, Fr h₀ L h' m → News h₀ L h' ((D, seqObj "list" out c) :: news) → (∀ q ∈ news, q.1 < D) → OutS kz vs out.toList → Q (.ref D) { s with heap := h', toks := tk }) :
    wpAny (model prog w) A (call (.builtin "sorted") [.ref l] [(Str.ofString "key", .ref f)]) Q E s := by
  refine call_function_entry_kw kind_sorted plain_sorted entry_sorted (ksk_s1 _ _) ?_
  unfold Builtin.«sorted»
  refine wpAny_bind (m := checkCount "sorted" 1 1 _) (wpAny_pure ?_)
  refine wpAny_bind (collect_list hl ?_ (by rw [sizeLine_eq]; omega))
  refine wpAny_bind (wpAny_newList ?_ (by rw [sizeLine_eq]; omega))
  have hsz : ((s.heap.push (seqObj "list" #[] 0)).update s.heap.objs.size (Obj.mapSeq (· ++ vs.toArray))).objs.size = s.heap.objs.size + 1 := by
    rw [Heap.size_update, size_push']
  have hoL : (((s.heap.push (seqObj "list" #[] 0)).update s.heap.objs.size (Obj.mapSeq (· ++ vs.toArray))).push (seqObj "list" vs.toArray 0)).get? (s.heap.objs.size + 1) = some (seqObj "list" vs.toArray 0) := by
    rw [← hsz]; exact Heap.get?_push_size _ rfl
  have keep : ∀ b o, s.heap.get? b = some o → (((s.heap.push (seqObj "list" #[] 0)).update s.heap.objs.size (Obj.mapSeq (· ++ vs.toArray))).push (seqObj "list" vs.toArray 0)).get? b = some o := fun b o q => by
    have hlt : b < s.heap.objs.size := Heap.lt_size q
    rw [Heap.get?_push_ne _ _ _ (by rw [hsz]; exact Nat.ne_of_lt (Nat.lt_succ_of_lt hlt)), Heap.get?_update_ne _ _ _ _ (Nat.ne_of_lt hlt), Heap.get?_push_ne _ _ _ (Nat.ne_of_lt hlt)]
    exact q
  have hL : L < s.heap.objs.size := F.ns.lt
  show wpAny _ _ _ _ _ { s with heap := ((s.heap.push (seqObj "list" #[] 0)).update s.heap.objs.size (Obj.mapSeq (· ++ vs.toArray))).push (seqObj "list" vs.toArray 0) }
  rw [hsz]
  refine wpAny_bind (wpAny_holding (wpAny_call_entry_kw slot_list_sort ⟨_, hoL, rfl⟩ entry_list_sort ?body (ksk_l1 _ _)))
  case body =>
    show wpAny (model prog w) A.in1.in1 (Builtin.«list.sort» ⟨[.ref (s.heap.objs.size + 1)], _⟩) _ _ _
    rw [ksk_t1]
    refine skSort (s := { s with heap := ((s.heap.push (seqObj "list" #[] 0)).update s.heap.objs.size (Obj.mapSeq (· ++ vs.toArray))).push (seqObj "list" vs.toArray 0) })
      (F.kept keep) (N.grown keep) hoL (Nat.ne_of_gt (Nat.lt_succ_of_lt hL)) (Heap.get?_none_of_le (Nat.le_trans F.above (Nat.le_succ_of_le (Nat.le_of_lt hL))))
      (fun p hp => Nat.ne_of_lt (Nat.lt_succ_of_lt (Heap.lt_size (N p hp).1))) hlen h64 turn fun h' tk out c F' N' k' => ⟨_, rfl, ?_⟩
    exact wpAny_pure ⟨_, rfl, h _ h' tk out c F' N' (fun q hq => Nat.lt_succ_of_lt (Heap.lt_size (N q hq).1)) k'⟩
end
end Mine
namespace Mine
open PySem PySem.W PySem.Calls PyProof.Rows

/-- a set of facts of a heap: what lies where -/
abbrev Facts := Addr → Obj → Prop
def Facts.In (S : Facts) (h : Heap) : Prop := ∀ a o, S a o → h.get? a = some o
def Facts.sub (S S' : Facts) : Prop := ∀ a o, S a o → S' a o
/-- all that lies in a heap -/
abbrev at_ (h : Heap) : Facts := fun a o => h.get? a = some o
/-- the facts of a list besides -/
def Facts.more (S : Facts) (l : List (Addr × Obj)) : Facts := fun a o => S a o ∨ (a, o) ∈ l

abbrev en (P : Params) (n : Str) (t : Tok) (v : Value) : DictEntry := ⟨PyData.keyHash P n, .str n t, v⟩
abbrev kdName (k : Bool) : Str := if k then "+" else "*"
abbrev kdCls (k : Bool) : Str := if k then "Plus" else "Times"
/-- the arity of the kinds: a tuple of its own class -/
abbrev arObj (ad : Addr) (t : Tok) : Obj := ⟨.ref 380, some ad, .seq #[.int 2 t, .bool false], #[]⟩
/-- the object of a kind of operation -/
inductive IsKind (P : Params) (S : Facts) : Addr → Bool → Prop
  | mk {a d ar ad : Addr} {k : Bool} {t1 t2 t3 t4 t5 t6 t7 t8 t9 : Tok} (ha : S a (instObj 415 d))
      (hd : S d (dictOf [en P "name" t1 (.str (kdName k) t2), en P "arity" t3 (.ref ar), en P "class_name" t4 (.str (kdCls k) t5), en P "associative" t6 (.bool true), en P "commutative" t7 (.bool true), en P "one_identity" t8 (.bool false)] 6))
      (har : S ar (arObj ad t9)) (had : S ad (dictOf [] 0)) : IsKind P S a k
theorem IsKind.mono {P : Params} {S S' : Facts} {a : Addr} {k : Bool} (h : IsKind P S a k) (hs : S.sub S') : IsKind P S' a k := by
  cases h with | mk a b c d => exact .mk (hs _ _ a) (hs _ _ b) (hs _ _ c) (hs _ _ d)

mutual
/-- the facts bear the expression at the value -/
inductive IsEx (P : Params) (S : Facts) : Value → Ex → Prop
  | sym {a d : Addr} {l : Leaf} {t1 t2 t3 : Tok} (hl : l.isVar = false) (ha : S a (instObj 637 d))
      (hd : S d (dictOf [en P "variable_name" t1 .none, en P "name" t2 (.str l.nm t3)] 2)) : IsEx P S (.ref a) (.leaf l)
  | var {a d : Addr} {l : Leaf} {t1 t2 t3 t4 t5 t6 : Tok} (hl : l.isVar = true) (ha : S a (instObj 741 d))
      (hd : S d (dictOf [en P "variable_name" t1 (.str l.nm t2), en P "min_count" t3 (.int 1 t4), en P "fixed_size" t5 (.bool true), en P "optional" t6 .none] 4)) : IsEx P S (.ref a) (.leaf l)
  | op {a d l kd ar : Addr} {k : Bool} {es : List Ex} {vs : List Value} {n : Nat} {t1 t2 t3 t4 t5 t6 t7 t8 t9 : Tok} (ha : S a (instObj 561 d))
      (hd : S d (dictOf [en P "variable_name" t1 .none, en P "head" t2 (.ref kd), en P "name" t3 (.str (kdName k) t4), en P "arity" t5 (.ref ar), en P "associative" t6 (.bool true), en P "commutative" t7 (.bool true), en P "one_identity" t8 (.bool false), en P "operands" t9 (.ref l)] 8))
      (hl : S l (listOf vs.toArray n)) (hn : vs.length ≤ 1000) (hk : IsKind P S kd k) (hes : IsExs P S vs es) : IsEx P S (.ref a) (.op k es)
inductive IsExs (P : Params) (S : Facts) : List Value → List Ex → Prop
  | nil : IsExs P S [] []
  | cons {v : Value} {e : Ex} {vs : List Value} {es : List Ex} (h : IsEx P S v e) (r : IsExs P S vs es) : IsExs P S (v :: vs) (e :: es)
end
mutual
theorem IsEx.mono {P : Params} {S S' : Facts} (hs : S.sub S') : ∀ {v : Value} {e : Ex}, IsEx P S v e → IsEx P S' v e
  | _, _, .sym hl a b => .sym hl (hs _ _ a) (hs _ _ b)
  | _, _, .var hl a b => .var hl (hs _ _ a) (hs _ _ b)
  | _, _, .op a b c n d e => .op (hs _ _ a) (hs _ _ b) (hs _ _ c) n (d.mono hs) (e.mono hs)
theorem IsExs.mono {P : Params} {S S' : Facts} (hs : S.sub S') : ∀ {vs : List Value} {es : List Ex}, IsExs P S vs es → IsExs P S' vs es
  | _, _, .nil => .nil
  | _, _, .cons a b => .cons (a.mono hs) (b.mono hs)
end
theorem IsEx.isRef {P : Params} {S : Facts} {v : Value} {e : Ex} (h : IsEx P S v e) : ∃ a, v = .ref a := by cases h <;> exact ⟨_, rfl⟩
theorem IsExs.length {P : Params} {S : Facts} : ∀ {vs : List Value} {es : List Ex}, IsExs P S vs es → vs.length = es.length
  | _, _, .nil => rfl
  | _, _, .cons _ b => by simp only [List.length_cons]; rw [IsExs.length b]
theorem IsExs.get {P : Params} {S : Facts} : ∀ {vs : List Value} {es : List Ex}, IsExs P S vs es → ∀ {i : Nat} {v : Value}, vs[i]? = some v → ∃ e, es[i]? = some e ∧ IsEx P S v e
  | _, _, .nil, i, v, h => by simp at h
  | _, _, .cons a b, 0, v, h => by simp at h; subst h; exact ⟨_, rfl, a⟩
  | _, _, .cons a b, i + 1, v, h => by simp at h; exact IsExs.get b h

theorem enter {prog : Program} {w : World} {A : Around} {K : Frag} {R : Result → Shared → Prop} {s : Shared} {name qual : Str} {params : Arguments} {body : List Stmt} {scope : Scope} {dV kV doc pm cdv ct oc : Value} {an od : Option Addr} {osl : Array (Option Value)} {f : Addr} {args : Args} {binds : List (Str × Value)}
    (X : K.In s.heap) (hlim : s.heap.NoLimit) (hroom : A.depth < recursionLimit)
    (ho : K.lookup f = some ⟨oc, od, .func (fnOf name qual params body scope dV kV doc pm an cdv ct), osl⟩) (hcd : codeIn K cdv qual = true)
    (hbind : BindsTo s (fnOf name qual params body scope dV kV doc pm an cdv ct) args binds) (hloc : ∀ y ∈ binds, scope.names.lookup y.1 = some .local)
    (h : ∀ L h₁, Fr s.heap L h₁ (fun y => binds.reverse.lookup y) → News s.heap L h₁ [] → L = s.heap.objs.size →
      wpAny (model prog w) (A.deeper (envOf qual scope L f cdv)) (execs body (envOf qual scope L f cdv))
        (fun fl s' => R (.ok (.ret (match fl with | .ret v => v | _ => .none))) s') (fun _ _ => False)
        { s with heap := h₁, toks := s.toks + binds.length })
    (hcell : ∀ x ∈ scope.names, x.2 ≠ .cell := by decide) (hco : scope.isCoroutine = false := by rfl) (hgen : scope.isGenerator = false := by rfl) (hk : scope.kind = .function := by rfl) :
    codeAny (model prog w) A (.call (.ref f) args) R s := by
  refine codeAny_call_def (fd := fnOf name qual params body scope dV kV doc pm an cdv ct) (body := body) (binds := binds) hroom (X _ _ ho) rfl hlim (codeRec_of X hcd) rfl hbind hcell hloc (fun h₁ hns hk₁ => ?_) hco hgen hk
  exact wpAny_mono (h s.heap.objs.size h₁ ⟨hns, hk₁, Nat.le_refl _⟩ News.nil rfl) (fun _ _ x => x) (fun _ _ x => x.elim)

/-- the heap without one object -/
abbrev less (h : Heap) (r : Addr) : Heap := hideAll h [r]
theorem less_get {h : Heap} {r a : Addr} {o : Obj} (e : h.get? a = some o) (n : a ≠ r) : (less h r).get? a = some o := hideAll_get [r] e (by simpa using n)
theorem less_of {h : Heap} {r a : Addr} {o : Obj} (e : (less h r).get? a = some o) : h.get? a = some o := of_hideAll [r] e
theorem less_none {h : Heap} {r : Addr} : (less h r).get? r = none := hideAll_none [r] (.head _)
theorem less_stays {g h : Heap} {r : Addr} (k : g.StaysIn h) (n : g.get? r = none) : g.StaysIn (less h r) := fun a o e => less_get (k a o e) fun z => by rw [z, n] at e; cases e

/-- a def entered that changes one object: the base is the heap without it -/
theorem enterH {prog : Program} {w : World} {A : Around} {K : Frag} {R : Result → Shared → Prop} {s : Shared} {name qual : Str} {params : Arguments} {body : List Stmt} {scope : Scope} {dV kV doc pm cdv ct oc : Value} {an od : Option Addr} {osl : Array (Option Value)} {f r : Addr} {ob : Obj} {args : Args} {binds : List (Str × Value)}
    (X : K.In (less s.heap r)) (hr : s.heap.get? r = some ob) (hlim : s.heap.NoLimit) (hroom : A.depth < recursionLimit)
    (ho : K.lookup f = some ⟨oc, od, .func (fnOf name qual params body scope dV kV doc pm an cdv ct), osl⟩) (hcd : codeIn K cdv qual = true)
    (hbind : BindsTo s (fnOf name qual params body scope dV kV doc pm an cdv ct) args binds) (hloc : ∀ y ∈ binds, scope.names.lookup y.1 = some .local)
    (h : ∀ L h₁, Fr (less s.heap r) L h₁ (fun y => binds.reverse.lookup y) → News (less s.heap r) L h₁ [(r, ob)] → L = s.heap.objs.size →
      wpAny (model prog w) (A.deeper (envOf qual scope L f cdv)) (execs body (envOf qual scope L f cdv))
        (fun fl s' => R (.ok (.ret (match fl with | .ret v => v | _ => .none))) s') (fun _ _ => False)
        { s with heap := h₁, toks := s.toks + binds.length })
    (hcell : ∀ x ∈ scope.names, x.2 ≠ .cell := by decide) (hco : scope.isCoroutine = false := by rfl) (hgen : scope.isGenerator = false := by rfl) (hk : scope.kind = .function := by rfl) :
    codeAny (model prog w) A (.call (.ref f) args) R s := by
  have X' : K.In s.heap := X.keeps fun b o e => less_of e
  refine codeAny_call_def (fd := fnOf name qual params body scope dV kV doc pm an cdv ct) (body := body) (binds := binds) hroom (X' _ _ ho) rfl hlim (codeRec_of X' hcd) rfl hbind hcell hloc (fun h₁ hns hk₁ => ?_) hco hgen hk
  refine wpAny_mono (h s.heap.objs.size h₁ ⟨hns, fun b o e => hk₁ b o (less_of e), Nat.le_of_eq (hideAll_size _ _)⟩ (fun p hp => ?_) rfl) (fun _ _ x => x) (fun _ _ x => x.elim)
  rw [List.mem_singleton.mp hp]
  exact ⟨hk₁ _ _ hr, Nat.ne_of_lt (Heap.lt_size hr), less_none⟩

theorem instBase {h₀ h : Heap} {L x C dx : Addr} {m : Str → Option Value} {od : Obj} {sl : Array (Option Value)} (F : Fr h₀ L h m) (h1 : h₀.get? x = some (⟨.ref C, some dx, .plain, sl⟩ : Obj)) (h2 : h₀.get? dx = some od) :
    InstAt h x ⟨.ref C, some dx, .plain, sl⟩ C (some od) := ⟨F.keep _ _ h1, rfl, rfl, F.keep _ _ h2⟩

/-- what a call of a def that changes nothing leaves: the frame and the ledger as they were -/
theorem frStay {h₀ h h' : Heap} {L : Addr} {m : Str → Option Value} (F : Fr h₀ L h m) (k : h.StaysIn h') : Fr h₀ L h' m := by
  obtain ⟨oL, es, ep, hL, r⟩ := F.ns
  exact ⟨⟨oL, es, ep, k _ _ hL, r⟩, fun b o e => k _ _ (F.keep b o e), F.above⟩
theorem newsStay {h₀ h h' : Heap} {L : Addr} {news : List (Addr × Obj)} (N : News h₀ L h news) (k : h.StaysIn h') : News h₀ L h' news := fun p hp => ⟨k _ _ (N p hp).1, (N p hp).2⟩

/-- a call by a contract: its def alone, no exception -/
theorem useCall {prog : Program} {w : World} {A : Around} {f : Value} {pos : List Value} {kw : List (Str × Value)} {Q : Value → Shared → Prop} {E : Value → Shared → Prop} {s : Shared}
    (h : codeAny (model prog w) A (.call f ⟨pos, kw⟩) (fun r s' => match r with | .ok (.ret v) => Q v s' | _ => False) s) : wpAny (model prog w) A (call f pos kw) Q E s :=
  wpAny_call (codeAny_mono h fun r s' hr => by
    cases r with
    | error e => exact hr.elim
    | ok fl => cases fl <;> first | exact hr | exact hr.elim)

/-- a goal that the walk is to leave alone -/
def Hold (p : Prop) : Prop := p
theorem Hold.mk {p : Prop} (h : Hold p) : p := h
theorem Hold.intro {p : Prop} (h : p) : Hold p := h

theorem mapOne {m m₀ : Str → Option Value} {a : Str} (h : ∀ y, y ≠ a → m y = m₀ y) : m = fun y => if y = a then m a else m₀ y := by
  funext y
  by_cases e1 : y = a
  · simp [e1]
  · simp [e1, h y e1]
theorem mapTwo {m m₀ : Str → Option Value} {a b : Str} (h : ∀ y, y ≠ a → y ≠ b → m y = m₀ y) : m = fun y => if y = b then m b else if y = a then m a else m₀ y := by
  funext y
  by_cases e2 : y = b
  · simp [e2]
  · by_cases e1 : y = a
    · subst e1; simp [e2]
    · simp [e2, e1, h y e1 e2]

theorem lenB {prog : Program} {w : World} {A : Around} {E : Value → Shared → Prop} {s : Shared} {h₀ : Heap} {L l : Addr} {m : Str → Option Value} {vs : List Value} {n : Nat} {Q : Value → Shared → Prop}
    (F : Fr h₀ L s.heap m) (hl : h₀.get? l = some (listOf vs.toArray n)) (hn : vs.length ≤ 1000) (h : ∀ t k, Q (.int (vs.length : Int) t) { s with toks := k }) : wpAny (model prog w) A (call (.builtin "len") [.ref l] []) Q E s := by
  refine len_list (items := vs.toArray) ⟨_, F.keep _ _ hl, rfl, _, rfl⟩ (by simp only [List.size_toArray]; omega) ?_
  simp only [List.size_toArray]
  exact h _ _
/-- an item of a list of the ledger, at a place in bounds -/
theorem subB {prog : Program} {w : World} {A : Around} {E : Value → Shared → Prop} {s : Shared} {h₀ : Heap} {L l : Addr} {news : List (Addr × Obj)} {vs : List Value} {n : Nat} {value slice : PySem.Expr} {k : Int} {u : Tok} {v : Value} {Q : Value → Shared → Prop}
    (N : News h₀ L s.heap news) (hm : (l, listOf vs.toArray n) ∈ news) (h0 : 0 ≤ k) (hfit : k < 2 ^ 63) (hx : vs[k.toNat]? = some v) (h : Q v s)
    (hs : subscripted slice false (.ref l) (.int k u) = operate [.ref l, .int k u] (getItem (.ref l) (.int k u)) := by with_unfolding_all rfl) (hg : ∀ r, letTemporaryGo value (.ref l) r = pure () := by intro _; with_unfolding_all rfl) :
    wpAny (model prog w) A (subscriptTail value slice (.ref l) (.int k u)) Q E s :=
  item_list (items := vs.toArray) ⟨_, (N _ hm).1, rfl, _, rfl⟩ h0 hfit (by simpa using hx) h hs hg
/-- a store into a list of the ledger, at a place in bounds -/
theorem setB {prog : Program} {w : World} {A : Around} {E : Value → Shared → Prop} {s : Shared} {h₀ : Heap} {L l : Addr} {m : Str → Option Value} {news news' : List (Addr × Obj)} {vs : List Value} {n : Nat} {k : Int} {u : Tok} {v : Value} {Q : Unit → Shared → Prop}
    (F : Fr h₀ L s.heap m) (N : News h₀ L s.heap news) (U : Upd l (listOf vs.toArray n) (listOf (vs.set k.toNat v).toArray n) news news') (h0 : 0 ≤ k) (hfit : k < 2 ^ 63) (hk : k.toNat < vs.length)
    (h : ∀ h', Fr h₀ L h' m → News h₀ L h' news' → Q () { s with heap := h' }) : wpAny (model prog w) A (setItem (.ref l) (.int k u) v) Q E s := by
  obtain ⟨pre, post, rfl, rfl, a, b⟩ := U.split
  have z := N (l, listOf vs.toArray n) (List.mem_append.mpr (.inr (.head _)))
  refine ki_setAt z.1 h0 hfit (by simp only [List.size_toArray]; omega) (h _ (F.change (Heap.SameBut.update ..) z.2.1 z.2.2) (ki_turn _ N a b ?_ ?_))
  · show vs.toArray.setIfInBounds k.toNat v = (vs.set k.toNat v).toArray
    apply Array.toList_inj.mp
    simp
  · simp
/-- the length of a list of the ledger -/
theorem lenN {prog : Program} {w : World} {A : Around} {E : Value → Shared → Prop} {s : Shared} {h₀ : Heap} {L l : Addr} {news : List (Addr × Obj)} {vs : List Value} {n : Nat} {Q : Value → Shared → Prop}
    (N : News h₀ L s.heap news) (hm : (l, listOf vs.toArray n) ∈ news) (hn : vs.length ≤ 1000) (h : ∀ t k, Q (.int (vs.length : Int) t) { s with toks := k }) : wpAny (model prog w) A (call (.builtin "len") [.ref l] []) Q E s := by
  refine len_list (items := vs.toArray) ⟨_, (N _ hm).1, rfl, _, rfl⟩ (by simp only [List.size_toArray]; omega) ?_
  simp only [List.size_toArray]
  exact h _ _
theorem qb {Q : Value → Shared → Prop} {b b' : Bool} {s : Shared} (e : b = b') (h : Q (.bool b') s) : Q (.bool b) s := e ▸ h
end Mine
namespace Mine
open PySem PySem.W PySem.Calls PyProof.Rows

abbrev noE : Value → Shared → Prop := fun _ _ => False
/-- what a turn of a loop leaves -/
def Turn (h₀ : Heap) (L it : Addr) (o : Obj) (J : (Str → Option Value) → List (Addr × Obj) → Prop) (Q : Flow → Shared → Prop) (s : Shared) (f : Flow) (s₂ : Shared) : Prop :=
  match f with
  | .ret v => Q (.ret v) s₂
  | .brk => Q .next s₂
  | _ => ∃ m' news' h' tk', s₂ = { s with heap := h', toks := tk' } ∧ Fr h₀ L h' m' ∧ News h₀ L h' ((it, o) :: news') ∧ (∀ p ∈ news', p.1 ≠ it) ∧ J m' news'

/-- the source of a loop is told -/
def IterAt (h₀ : Heap) (L : Addr) (s : Shared) (J : (Str → Option Value) → List (Addr × Obj) → Prop) (v : Value) (xv : Value) (s₁ : Shared) : Prop :=
  xv = v ∧ ∃ m news h tk, s₁ = { s with heap := h, toks := tk } ∧ Fr h₀ L h m ∧ News h₀ L h news ∧ J m news
/-- a range is told -/
def RangeAt (h₀ : Heap) (L : Addr) (s : Shared) (J : (Str → Option Value) → List (Addr × Obj) → Prop) (a₀ b₀ : Int) (xv : Value) (s₁ : Shared) : Prop :=
  ∃ l t₀ u₀ v₀ m news h tk, xv = .ref l ∧ IsRange h l a₀ b₀ 1 t₀ u₀ v₀ ∧ s₁ = { s with heap := h, toks := tk } ∧ Fr h₀ L h m ∧ News h₀ L h news ∧ J m news
section
variable {prog : Program} {w : World} {A : Around} {s : Shared} {env : Env} {h₀ : Heap}

theorem frSame {h h' : Heap} {L it : Addr} {m : Str → Option Value} (F : Fr h₀ L h m) (hs : Heap.ExtBut it h h') (h1 : it ≠ L) (h2 : h₀.get? it = none) : Fr h₀ L h' m := by
  obtain ⟨oL, es, ep, hL, r⟩ := F.ns
  exact ⟨⟨oL, es, ep, hs _ _ (Ne.symm h1) hL, r⟩, fun b o e => hs b o (fun z => by rw [z, h2] at e; cases e) (F.keep b o e), F.above⟩
theorem newsSame {h h' : Heap} {L it : Addr} {news : List (Addr × Obj)} (N : News h₀ L h news) (hs : Heap.ExtBut it h h') (hn : ∀ p ∈ news, p.1 ≠ it) : News h₀ L h' news :=
  fun p hp => ⟨hs _ _ (hn p hp) (N p hp).1, (N p hp).2⟩

/-- a for over a list that the loop does not change -/
theorem forList {x : Str} {px pos : Pos} {iter : Expr} {body : List Stmt} {l L : Addr} {items : Array Value} {Q : Flow → Shared → Prop}
    (J : Nat → (Str → Option Value) → List (Addr × Obj) → Prop)
    (hiter : wpAny (model prog w) A (eval iter env) (IterAt h₀ L s (J 0) (.ref l)) noE s)
    (hl : ∀ i m news h, J i m news → Fr h₀ L h m → News h₀ L h news → h.IsList l items)
    (turn : ∀ i v m news it o h tk, items[i]? = some v → J i m news → (∀ p ∈ news, p.1 ≠ it) → it ≠ l → Fr h₀ L h (fun y => if y = x then some v else m y) → News h₀ L h ((it, o) :: news) →
      wpAny (model prog w) A (execs body env) (Turn h₀ L it o (J (i + 1)) Q { s with heap := h, toks := tk }) noE { s with heap := h, toks := tk })
    (done : ∀ m news h tk, J items.size m news → Fr h₀ L h m → News h₀ L h news → Q .next { s with heap := h, toks := tk })
    (hh : A.handled = none) (hx : env.kindOf x = some .local) (hp : (env.scope.kind == .class || (env.scope.kind == .module && env.locals != env.globals)) = false)
    (hL : env.locals = L := by rfl) (hs : ∀ x, foldedSetIterable iter env x = pure x := by intro _; rfl) :
    wpAny (model prog w) A (exec (.For (.Name x px) iter body [] pos) env) Q noE s := by
  subst hL
  refine wpAny_For (wpAny_mono hiter (fun xv s₁ h₁ => ?_) fun _ _ e => e) hs
  obtain ⟨rfl, m, news, h, tk, rfl, F, N, j0⟩ := h₁
  have hls := hl 0 m news h j0 F N
  refine wpAny_pyIter_list hls ?_
  have hit : (h.push { cls := .type "list_iterator", data := .fields #[.ref l, .int 0 0] }).IsListIter h.objs.size l 0 := ⟨_, Heap.get?_push_size _ rfl, rfl, rfl⟩
  have hlt : ∀ b o, h.get? b = some o → b ≠ h.objs.size := fun b o e => Nat.ne_of_lt (Heap.lt_size e)
  refine codeAny_forLoop
    (fun n s' => ∃ h' tk m' i news', s' = { s with heap := h', toks := tk } ∧ h'.IsListIter h.objs.size l i ∧ Fr h₀ env.locals h' m' ∧ News h₀ env.locals h' news' ∧ (∀ p ∈ news', p.1 ≠ h.objs.size) ∧ J i m' news' ∧ i ≤ items.size ∧ n = items.size + 1 - i ∧ h.objs.size ≠ env.locals ∧ h₀.get? h.objs.size = none ∧ h.objs.size ≠ l)
    ?_ (items.size + 1) ⟨_, tk, m, 0, news, rfl, hit, F.push _, fun p hp => ⟨Heap.get?_push_of_some _ (N p hp).1, (N p hp).2⟩, fun p hp => hlt _ _ (N p hp).1, j0, Nat.zero_le _, rfl, Nat.ne_of_gt F.ns.lt, ?_, ?_⟩
  · rintro n s' ⟨h', tk, m', i, news', rfl, hit', F', N', hn, hJ, hi, rfl, e1, e2, e3⟩
    have hl' := hl i m' news' h' hJ F' N'
    cases hv : items[i]? with
    | none =>
      have hsz : i = items.size := Nat.le_antisymm hi (by simpa using hv)
      refine wpAny_pyNext_list_end hh hit' hl' hv fun h₁ he₁ => wpAny_execs_nil ?_
      exact done m' news' h₁ tk (hsz ▸ hJ) (frSame F' he₁ e1 e2) (newsSame N' he₁ hn)
    | some v =>
      have hlt' : i < items.size := (Array.getElem?_eq_some_iff.mp hv).1
      refine wpAny_pyNext_list_item hit' hl' hv fun h₁ hit₁ hs₁ => ?_
      have F₁ := frSame F' hs₁.extBut e1 e2
      have N₁ := newsSame N' hs₁.extBut hn
      refine wpAny_assign_Name (wpAny_storeName_local hx F₁.ns (fun h₂ hn₂ hs₂ => ?_) hp)
      have F₂ : Fr h₀ env.locals h₂ (fun y => if y = x then some v else m' y) := F₁.set hn₂ hs₂
      obtain ⟨o, ho, q1, q2⟩ := hit₁
      have N₂ : News h₀ env.locals h₂ ((h.objs.size, o) :: news') := by
        intro p hp
        rcases List.mem_cons.mp hp with rfl | hp
        · exact ⟨hs₂.extBut _ _ e1 ho, e1, e2⟩
        · exact ⟨hs₂.extBut _ _ (N₁ p hp).2.1 (N₁ p hp).1, (N₁ p hp).2⟩
      refine wpAny_mono (turn i v m' news' h.objs.size o h₂ _ hv hJ hn e3 F₂ N₂) (fun f s₃ h₃ => ?_) fun _ _ e => e.elim
      cases f with
      | ret v => exact h₃
      | brk => exact h₃
      | next =>
        obtain ⟨m₃, news₃, h₃', tk₃, rfl, F₃, N₃, hn₃, hJ₃⟩ := h₃
        exact ⟨items.size + 1 - (i + 1), by omega, h₃', tk₃, m₃, i + 1, news₃, rfl, ⟨o, (N₃ _ (.head _)).1, q1, q2⟩, F₃, fun p hp => N₃ p (.tail _ hp), hn₃, hJ₃, hlt', rfl, e1, e2, e3⟩
      | cont =>
        obtain ⟨m₃, news₃, h₃', tk₃, rfl, F₃, N₃, hn₃, hJ₃⟩ := h₃
        exact ⟨items.size + 1 - (i + 1), by omega, h₃', tk₃, m₃, i + 1, news₃, rfl, ⟨o, (N₃ _ (.head _)).1, q1, q2⟩, F₃, fun p hp => N₃ p (.tail _ hp), hn₃, hJ₃, hlt', rfl, e1, e2, e3⟩
  · cases q : h₀.get? h.objs.size with
    | none => rfl
    | some o => exact absurd (Heap.lt_size (F.keep _ _ q)) (Nat.lt_irrefl _)
  · obtain ⟨ol, hol, _⟩ := hls
    exact (hlt _ _ hol).symm

/-- a for over a range by ones -/
theorem forRange {x : Str} {px pos : Pos} {iter : Expr} {body : List Stmt} {L : Addr} {a₀ b₀ : Int} {n : Nat} {Q : Flow → Shared → Prop}
    (J : Nat → (Str → Option Value) → List (Addr × Obj) → Prop)
    (hiter : wpAny (model prog w) A (eval iter env) (RangeAt h₀ L s (J 0) a₀ b₀) noE s)
    (hsmall : Builtin.Range.small a₀ b₀ 1 = true) (hn : Builtin.Range.rangeSize a₀ b₀ 1 = (n : Int))
    (turn : ∀ i v t m news it o h tk, i < n → v = .int (a₀ + (i : Int)) t → J i m news → (∀ p ∈ news, p.1 ≠ it) → Fr h₀ L h (fun y => if y = x then some v else m y) → News h₀ L h ((it, o) :: news) →
      wpAny (model prog w) A (execs body env) (Turn h₀ L it o (J (i + 1)) Q { s with heap := h, toks := tk }) noE { s with heap := h, toks := tk })
    (done : ∀ m news h tk, J n m news → Fr h₀ L h m → News h₀ L h news → Q .next { s with heap := h, toks := tk })
    (hh : A.handled = none) (hx : env.kindOf x = some .local) (hp : (env.scope.kind == .class || (env.scope.kind == .module && env.locals != env.globals)) = false)
    (hL : env.locals = L := by rfl) (hs : ∀ x, foldedSetIterable iter env x = pure x := by intro _; rfl) :
    wpAny (model prog w) A (exec (.For (.Name x px) iter body [] pos) env) Q noE s := by
  subst hL
  refine wpAny_For (wpAny_mono hiter (fun xv s₁ h₁ => ?_) fun _ _ e => e) hs
  obtain ⟨l, t₀, u₀, v₀, m, news, h, tk, rfl, hr, rfl, F, N, j0⟩ := h₁
  refine wpAny_pyIter_range hr hsmall ?_
  rw [hn]
  have hit : IsRangeIter (h.push { cls := .type "range_iterator", data := .fields #[rawInt a₀, rawInt (n : Int), rawInt 1] }) h.objs.size (a₀ + ((0 : Nat) : Int)) ((n : Int) - ((0 : Nat) : Int)) 1 := by
    have e : a₀ + ((0 : Nat) : Int) = a₀ := by simp
    have e' : (n : Int) - ((0 : Nat) : Int) = (n : Int) := by simp
    rw [e, e']
    exact Heap.get?_push_size _ rfl
  have hlt : ∀ b o, h.get? b = some o → b ≠ h.objs.size := fun b o e => Nat.ne_of_lt (Heap.lt_size e)
  refine codeAny_forLoop
    (fun k s' => ∃ h' tk m' i news', s' = { s with heap := h', toks := tk } ∧ IsRangeIter h' h.objs.size (a₀ + (i : Nat)) ((n : Int) - (i : Nat)) 1 ∧ Fr h₀ env.locals h' m' ∧ News h₀ env.locals h' news' ∧ (∀ p ∈ news', p.1 ≠ h.objs.size) ∧ J i m' news' ∧ i ≤ n ∧ k = n + 1 - i ∧ h.objs.size ≠ env.locals ∧ h₀.get? h.objs.size = none)
    ?_ (n + 1) ⟨_, tk, m, 0, news, rfl, hit, F.push _, fun p hp => ⟨Heap.get?_push_of_some _ (N p hp).1, (N p hp).2⟩, fun p hp => hlt _ _ (N p hp).1, j0, Nat.zero_le _, rfl, Nat.ne_of_gt F.ns.lt, ?_⟩
  · rintro k s' ⟨h', tk, m', i, news', rfl, hit', F', N', hne, hJ, hi, rfl, e1, e2⟩
    by_cases hend : i = n
    · subst hend
      refine wpAny_pyNext_range_end hh hit' (by omega) fun h₁ he₁ => wpAny_execs_nil ?_
      exact done m' news' h₁ tk hJ (frSame F' he₁ e1 e2) (newsSame N' he₁ hne)
    · have hlt' : i < n := Nat.lt_of_le_of_ne hi hend
      refine wpAny_pyNext_range_item hit' (by omega) fun h₁ hit₁ hs₁ => ?_
      have F₁ := frSame F' hs₁.extBut e1 e2
      have N₁ := newsSame N' hs₁.extBut hne
      refine wpAny_assign_Name (wpAny_storeName_local hx F₁.ns (fun h₂ hn₂ hs₂ => ?_) hp)
      have F₂ := F₁.set hn₂ hs₂
      have q : IsRangeIter h₂ h.objs.size (a₀ + ((i + 1 : Nat) : Int)) ((n : Int) - ((i + 1 : Nat) : Int)) 1 := by
        have e3 : a₀ + ((i + 1 : Nat) : Int) = a₀ + (i : Int) + 1 := by push_cast; omega
        have e4 : (n : Int) - ((i + 1 : Nat) : Int) = (n : Int) - (i : Int) - 1 := by push_cast; omega
        rw [e3, e4]
        exact hs₂.extBut _ _ e1 hit₁
      obtain ⟨o, ho, hoe⟩ : ∃ o, h₂.get? h.objs.size = some o ∧ ∀ h', h'.get? h.objs.size = some o → IsRangeIter h' h.objs.size (a₀ + ((i + 1 : Nat) : Int)) ((n : Int) - ((i + 1 : Nat) : Int)) 1 := ⟨_, q, fun _ e => e⟩
      have N₂ : News h₀ env.locals h₂ ((h.objs.size, o) :: news') := by
        intro p hp
        rcases List.mem_cons.mp hp with rfl | hp
        · exact ⟨ho, e1, e2⟩
        · exact ⟨hs₂.extBut _ _ (N₁ p hp).2.1 (N₁ p hp).1, (N₁ p hp).2⟩
      refine wpAny_mono (turn i _ _ m' news' h.objs.size o h₂ _ hlt' rfl hJ hne F₂ N₂) (fun f s₃ h₃ => ?_) fun _ _ e => e.elim
      cases f with
      | ret v => exact h₃
      | brk => exact h₃
      | next =>
        obtain ⟨m₃, news₃, h₃', tk₃, rfl, F₃, N₃, hn₃, hJ₃⟩ := h₃
        exact ⟨n + 1 - (i + 1), by omega, h₃', tk₃, m₃, i + 1, news₃, rfl, hoe _ (N₃ _ (.head _)).1, F₃, fun p hp => N₃ p (.tail _ hp), hn₃, hJ₃, hlt', rfl, e1, e2⟩
      | cont =>
        obtain ⟨m₃, news₃, h₃', tk₃, rfl, F₃, N₃, hn₃, hJ₃⟩ := h₃
        exact ⟨n + 1 - (i + 1), by omega, h₃', tk₃, m₃, i + 1, news₃, rfl, hoe _ (N₃ _ (.head _)).1, F₃, fun p hp => N₃ p (.tail _ hp), hn₃, hJ₃, hlt', rfl, e1, e2⟩
  · cases q : h₀.get? h.objs.size with
    | none => rfl
    | some o => exact absurd (Heap.lt_size (F.keep _ _ q)) (Nat.lt_irrefl _)

/-- a for over a tuple -/
theorem forTuple {x : Str} {px pos : Pos} {iter : Expr} {body : List Stmt} {l L : Addr} {items : Array Value} {Q : Flow → Shared → Prop}
    (J : Nat → (Str → Option Value) → List (Addr × Obj) → Prop)
    (hiter : wpAny (model prog w) A (eval iter env) (IterAt h₀ L s (J 0) (.ref l)) noE s)
    (hl : ∀ i m news h, J i m news → Fr h₀ L h m → News h₀ L h news → h.IsTuple l items)
    (turn : ∀ i v m news it o h tk, items[i]? = some v → J i m news → (∀ p ∈ news, p.1 ≠ it) → it ≠ l → Fr h₀ L h (fun y => if y = x then some v else m y) → News h₀ L h ((it, o) :: news) →
      wpAny (model prog w) A (execs body env) (Turn h₀ L it o (J (i + 1)) Q { s with heap := h, toks := tk }) noE { s with heap := h, toks := tk })
    (done : ∀ m news h tk, J items.size m news → Fr h₀ L h m → News h₀ L h news → Q .next { s with heap := h, toks := tk })
    (hh : A.handled = none) (hx : env.kindOf x = some .local) (hp : (env.scope.kind == .class || (env.scope.kind == .module && env.locals != env.globals)) = false)
    (hL : env.locals = L := by rfl) (hs : ∀ x, foldedSetIterable iter env x = pure x := by intro _; rfl) :
    wpAny (model prog w) A (exec (.For (.Name x px) iter body [] pos) env) Q noE s := by
  subst hL
  refine wpAny_For (wpAny_mono hiter (fun xv s₁ h₁ => ?_) fun _ _ e => e) hs
  obtain ⟨rfl, m, news, h, tk, rfl, F, N, j0⟩ := h₁
  have hls := hl 0 m news h j0 F N
  refine wpAny_pyIter_tuple hls ?_
  have hit : (h.push { cls := .type "tuple_iterator", data := .fields #[.ref l, .int 0 0] }).IsTupleIter h.objs.size l 0 := ⟨_, Heap.get?_push_size _ rfl, rfl, rfl⟩
  have hlt : ∀ b o, h.get? b = some o → b ≠ h.objs.size := fun b o e => Nat.ne_of_lt (Heap.lt_size e)
  refine codeAny_forLoop
    (fun n s' => ∃ h' tk m' i news', s' = { s with heap := h', toks := tk } ∧ h'.IsTupleIter h.objs.size l i ∧ Fr h₀ env.locals h' m' ∧ News h₀ env.locals h' news' ∧ (∀ p ∈ news', p.1 ≠ h.objs.size) ∧ J i m' news' ∧ i ≤ items.size ∧ n = items.size + 1 - i ∧ h.objs.size ≠ env.locals ∧ h₀.get? h.objs.size = none ∧ h.objs.size ≠ l)
    ?_ (items.size + 1) ⟨_, tk, m, 0, news, rfl, hit, F.push _, fun p hp => ⟨Heap.get?_push_of_some _ (N p hp).1, (N p hp).2⟩, fun p hp => hlt _ _ (N p hp).1, j0, Nat.zero_le _, rfl, Nat.ne_of_gt F.ns.lt, ?_, ?_⟩
  · rintro n s' ⟨h', tk, m', i, news', rfl, hit', F', N', hn, hJ, hi, rfl, e1, e2, e3⟩
    have hl' := hl i m' news' h' hJ F' N'
    cases hv : items[i]? with
    | none =>
      have hsz : i = items.size := Nat.le_antisymm hi (by simpa using hv)
      refine wpAny_pyNext_tuple_end hh hit' hl' hv fun h₁ he₁ => wpAny_execs_nil ?_
      exact done m' news' h₁ tk (hsz ▸ hJ) (frSame F' he₁ e1 e2) (newsSame N' he₁ hn)
    | some v =>
      have hlt' : i < items.size := (Array.getElem?_eq_some_iff.mp hv).1
      refine wpAny_pyNext_tuple_item hit' hl' hv fun h₁ hit₁ hs₁ => ?_
      have F₁ := frSame F' hs₁.extBut e1 e2
      have N₁ := newsSame N' hs₁.extBut hn
      refine wpAny_assign_Name (wpAny_storeName_local hx F₁.ns (fun h₂ hn₂ hs₂ => ?_) hp)
      have F₂ : Fr h₀ env.locals h₂ (fun y => if y = x then some v else m' y) := F₁.set hn₂ hs₂
      obtain ⟨o, ho, q1, q2⟩ := hit₁
      have N₂ : News h₀ env.locals h₂ ((h.objs.size, o) :: news') := by
        intro p hp
        rcases List.mem_cons.mp hp with rfl | hp
        · exact ⟨hs₂.extBut _ _ e1 ho, e1, e2⟩
        · exact ⟨hs₂.extBut _ _ (N₁ p hp).2.1 (N₁ p hp).1, (N₁ p hp).2⟩
      refine wpAny_mono (turn i v m' news' h.objs.size o h₂ _ hv hJ hn e3 F₂ N₂) (fun f s₃ h₃ => ?_) fun _ _ e => e.elim
      cases f with
      | ret v => exact h₃
      | brk => exact h₃
      | next =>
        obtain ⟨m₃, news₃, h₃', tk₃, rfl, F₃, N₃, hn₃, hJ₃⟩ := h₃
        exact ⟨items.size + 1 - (i + 1), by omega, h₃', tk₃, m₃, i + 1, news₃, rfl, ⟨o, (N₃ _ (.head _)).1, q1, q2⟩, F₃, fun p hp => N₃ p (.tail _ hp), hn₃, hJ₃, hlt', rfl, e1, e2, e3⟩
      | cont =>
        obtain ⟨m₃, news₃, h₃', tk₃, rfl, F₃, N₃, hn₃, hJ₃⟩ := h₃
        exact ⟨items.size + 1 - (i + 1), by omega, h₃', tk₃, m₃, i + 1, news₃, rfl, ⟨o, (N₃ _ (.head _)).1, q1, q2⟩, F₃, fun p hp => N₃ p (.tail _ hp), hn₃, hJ₃, hlt', rfl, e1, e2, e3⟩
  · cases q : h₀.get? h.objs.size with
    | none => rfl
    | some o => exact absurd (Heap.lt_size (F.keep _ _ q)) (Nat.lt_irrefl _)
  · obtain ⟨ol, hol, _⟩ := hls
    exact (hlt _ _ hol).symm

/-- what a turn of a while leaves -/
def TurnW (h₀ : Heap) (L : Addr) (J : Nat → (Str → Option Value) → List (Addr × Obj) → Prop) (k : Nat) (Q : Flow → Shared → Prop) (s : Shared) (f : Flow) (s₂ : Shared) : Prop :=
  match f with
  | .ret v => Q (.ret v) s₂
  | .brk => Q .next s₂
  | _ => ∃ k' m' news' h' tk', k' < k ∧ s₂ = { s with heap := h', toks := tk' } ∧ Fr h₀ L h' m' ∧ News h₀ L h' news' ∧ J k' m' news'
theorem whileK {test : Expr} {body : List Stmt} {pos : Pos} {L : Addr} {Q : Flow → Shared → Prop} {k₀ : Nat} {m₀ : Str → Option Value} {news₀ : List (Addr × Obj)}
    (J : Nat → (Str → Option Value) → List (Addr × Obj) → Prop) (j0 : J k₀ m₀ news₀) (F : Fr h₀ L s.heap m₀) (N : News h₀ L s.heap news₀)
    (turn : ∀ k m news h tk, J k m news → Fr h₀ L h m → News h₀ L h news →
      wpAny (model prog w) A (isTrue test env (eval test env)) (fun b s₂ => if b = true then wpAny (model prog w) A (execs body env) (TurnW h₀ L J k Q { s with heap := h, toks := tk }) noE s₂ else Q .next s₂) noE { s with heap := h, toks := tk }) :
    wpAny (model prog w) A (exec (.While test body [] pos) env) Q noE s := by
  refine wpAny_While (codeAny_whileLoop (fun k s' => ∃ m news h tk, s' = { s with heap := h, toks := tk } ∧ J k m news ∧ Fr h₀ L h m ∧ News h₀ L h news) ?_ k₀ ⟨m₀, news₀, s.heap, s.toks, rfl, j0, F, N⟩)
  rintro k s' ⟨m, news, h, tk, rfl, hJ, F', N'⟩
  refine wpAny_mono (turn k m news h tk hJ F' N') (fun b s₂ h₂ => ?_) fun _ _ e => e.elim
  cases b with
  | false => exact wpAny_execs_nil (by simpa using h₂)
  | true =>
    simp only [if_true] at h₂ ⊢
    refine wpAny_mono h₂ (fun f s₃ h₃ => ?_) fun _ _ e => e.elim
    have fin : (∃ k' m' news' h' tk', k' < k ∧ s₃ = { s with heap := h', toks := tk' } ∧ Fr h₀ L h' m' ∧ News h₀ L h' news' ∧ J k' m' news') → ∃ k', k' < k ∧ ∃ m news h tk, s₃ = { s with heap := h, toks := tk } ∧ J k' m news ∧ Fr h₀ L h m ∧ News h₀ L h news := by
      rintro ⟨k', m', news', h', tk', hk, e, F'', N'', hJ'⟩
      exact ⟨k', hk, m', news', h', tk', e, hJ', F'', N''⟩
    cases f with
    | ret v => exact h₃
    | brk => exact h₃
    | next => exact fin h₃
    | cont => exact fin h₃

/-- a zip of two lists of the base, made and not begun -/
def ZipAt (h₀ : Heap) (L l1 l2 : Addr) (xs ys : Array Value) (s : Shared) (J : (Str → Option Value) → Prop) (xv : Value) (s₁ : Shared) : Prop :=
  ∃ z TI TO i1 i2 m h tk, xv = .ref z ∧ s₁ = { s with heap := h, toks := tk } ∧ ZipApart z TI TO i1 i2 l1 l2 ∧
    (IsZip h z TI TO .none ∧ IsPair h TI (.ref i1) (.ref i2) ∧ (∃ a b, IsPair h TO a b) ∧ h.IsListIter i1 l1 0 ∧ h.IsListIter i2 l2 0 ∧ h.IsList l1 xs ∧ h.IsList l2 ys) ∧
    Fr h₀ L h m ∧ (∀ b ∈ [z, TI, TO, i1, i2], b ≠ L ∧ h₀.get? b = none) ∧ J m

theorem zipCall {L l1 l2 : Addr} {xs ys : Array Value} {m : Str → Option Value} {s₀ : Shared} {J : (Str → Option Value) → Prop} {Q : Value → Shared → Prop} (F : Fr h₀ L s.heap m) (hl1 : h₀.IsList l1 xs) (hl2 : h₀.IsList l2 ys)
    (hs : ∃ h tk, s = { s₀ with heap := h, toks := tk }) (hj : J m) (k : ∀ xv s₁, ZipAt h₀ L l1 l2 xs ys s₀ J xv s₁ → Q xv s₁) :
    wpAny (model prog w) A (call (.type "zip") [.ref l1, .ref l2] []) Q noE s := by
  have q1 : s.heap.IsList l1 xs := hl1.at fun o e => F.keep l1 o e
  have q2 : s.heap.IsList l2 ys := hl2.at fun o e => F.keep l2 o e
  obtain ⟨ol1, hol1, _⟩ := id q1
  obtain ⟨ol2, hol2, _⟩ := id q2
  have a1 : l1 < s.heap.objs.size := Heap.lt_size hol1
  have a2 : l2 < s.heap.objs.size := Heap.lt_size hol2
  refine call_zip_2 q1 q2 fun h' hz hTI hTO hi1 hi2 _ hk => k _ _ ?_
  obtain ⟨hh, tk, rfl⟩ := hs
  refine ⟨_, _, _, _, _, m, h', tk, rfl, rfl, zipApart_new a1 a2, ⟨hz, hTI, ⟨_, _, hTO⟩, hi1, hi2, q1.at fun o e => hk l1 o e, q2.at fun o e => hk l2 o e⟩, ⟨F.ns.keeps hk, fun b o e => hk b o (F.keep b o e), F.above⟩, ?_, hj⟩
  intro b hb
  have hL := F.ns.lt
  have hab := F.above
  have nw : ∀ k, hh.objs.size + k ≠ L ∧ h₀.get? (hh.objs.size + k) = none := fun k =>
    ⟨Nat.ne_of_gt (Nat.lt_of_lt_of_le hL (Nat.le_add_right _ k)), Heap.get?_none_of_le (Nat.le_trans hab (Nat.le_trans (Nat.le_of_lt hL) (Nat.le_add_right _ k)))⟩
  simp only [List.mem_cons, List.not_mem_nil, or_false] at hb
  rcases hb with rfl | rfl | rfl | rfl | rfl
  · exact nw 4
  · exact nw 2
  · exact nw 3
  · exact nw 0
  · exact nw 1

def TurnZ (h₀ : Heap) (L : Addr) (own : List (Addr × Obj)) (J : (Str → Option Value) → Prop) (Q : Flow → Shared → Prop) (s : Shared) (f : Flow) (s₂ : Shared) : Prop :=
  match f with
  | .ret v => Q (.ret v) s₂
  | .brk => Q .next s₂
  | _ => ∃ m' h' tk', s₂ = { s with heap := h', toks := tk' } ∧ Fr h₀ L h' m' ∧ News h₀ L h' own ∧ J m'

theorem forZip {x1 x2 : Str} {p1 p2 pt pos : Pos} {kt : Nat} {iter : Expr} {body : List Stmt} {l1 l2 L : Addr} {xs ys : Array Value} {Q : Flow → Shared → Prop}
    (J : Nat → (Str → Option Value) → Prop) (hl1 : h₀.IsList l1 xs) (hl2 : h₀.IsList l2 ys)
    (hiter : wpAny (model prog w) A (eval iter env) (ZipAt h₀ L l1 l2 xs ys s (J 0)) noE s)
    (turn : ∀ i v1 v2 m own h tk, xs[i]? = some v1 → ys[i]? = some v2 → J i m → Fr h₀ L h (fun y => if y = x2 then some v2 else if y = x1 then some v1 else m y) → News h₀ L h own →
      wpAny (model prog w) A (execs body env) (TurnZ h₀ L own (J (i + 1)) Q { s with heap := h, toks := tk }) noE { s with heap := h, toks := tk })
    (done : ∀ i m h tk, i = min xs.size ys.size → J i m → Fr h₀ L h m → Q .next { s with heap := h, toks := tk })
    (hh : A.handled = none) (hx1 : env.kindOf x1 = some .local) (hx2 : env.kindOf x2 = some .local) (hp : (env.scope.kind == .class || (env.scope.kind == .module && env.locals != env.globals)) = false)
    (hL : env.locals = L := by rfl) (hs : ∀ x, foldedSetIterable iter env x = pure x := by intro _; rfl) :
    wpAny (model prog w) A (exec (.For (.Tuple [.Name x1 p1, .Name x2 p2] kt pt) iter body [] pos) env) Q noE s := by
  subst hL
  refine wpAny_For (wpAny_mono hiter (fun xv s₁ h₁ => ?_) fun _ _ e => e) hs
  obtain ⟨z, TI, TO, i1, i2, m, h, tk, rfl, rfl, D, hst, F, hf, j0⟩ := h₁
  have W := WalksT.zip2 (prog := prog) (w := w) hh z TI TO i1 i2 l1 l2 D xs ys
  refine W.self 0 _ _ _ hst ?_
  have hLn : env.locals ∉ [z, TI, TO, i1, i2, l1, l2] := by
    intro hm
    have hlt : ∀ l its, h₀.IsList l its → env.locals ≠ l := fun l its hl e => by
      obtain ⟨o, ho, _⟩ := hl
      exact absurd (Heap.lt_size ho) (by rw [← e]; exact Nat.not_lt.mpr F.above)
    have hf' := fun b hb => (hf b hb).1
    simp only [List.mem_cons, List.not_mem_nil, or_false] at hm hf'
    rcases hm with e | e | e | e | e | e | e
    · exact hf' z (by simp) e.symm
    · exact hf' TI (by simp) e.symm
    · exact hf' TO (by simp) e.symm
    · exact hf' i1 (by simp) e.symm
    · exact hf' i2 (by simp) e.symm
    · exact hlt _ _ hl1 e
    · exact hlt _ _ hl2 e
  have hwr : ∀ b ∈ [z, TO, i1, i2], b ≠ env.locals ∧ h₀.get? b = none := fun b hb => hf b (by simp only [List.mem_cons, List.not_mem_nil, or_false] at hb ⊢; rcases hb with h | h | h | h <;> simp [h])
  have frW : ∀ {h h' : Heap} {m}, Fr h₀ env.locals h m → (∀ b o, b ∉ [z, TO, i1, i2] → h.get? b = some o → h'.get? b = some o) → Fr h₀ env.locals h' m := fun {h h' m} F hk => by
    obtain ⟨oL, es, ep, hL', r⟩ := F.ns
    exact ⟨⟨oL, es, ep, hk _ _ (fun hm => (hwr _ hm).1 rfl) hL', r⟩, fun b o e => hk b o (fun hm => by rw [(hwr _ hm).2] at e; cases e) (F.keep b o e), F.above⟩
  refine codeAny_forLoop_any
    (fun n s' => ∃ h' tk m' i, s' = { s with heap := h', toks := tk } ∧
      (IsZip h' z TI TO .none ∧ IsPair h' TI (.ref i1) (.ref i2) ∧ (∃ a b, IsPair h' TO a b) ∧ h'.IsListIter i1 l1 i ∧ h'.IsListIter i2 l2 i ∧ h'.IsList l1 xs ∧ h'.IsList l2 ys) ∧ Fr h₀ env.locals h' m' ∧ J i m' ∧ i ≤ min xs.size ys.size ∧ n = min xs.size ys.size + 1 - i)
    ?_ (min xs.size ys.size + 1) ⟨h, tk, m, 0, rfl, hst, F, j0, Nat.zero_le _, rfl⟩
  rintro n s' ⟨h', tk', m', i, rfl, hst', F', hJ, hi, rfl⟩
  by_cases hend : i = min xs.size ys.size
  · subst hend
    refine W.done _ _ _ hst' fun h₁ tk₁ hk => wpAny_execs_nil ?_
    exact done _ m' h₁ tk₁ rfl hJ (frW F' hk)
  · have hlt : i < min xs.size ys.size := Nat.lt_of_le_of_ne hi hend
    refine W.item i _ _ _ hlt hst' fun T vals h₁ tk₁ hP hT hTup hMid hk => ?_
    obtain ⟨v1, v2, hv1, hv2, rfl⟩ := hP
    have F₁ := frW F' hk
    refine W.go _ _ _ i T _ _ _ hMid fun h₂ hst₂ hk₂ => ?_
    have F₂ := frW F₁ hk₂
    have hTup₂ : h₂.IsTuple T #[v1, v2] := by
      obtain ⟨o, ho, r⟩ := hTup
      exact ⟨o, hk₂ _ _ (W.apart _ _ _ hMid) ho, r⟩
    refine wpAny_assign_Tuple hh hTup₂ rfl rfl fun h₃ hx₃ => ?_
    have F₃ : Fr h₀ env.locals h₃ m' := by
      refine frSame F₂ hx₃ (Nat.ne_of_gt F₂.ns.lt) ?_
      cases q : h₀.get? h₂.objs.size with
      | none => rfl
      | some o => exact absurd (Heap.lt_size (F₂.keep _ _ q)) (Nat.lt_irrefl _)
    have hne : ∀ b o, h₂.get? b = some o → b ≠ h₂.objs.size := fun b o e => Nat.ne_of_lt (Heap.lt_size e)
    have keep₃ : ∀ b o, h₂.get? b = some o → h₃.get? b = some o := fun b o e => hx₃ b o (hne b o e) e
    have hst₃ := W.frame (i + 1) _ h₃ hst₂ fun b _ o e => keep₃ b o e
    show wpAny _ _ (assignInOrder [_, _] [v1, v2]) _ _ _
    refine wpAny_bind (wpAny_holding (wpAny_assign_Name (wpAny_storeName_local hx1 F₃.ns (fun h₄ hn₄ hs₄ => ?_) hp)))
    have F₄ := F₃.set hn₄ hs₄
    have hst₄ := W.frame (i + 1) _ h₄ hst₃ fun b hb o e => hs₄.extBut b o (fun z => hLn (z ▸ hb)) e
    show wpAny _ _ (assignInOrder [_] [v2]) _ _ _
    refine wpAny_bind (wpAny_holding (wpAny_assign_Name (wpAny_storeName_local hx2 F₄.ns (fun h₅ hn₅ hs₅ => wpAny_pure ?_) hp)))
    have F₅ := F₄.set hn₅ hs₅
    have hst₅ := W.frame (i + 1) _ h₅ hst₄ fun b hb o e => hs₅.extBut b o (fun z => hLn (z ▸ hb)) e
    refine wpAny_mono (turn i v1 v2 m' (ownOf h₀ [z, TI, TO, i1, i2, l1, l2] h₅) h₅ _ hv1 hv2 hJ F₅ (news_ownOf hLn)) (fun f s₃ h₃ => ?_) fun _ _ e => e.elim
    have fin : (∃ m' h' tk', s₃ = { s with heap := h', toks := tk' } ∧ Fr h₀ env.locals h' m' ∧ News h₀ env.locals h' (ownOf h₀ [z, TI, TO, i1, i2, l1, l2] h₅) ∧ J (i + 1) m') →
        ∃ m, m < min xs.size ys.size + 1 - i ∧ ∃ h' tk m' i_1, s₃ = { s with heap := h', toks := tk } ∧
      (IsZip h' z TI TO .none ∧ IsPair h' TI (.ref i1) (.ref i2) ∧ (∃ a b, IsPair h' TO a b) ∧ h'.IsListIter i1 l1 i_1 ∧ h'.IsListIter i2 l2 i_1 ∧ h'.IsList l1 xs ∧ h'.IsList l2 ys) ∧ Fr h₀ env.locals h' m' ∧ J i_1 m' ∧ i_1 ≤ min xs.size ys.size ∧ m = min xs.size ys.size + 1 - i_1 := by
      rintro ⟨m₆, h₆, tk₆, e₆, F₆, N₆, hJ₆⟩
      refine ⟨min xs.size ys.size + 1 - (i + 1), by omega, h₆, tk₆, m₆, i + 1, e₆, W.frame (i + 1) _ h₆ hst₅ (fun b hb o e => ?_), F₆, hJ₆, hlt, rfl⟩
      cases q : h₀.get? b with
      | some o' =>
        have := F₅.keep b o' q
        rw [e] at this; cases this
        exact F₆.keep b _ q
      | none => exact (N₆ _ (mem_ownOf hb q e)).1
    cases f with
    | ret v => exact h₃
    | brk => exact h₃
    | next => exact fin h₃
    | cont => exact fin h₃
end
end Mine
namespace Mine
open PySem PySem.W PySem.Calls PyProof.Rows PySem.Spec
def TurnG (h₀ : Heap) (L it : Addr) (o : Obj) (J : Array GenState → (Str → Option Value) → List (Addr × Obj) → Prop) (Q : Flow → Shared → Prop) (s : Shared) (f : Flow) (s₂ : Shared) : Prop :=
  match f with
  | .ret v => Q (.ret v) s₂
  | .brk => Q .next s₂
  | _ => ∃ g' m' news' h' tk', s₂ = { s with heap := h', toks := tk', gens := g' } ∧ Fr h₀ L h' m' ∧ News h₀ L h' ((it, o) :: news') ∧ (∀ p ∈ news', p.1 ≠ it) ∧ J g' m' news'
section
variable {prog : Program} {w : World} {A : Around} {s : Shared} {env : Env} {h₀ : Heap}
theorem forListG {x : Str} {px pos : Pos} {iter : Expr} {body : List Stmt} {l L : Addr} {items : Array Value} {Q : Flow → Shared → Prop}
    (J : Nat → Array GenState → (Str → Option Value) → List (Addr × Obj) → Prop)
    (hiter : wpAny (model prog w) A (eval iter env) (IterAt h₀ L s (J 0 s.gens) (.ref l)) noE s)
    (hl : ∀ i g m news h, J i g m news → Fr h₀ L h m → News h₀ L h news → h.IsList l items)
    (turn : ∀ i v g m news it o h tk, items[i]? = some v → J i g m news → (∀ p ∈ news, p.1 ≠ it) → it ≠ l → Fr h₀ L h (fun y => if y = x then some v else m y) → News h₀ L h ((it, o) :: news) →
      wpAny (model prog w) A (execs body env) (TurnG h₀ L it o (J (i + 1)) Q { s with heap := h, toks := tk, gens := g }) noE { s with heap := h, toks := tk, gens := g })
    (done : ∀ g m news h tk, J items.size g m news → Fr h₀ L h m → News h₀ L h news → Q .next { s with heap := h, toks := tk, gens := g })
    (hh : A.handled = none) (hx : env.kindOf x = some .local) (hp : (env.scope.kind == .class || (env.scope.kind == .module && env.locals != env.globals)) = false)
    (hL : env.locals = L := by rfl) (hs : ∀ x, foldedSetIterable iter env x = pure x := by intro _; rfl) :
    wpAny (model prog w) A (exec (.For (.Name x px) iter body [] pos) env) Q noE s := by
  subst hL
  refine wpAny_For (wpAny_mono hiter (fun xv s₁ h₁ => ?_) fun _ _ e => e) hs
  obtain ⟨rfl, m, news, h, tk, rfl, F, N, j0⟩ := h₁
  have hls := hl 0 s.gens m news h j0 F N
  refine wpAny_pyIter_list hls ?_
  have hit : (h.push { cls := .type "list_iterator", data := .fields #[.ref l, .int 0 0] }).IsListIter h.objs.size l 0 := ⟨_, Heap.get?_push_size _ rfl, rfl, rfl⟩
  have hlt : ∀ b o, h.get? b = some o → b ≠ h.objs.size := fun b o e => Nat.ne_of_lt (Heap.lt_size e)
  refine codeAny_forLoop
    (fun n s' => ∃ h' tk g m' i news', s' = { s with heap := h', toks := tk, gens := g } ∧ h'.IsListIter h.objs.size l i ∧ Fr h₀ env.locals h' m' ∧ News h₀ env.locals h' news' ∧ (∀ p ∈ news', p.1 ≠ h.objs.size) ∧ J i g m' news' ∧ i ≤ items.size ∧ n = items.size + 1 - i ∧ h.objs.size ≠ env.locals ∧ h₀.get? h.objs.size = none ∧ h.objs.size ≠ l)
    ?_ (items.size + 1) ⟨_, tk, s.gens, m, 0, news, rfl, hit, F.push _, fun p hp => ⟨Heap.get?_push_of_some _ (N p hp).1, (N p hp).2⟩, fun p hp => hlt _ _ (N p hp).1, j0, Nat.zero_le _, rfl, Nat.ne_of_gt F.ns.lt, ?_, ?_⟩
  · rintro n s' ⟨h', tk, g, m', i, news', rfl, hit', F', N', hn, hJ, hi, rfl, e1, e2, e3⟩
    have hl' := hl i g m' news' h' hJ F' N'
    cases hv : items[i]? with
    | none =>
      have hsz : i = items.size := Nat.le_antisymm hi (by simpa using hv)
      refine wpAny_pyNext_list_end hh hit' hl' hv fun h₁ he₁ => wpAny_execs_nil ?_
      exact done g m' news' h₁ tk (hsz ▸ hJ) (frSame F' he₁ e1 e2) (newsSame N' he₁ hn)
    | some v =>
      have hlt' : i < items.size := (Array.getElem?_eq_some_iff.mp hv).1
      refine wpAny_pyNext_list_item hit' hl' hv fun h₁ hit₁ hs₁ => ?_
      have F₁ := frSame F' hs₁.extBut e1 e2
      have N₁ := newsSame N' hs₁.extBut hn
      refine wpAny_assign_Name (wpAny_storeName_local hx F₁.ns (fun h₂ hn₂ hs₂ => ?_) hp)
      have F₂ : Fr h₀ env.locals h₂ (fun y => if y = x then some v else m' y) := F₁.set hn₂ hs₂
      obtain ⟨o, ho, q1, q2⟩ := hit₁
      have N₂ : News h₀ env.locals h₂ ((h.objs.size, o) :: news') := by
        intro p hp
        rcases List.mem_cons.mp hp with rfl | hp
        · exact ⟨hs₂.extBut _ _ e1 ho, e1, e2⟩
        · exact ⟨hs₂.extBut _ _ (N₁ p hp).2.1 (N₁ p hp).1, (N₁ p hp).2⟩
      refine wpAny_mono (turn i v g m' news' h.objs.size o h₂ _ hv hJ hn e3 F₂ N₂) (fun f s₃ h₃ => ?_) fun _ _ e => e.elim
      cases f with
      | ret v => exact h₃
      | brk => exact h₃
      | next =>
        obtain ⟨g₃, m₃, news₃, h₃', tk₃, rfl, F₃, N₃, hn₃, hJ₃⟩ := h₃
        exact ⟨items.size + 1 - (i + 1), by omega, h₃', tk₃, g₃, m₃, i + 1, news₃, rfl, ⟨o, (N₃ _ (.head _)).1, q1, q2⟩, F₃, fun p hp => N₃ p (.tail _ hp), hn₃, hJ₃, hlt', rfl, e1, e2, e3⟩
      | cont =>
        obtain ⟨g₃, m₃, news₃, h₃', tk₃, rfl, F₃, N₃, hn₃, hJ₃⟩ := h₃
        exact ⟨items.size + 1 - (i + 1), by omega, h₃', tk₃, g₃, m₃, i + 1, news₃, rfl, ⟨o, (N₃ _ (.head _)).1, q1, q2⟩, F₃, fun p hp => N₃ p (.tail _ hp), hn₃, hJ₃, hlt', rfl, e1, e2, e3⟩
  · cases q : h₀.get? h.objs.size with
    | none => rfl
    | some o => exact absurd (Heap.lt_size (F.keep _ _ q)) (Nat.lt_irrefl _)
  · obtain ⟨ol, hol, _⟩ := hls
    exact (hlt _ _ hol).symm

end
end Mine
namespace Mine
open PySem PySem.W PySem.Calls PyProof.Rows
section
variable {prog : Program} {w : World} {A : Around} {E : Value → Shared → Prop} {s : Shared} {h₀ : Heap} {L d : Addr} {m : Str → Option Value} {own rest : List (Addr × Obj)} {ys : List Value} {n : Nat} {Q : Value → Shared → Prop}

/-- a list of the ledger is another behind a step -/
theorem listStep (f : Array Value → Array Value) {zs : List Value} (F : Fr h₀ L s.heap m) (N : News h₀ L s.heap (own ++ (d, listOf ys.toArray n) :: rest)) (h1 : ∀ p ∈ own, p.1 ≠ d) (h2 : ∀ p ∈ rest, p.1 ≠ d) (e : f ys.toArray = zs.toArray) :
    ∃ n', Fr h₀ L (s.heap.update d (Obj.mapSeq f)) m ∧ News h₀ L (s.heap.update d (Obj.mapSeq f)) (own ++ (d, listOf zs.toArray n') :: rest) := by
  have hm := N _ (List.mem_append_right own (List.Mem.head rest))
  have q := IsL.update (n := n) hm.1 f
  rw [e] at q
  exact ⟨_, F.change (Heap.SameBut.update ..) hm.2.1 hm.2.2, N.setIn h1 h2 (Heap.SameBut.update ..) q⟩

theorem appB {v : Value} (F : Fr h₀ L s.heap m) (N : News h₀ L s.heap (own ++ (d, listOf ys.toArray n) :: rest)) (h1 : ∀ p ∈ own, p.1 ≠ d) (h2 : ∀ p ∈ rest, p.1 ≠ d) (hz : ys.length ≤ 100000)
    (h : ∀ h' n', Fr h₀ L h' m → News h₀ L h' (own ++ (d, listOf (ys ++ [v]).toArray n') :: rest) → Q .none { s with heap := h' }) :
    wpAny (model prog w) A (call (.builtin "list.append") [.ref d, v] []) Q E s := by
  have hm := N _ (List.mem_append_right own (List.Mem.head rest))
  have hz' : ys.toArray.size ≤ sizeLine := by rw [List.size_toArray, sizeLine_eq]; omega
  obtain ⟨n', F', N'⟩ := listStep (fun xs => xs.push v) (zs := ys ++ [v]) F N h1 h2 (by simp)
  exact call_meets PySem.F.slot_list_append ⟨_, hm.1, rfl⟩ PySem.F.entry_list_append (PySem.F.args_list_append_2 _ _) (PySem.list_append d ys.toArray n v hz') ⟨hm.1, h _ n' F' N'⟩

theorem extB {b : Addr} {ws : List Value} {n2 : Nat} (F : Fr h₀ L s.heap m) (N : News h₀ L s.heap (own ++ (d, listOf ys.toArray n) :: rest)) (h1 : ∀ p ∈ own, p.1 ≠ d) (h2 : ∀ p ∈ rest, p.1 ≠ d)
    (hb : s.heap.get? b = some (listOf ws.toArray n2)) (hz : ys.length + ws.length ≤ 100000)
    (h : ∀ h' n', Fr h₀ L h' m → News h₀ L h' (own ++ (d, listOf (ys ++ ws).toArray n') :: rest) → Q .none { s with heap := h' }) :
    wpAny (model prog w) A (call (.builtin "list.extend") [.ref d, .ref b] []) Q E s :=
  extend_in F N h1 h2 hb (fun h' n' F' N' => h h' n' F' (by simpa using N')) (by rw [List.size_toArray, sizeLine_eq]; omega)

theorem clearB (F : Fr h₀ L s.heap m) (N : News h₀ L s.heap (own ++ (d, listOf ys.toArray n) :: rest)) (h1 : ∀ p ∈ own, p.1 ≠ d) (h2 : ∀ p ∈ rest, p.1 ≠ d) (hz : ys.length ≤ 100000)
    (h : ∀ h' n', Fr h₀ L h' m → News h₀ L h' (own ++ (d, listOf ([] : List Value).toArray n') :: rest) → Q .none { s with heap := h' }) :
    wpAny (model prog w) A (call (.builtin "list.clear") [.ref d] []) Q E s := by
  have hm := N _ (List.mem_append_right own (List.Mem.head rest))
  have hz' : ys.toArray.size ≤ sizeLine := by rw [List.size_toArray, sizeLine_eq]; omega
  obtain ⟨n', F', N'⟩ := listStep (fun _ => #[]) (zs := []) F N h1 h2 (by simp)
  exact call_meets PySem.F.slot_list_clear ⟨_, hm.1, rfl⟩ PySem.F.entry_list_clear (PySem.F.args_list_clear_1 _) (PySem.AutoSeq1.list_clear_list_0 d ys.toArray n hz') ⟨hm.1, h _ n' F' N'⟩
end
end Mine
namespace Mine
open PySem PySem.W PySem.Calls PyProof.Rows
theorem fill (w : World) (h : Heap) : (Mine.frag.heap_1 w.params).In h → PySem.Challenge.rw_bi0004_01.Holds → True := by k_fill; intros; trivial
local macro_rules | `(tactic| k_inst) => `(tactic| (refine' instBase ?F ?h1 ?h2; (case F => k_asm); (case h1 => assumption); (case h2 => assumption)))
local macro_rules | `(tactic| k_room) => `(tactic| ((try simp only [depth_under_make, depth_under_kw, depth_in1, depth_deeper, depth_caller]); omega))
local macro_rules | `(tactic| k_units) => `(tactic| ((try simp only [units_in1, units_deeper, Around.mark_units, units_caller]); omega))
variable {prog : Program} {w : World} {A : Around} {s : Shared} {p : Program} {loose : List Str} {mg mb : Str → Option Value} {Q E : Value → Shared → Prop}
set_option maxRecDepth 100000
set_option maxHeartbeats 4000000
theorem tn_sym (X : (Mine.frag.heap_1 w.params).In s.heap) (T : TopRead p loose mg mb s.heap) (hd : A.depth < recursionLimit) {x : Addr}
   (hQ : ∀ t h' tk, s.heap.StaysIn h' → Q (.str "Symbol" t) {s with heap := h', toks := tk}) :
   wpAny (model prog w) A (call (.ref 620) [.ref x] []) Q E s := by
  refine useCall (enter (binds := [("self", .ref x)]) X T.nolimit hd (by k_is) (by k_is) (BindsTo.of_eq rfl) (locs rfl) ?_)
  intro L h₁ F N hL
  k_steps
  exact hQ _ _ _ F.keep
theorem tn_var (X : (Mine.frag.heap_1 w.params).In s.heap) (T : TopRead p loose mg mb s.heap) (hd : A.depth < recursionLimit) {x : Addr}
   (hQ : ∀ t h' tk, s.heap.StaysIn h' → Q (.str "Wildcard" t) {s with heap := h', toks := tk}) :
   wpAny (model prog w) A (call (.ref 717) [.ref x] []) Q E s := by
  refine useCall (enter (binds := [("self", .ref x)]) X T.nolimit hd (by k_is) (by k_is) (BindsTo.of_eq rfl) (locs rfl) ?_)
  intro L h₁ F N hL
  k_steps
  exact hQ _ _ _ F.keep
theorem tn_op (X : (Mine.frag.heap_1 w.params).In s.heap) (T : TopRead p loose mg mb s.heap) (hd : A.depth < recursionLimit) {x : Addr} {k : Bool} {es : List Ex} (hx : IsEx w.params (at_ s.heap) (.ref x) (.op k es))
   (hQ : ∀ t h' tk, s.heap.StaysIn h' → Q (.str (kdCls k) t) {s with heap := h', toks := tk}) :
   wpAny (model prog w) A (call (.ref 465) [.ref x] []) Q E s := by
  refine useCall (enter (binds := [("self", .ref x)]) X T.nolimit hd (by k_is) (by k_is) (BindsTo.of_eq rfl) (locs rfl) ?_)
  intro L h₁ F N hL
  cases hx with | op ha hda hl hn hk hes =>
  cases hk with | mk hka hkd har =>
  k_steps
  exact hQ _ _ _ F.keep

theorem cmpX {K : Frag} {op : CmpOp} {x C f : Addr} {ox : Obj} {od : Option Obj} {b tb : Value} (hu : A.units < cLine) (X : K.In s.heap) (I : InstAt s.heap x ox C od) (hb : Looks (model prog w) s.heap (typeOf b) tb) (hn : notFirst K C tb = true)
    (hs : findIn K (.ref C) (cmpInfo op).2.1 = some (some (.ref f))) (hf : isFn K (.ref f) = true)
    (h : wpAny (model prog w) A (call (.ref f) [.ref x, b] []) (PySem.W.CmpBack Q) E s) : wpAny (model prog w) A (richCompare op (.ref x) b) Q E s := by
  have one : wpAny (model prog w) A (tryCompare (.ref x) (cmpInfo op).2.1 b) (fun r s' => ∃ v, r = some v ∧ Q v s') E s := by
    unfold tryCompare
    refine wpAny_bind (ifBound_K X I hs hf (wpAny_mono h (fun v s' hv => ?_) fun _ _ e => e))
    cases v <;> first | exact hv.elim | exact wpAny_pure ⟨_, rfl, hv⟩
  unfold richCompare
  simp only [oneThing_ref]
  refine wpAny_holding (wpAny_bind (wpAny_cRoomFor hu ?_))
  refine wpAny_bind (I.type.here (wpAny_bind (hb.here ?_)))
  have fin : wpAny (model prog w) A (tryCompare (.ref x) (cmpInfo op).2.1 b) (fun r s' => ∃ v, r = some v ∧ Q v s') E s := one
  split
  · rename_i q
    have e : subIn K tb (.ref C) = some false := by
      rcases Bool.or_eq_true_iff.mp hn with e | e
      · rw [beq_iff_eq.mp e] at q; simp at q
      · exact beq_iff_eq.mp e
    refine wpAny_bind ((looks_subIn X e).here ?_)
    simp only [Bool.false_eq_true, if_false]
    refine wpAny_bind (wpAny_mono fin (fun r s' z => ?_) fun _ _ e => e)
    obtain ⟨v, rfl, hq⟩ := z
    exact wpAny_pure hq
  · refine wpAny_bind (wpAny_pure ?_)
    simp only [Bool.false_eq_true, if_false]
    refine wpAny_bind (wpAny_mono fin (fun r s' z => ?_) fun _ _ e => e)
    obtain ⟨v, rfl, hq⟩ := z
    exact wpAny_pure hq

theorem instAt {h : Heap} {x C dx : Addr} {od : Obj} (h1 : h.get? x = some (instObj C dx)) (h2 : h.get? dx = some od) : InstAt h x (instObj C dx) C (some od) := ⟨h1, rfl, rfl, h2⟩

local macro_rules | `(tactic| walk_at "call ref") => `(tactic| (k_here; k_dflt (show wpAny _ _ (call (Value.ref 620) [Value.ref _] []) _ _ _); refine' tn_sym ?k1 ?k2 ?k3 ?_; (case k1 => k_in); (case k2 => exact TopRead.keeps (by k_asm) (Fr.keep (by k_asm))); (case k3 => k_room); intro t' h' tk' st'; (have F' := frStay (by k_asm) st'); (have N' := newsStay (by k_asm) st'); clear st'; (try k_sweep)))
local macro_rules | `(tactic| walk_at "call ref") => `(tactic| (k_here; k_dflt (show wpAny _ _ (call (Value.ref 717) [Value.ref _] []) _ _ _); refine' tn_var ?k1 ?k2 ?k3 ?_; (case k1 => k_in); (case k2 => exact TopRead.keeps (by k_asm) (Fr.keep (by k_asm))); (case k3 => k_room); intro t' h' tk' st'; (have F' := frStay (by k_asm) st'); (have N' := newsStay (by k_asm) st'); clear st'; (try k_sweep)))
local macro_rules | `(tactic| walk_at "call ref") => `(tactic| (k_here; k_dflt (show wpAny _ _ (call (Value.ref 465) [Value.ref _] []) _ _ _); refine' tn_op ?k1 ?k2 ?k3 ?k4 ?_; (case k1 => k_in); (case k2 => exact TopRead.keeps (by k_asm) (Fr.keep (by k_asm))); (case k3 => k_room); (case k4 => exact IsEx.mono (fun a o h => Fr.keep (by k_asm) a o h) (by assumption)); intro t' h' tk' st'; (have F' := frStay (by k_asm) st'); (have N' := newsStay (by k_asm) st'); clear st'; (try k_sweep)))


theorem truthy_nm {l : Leaf} {t : Tok} {Q : Bool → Shared → Prop} (h : ∀ k, Q true { s with toks := k }) : wpAny (model prog w) A (PySem.truthy (.str l.nm t)) Q E s := by
  refine SBL.truthy (by cases l <;> decide +kernel) ?_
  have e : ((l.nm.length : Int) != 0) = true := by cases l <;> decide +kernel
  rw [e]
  exact h _
local macro_rules | `(tactic| walk_at "truthy str") => `(tactic| (k_here; (with_reducible show wpAny _ _ (PySem.truthy (Value.str (Leaf.nm _) _)) _ _ _); refine truthy_nm ?_; intro _))


theorem e_ss1 {l m : Leaf} (hl : l.isVar = false) (hm : m.isVar = false) (he : (l.nm == m.nm) = true) : decide (("" : Str).cps.toList < ("" : Str).cps.toList) = (Ex.leaf l).lt (.leaf m) := by
  cases l <;> first | (exact absurd hl (by decide)) | (cases m <;> first | (exact absurd hm (by decide)) | (exact absurd he (by decide +kernel)) | decide +kernel)
theorem e_ss2 {l m : Leaf} (hl : l.isVar = false) (hm : m.isVar = false) (he : (l.nm == m.nm) = false) : decide (l.nm.cps.toList < m.nm.cps.toList) = (Ex.leaf l).lt (.leaf m) := by
  cases l <;> first | (exact absurd hl (by decide)) | (cases m <;> first | (exact absurd hm (by decide)) | (exact absurd he (by decide +kernel)) | decide +kernel)
theorem e_sv {l m : Leaf} (hl : l.isVar = false) (hm : m.isVar = true) : decide (("Symbol" : Str).cps.toList < ("Wildcard" : Str).cps.toList) = (Ex.leaf l).lt (.leaf m) := by
  cases l <;> first | (exact absurd hl (by decide)) | (cases m <;> first | (exact absurd hm (by decide)) | decide +kernel)
theorem e_vs {l m : Leaf} (hl : l.isVar = true) (hm : m.isVar = false) : decide (("Wildcard" : Str).cps.toList < ("Symbol" : Str).cps.toList) = (Ex.leaf l).lt (.leaf m) := by
  cases l <;> first | (exact absurd hl (by decide)) | (cases m <;> first | (exact absurd hm (by decide)) | decide +kernel)
theorem e_vv1 {l m : Leaf} (hl : l.isVar = true) (hm : m.isVar = true) (he : (l.nm != m.nm) = true) : decide (l.nm.cps.toList < m.nm.cps.toList) = (Ex.leaf l).lt (.leaf m) := by
  cases l <;> first | (exact absurd hl (by decide)) | (cases m <;> first | (exact absurd hm (by decide)) | (exact absurd he (by decide +kernel)) | decide +kernel)
theorem e_vv2 {l m : Leaf} (hl : l.isVar = true) (hm : m.isVar = true) (he : (l.nm != m.nm) = false) : false = (Ex.leaf l).lt (.leaf m) := by
  cases l <;> first | (exact absurd hl (by decide)) | (cases m <;> first | (exact absurd hm (by decide)) | (exact absurd he (by decide +kernel)) | decide +kernel)
theorem e_so {l : Leaf} {k : Bool} {es : List Ex} (hl : l.isVar = false) : decide (("Symbol" : Str).cps.toList < (kdCls k).cps.toList) = (Ex.leaf l).lt (.op k es) := by
  have h : ∀ n k, (Ex.leaf n).lt (.op k es) = (compare n.rk (opRk k) == .lt) := fun _ _ => rfl
  rw [h]
  cases l <;> first | (exact absurd hl (by decide)) | (cases k <;> decide +kernel)
theorem e_vo {l : Leaf} {k : Bool} {es : List Ex} (hl : l.isVar = true) : decide (("Wildcard" : Str).cps.toList < (kdCls k).cps.toList) = (Ex.leaf l).lt (.op k es) := by
  have h : ∀ n k, (Ex.leaf n).lt (.op k es) = (compare n.rk (opRk k) == .lt) := fun _ _ => rfl
  rw [h]
  cases l <;> first | (exact absurd hl (by decide)) | (cases k <;> decide +kernel)
theorem e_os {l : Leaf} {k : Bool} {es : List Ex} (hl : l.isVar = false) : decide ((kdCls k).cps.toList < ("Symbol" : Str).cps.toList) = (Ex.op k es).lt (.leaf l) := by
  have h : ∀ n k, (Ex.op k es).lt (.leaf n) = (compare (opRk k) n.rk == .lt) := fun _ _ => rfl
  rw [h]
  cases l <;> first | (exact absurd hl (by decide)) | (cases k <;> decide +kernel)
theorem e_ov {l : Leaf} {k : Bool} {es : List Ex} (hl : l.isVar = true) : decide ((kdCls k).cps.toList < ("Wildcard" : Str).cps.toList) = (Ex.op k es).lt (.leaf l) := by
  have h : ∀ n k, (Ex.op k es).lt (.leaf n) = (compare (opRk k) n.rk == .lt) := fun _ _ => rfl
  rw [h]
  cases l <;> first | (exact absurd hl (by decide)) | (cases k <;> decide +kernel)

theorem lt_leaf_leaf {a b : Addr} {l m : Leaf} (X : (Mine.frag.heap_1 w.params).In s.heap) (T : TopRead p loose mg mb s.heap) (hd : A.depth + 1 < recursionLimit) (hu : A.units + 10 < cLine)
    (ha : IsEx w.params (at_ s.heap) (.ref a) (.leaf l)) (hb : IsEx w.params (at_ s.heap) (.ref b) (.leaf m))
    (hQ : ∀ h' tk, s.heap.StaysIn h' → Q (.bool ((Ex.leaf l).lt (.leaf m))) {s with heap := h', toks := tk}) :
    wpAny (model prog w) A (compareOp .Lt (.ref a) (.ref b)) Q E s := by
  refine cmp_ofLt ?_
  cases ha with
  | sym hl h1 h2 =>
    cases hb with
    | sym hm q1 q2 =>
      refine cmpX (by omega) X (instAt h1 h2) (InstAt.type (instAt q1 q2)) (by k_is) (by k_is) (by k_is) ?_
      refine useCall (enter (binds := [("self", .ref a), ("other", .ref b)]) X T.nolimit (by omega) (by k_is) (by k_is) (BindsTo.of_eq rfl) (locs rfl) ?_)
      intro L h₁ F N hL
      (try k_fold)
      k_steps
      all_goals (refine qb (Q := Q) ?_ (hQ _ _ (Fr.keep (by k_asm))))
      all_goals first | exact e_ss1 hl hm (by assumption) | exact e_ss2 hl hm (by assumption) | exact e_ss2 hl hm (by simpa using (by assumption))

    | var hm q1 q2 =>
      refine cmpX (by omega) X (instAt h1 h2) (InstAt.type (instAt q1 q2)) (by k_is) (by k_is) (by k_is) ?_
      refine useCall (enter (binds := [("self", .ref a), ("other", .ref b)]) X T.nolimit (by omega) (by k_is) (by k_is) (BindsTo.of_eq rfl) (locs rfl) ?_)
      intro L h₁ F N hL
      (try k_fold)
      k_steps
      all_goals (refine qb (Q := Q) ?_ (hQ _ _ (Fr.keep (by k_asm))))
      all_goals first | exact e_sv hl hm

  | var hl h1 h2 =>
    cases hb with
    | sym hm q1 q2 =>
      refine cmpX (by omega) X (instAt h1 h2) (InstAt.type (instAt q1 q2)) (by k_is) (by k_is) (by k_is) ?_
      refine useCall (enter (binds := [("self", .ref a), ("other", .ref b)]) X T.nolimit (by omega) (by k_is) (by k_is) (BindsTo.of_eq rfl) (locs rfl) ?_)
      intro L h₁ F N hL
      (try k_fold)
      k_steps
      all_goals (refine qb (Q := Q) ?_ (hQ _ _ (Fr.keep (by k_asm))))
      all_goals first | exact e_vs hl hm

    | var hm q1 q2 =>
      refine cmpX (by omega) X (instAt h1 h2) (InstAt.type (instAt q1 q2)) (by k_is) (by k_is) (by k_is) ?_
      refine useCall (enter (binds := [("self", .ref a), ("other", .ref b)]) X T.nolimit (by omega) (by k_is) (by k_is) (BindsTo.of_eq rfl) (locs rfl) ?_)
      intro L h₁ F N hL
      (try k_fold)
      k_steps
      all_goals (refine qb (Q := Q) ?_ (hQ _ _ (Fr.keep (by k_asm))))
      all_goals first | exact e_vv1 hl hm (by assumption) | exact e_vv2 hl hm (by assumption) | trace_state

theorem lt_leaf_op {a b : Addr} {l : Leaf} {k : Bool} {es : List Ex} (X : (Mine.frag.heap_1 w.params).In s.heap) (T : TopRead p loose mg mb s.heap) (hd : A.depth + 1 < recursionLimit) (hu : A.units + 10 < cLine)
    (ha : IsEx w.params (at_ s.heap) (.ref a) (.leaf l)) (hb : IsEx w.params (at_ s.heap) (.ref b) (.op k es))
    (hQ : ∀ h' tk, s.heap.StaysIn h' → Q (.bool ((Ex.leaf l).lt (.op k es))) {s with heap := h', toks := tk}) :
    wpAny (model prog w) A (compareOp .Lt (.ref a) (.ref b)) Q E s := by
  refine cmp_ofLt ?_
  have hb' := hb
  cases hb with
  | op q1 q2 q3 q6 q4 q5 =>
    cases ha with
    | sym hl h1 h2 =>
      refine cmpX (by omega) X (instAt h1 h2) (InstAt.type (instAt q1 q2)) (by k_is) (by k_is) (by k_is) ?_
      refine useCall (enter (binds := [("self", .ref a), ("other", .ref b)]) X T.nolimit (by omega) (by k_is) (by k_is) (BindsTo.of_eq rfl) (locs rfl) ?_)
      intro L h₁ F N hL
      (try k_fold)
      k_steps
      all_goals (refine qb (Q := Q) ?_ (hQ _ _ (Fr.keep (by k_asm))))
      all_goals first | exact e_so hl

    | var hl h1 h2 =>
      refine cmpX (by omega) X (instAt h1 h2) (InstAt.type (instAt q1 q2)) (by k_is) (by k_is) (by k_is) ?_
      refine useCall (enter (binds := [("self", .ref a), ("other", .ref b)]) X T.nolimit (by omega) (by k_is) (by k_is) (BindsTo.of_eq rfl) (locs rfl) ?_)
      intro L h₁ F N hL
      (try k_fold)
      k_steps
      all_goals (refine qb (Q := Q) ?_ (hQ _ _ (Fr.keep (by k_asm))))
      all_goals first | exact e_vo hl

theorem lt_op_leaf {a b : Addr} {l : Leaf} {k : Bool} {es : List Ex} (X : (Mine.frag.heap_1 w.params).In s.heap) (T : TopRead p loose mg mb s.heap) (hd : A.depth + 1 < recursionLimit) (hu : A.units + 10 < cLine)
    (ha : IsEx w.params (at_ s.heap) (.ref a) (.op k es)) (hb : IsEx w.params (at_ s.heap) (.ref b) (.leaf l))
    (hQ : ∀ h' tk, s.heap.StaysIn h' → Q (.bool ((Ex.op k es).lt (.leaf l))) {s with heap := h', toks := tk}) :
    wpAny (model prog w) A (compareOp .Lt (.ref a) (.ref b)) Q E s := by
  refine cmp_ofLt ?_
  have ha' := ha
  cases ha with
  | op h1 h2 h3 h6 h4 h5 =>
    cases hb with
    | sym hl q1 q2 =>
      refine cmpX (by omega) X (instAt h1 h2) (InstAt.type (instAt q1 q2)) (by k_is) (by k_is) (by k_is) ?_
      refine useCall (enter (binds := [("self", .ref a), ("other", .ref b)]) X T.nolimit (by omega) (by k_is) (by k_is) (BindsTo.of_eq rfl) (locs rfl) ?_)
      intro L h₁ F N hL
      (try k_fold)
      k_steps
      all_goals (refine qb (Q := Q) ?_ (hQ _ _ (Fr.keep (by k_asm))))
      all_goals first | exact e_os hl

    | var hl q1 q2 =>
      refine cmpX (by omega) X (instAt h1 h2) (InstAt.type (instAt q1 q2)) (by k_is) (by k_is) (by k_is) ?_
      refine useCall (enter (binds := [("self", .ref a), ("other", .ref b)]) X T.nolimit (by omega) (by k_is) (by k_is) (BindsTo.of_eq rfl) (locs rfl) ?_)
      intro L h₁ F N hL
      (try k_fold)
      k_steps
      all_goals (refine qb (Q := Q) ?_ (hQ _ _ (Fr.keep (by k_asm))))
      all_goals first | exact e_ov hl

end Mine
namespace Mine
open PySem PySem.W PySem.Calls PyProof.Rows
local macro_rules | `(tactic| k_inst) => `(tactic| (refine' instBase ?F ?h1 ?h2; (case F => k_asm); (case h1 => assumption); (case h2 => assumption)))
local macro_rules | `(tactic| k_room) => `(tactic| ((try simp only [depth_under_make, depth_under_kw, depth_in1, depth_deeper, depth_caller]); omega))
local macro_rules | `(tactic| k_units) => `(tactic| ((try simp only [units_in1, units_deeper, Around.mark_units, units_caller]); omega))
local macro_rules | `(tactic| walk_at "exec For") => `(tactic| (k_here; refine Hold.mk ?_))
local macro_rules | `(tactic| walk_at "truthy str") => `(tactic| (k_here; (with_reducible show wpAny _ _ (PySem.truthy (Value.str (Leaf.nm _) _)) _ _ _); refine truthy_nm ?_; intro _))
local macro_rules | `(tactic| walk_at "call builtin:len") => `(tactic| (k_here; (with_reducible show wpAny _ _ (call (Value.builtin "len") [Value.ref _] []) _ _ _); refine' lenB ?k1 ?k2 ?k3 ?_; (case k1 => k_asm); (case k2 => assumption); (case k3 => assumption); intro t' k'))
local macro_rules | `(tactic| walk_at "call type:zip") => `(tactic| (k_here; refine Hold.mk ?_))
local macro_rules | `(tactic| walk_at "compareOp Lt ref") => `(tactic| (k_here; (with_reducible show wpAny _ _ (compareOp CmpOp.Lt (Value.ref _) (Value.ref _)) _ _ _); refine Hold.mk ?_))
local macro_rules | `(tactic| walk_at "call ref") => `(tactic| (k_here; k_dflt (show wpAny _ _ (call (Value.ref 620) [Value.ref _] []) _ _ _); refine' tn_sym ?k1 ?k2 ?k3 ?_; (case k1 => k_in); (case k2 => exact TopRead.keeps (by k_asm) (Fr.keep (by k_asm))); (case k3 => k_room); intro t' h' tk' st'; (have F' := frStay (by k_asm) st'); (have N' := newsStay (by k_asm) st'); clear st'; (try k_sweep)))
local macro_rules | `(tactic| walk_at "call ref") => `(tactic| (k_here; k_dflt (show wpAny _ _ (call (Value.ref 717) [Value.ref _] []) _ _ _); refine' tn_var ?k1 ?k2 ?k3 ?_; (case k1 => k_in); (case k2 => exact TopRead.keeps (by k_asm) (Fr.keep (by k_asm))); (case k3 => k_room); intro t' h' tk' st'; (have F' := frStay (by k_asm) st'); (have N' := newsStay (by k_asm) st'); clear st'; (try k_sweep)))
local macro_rules | `(tactic| walk_at "call ref") => `(tactic| (k_here; k_dflt (show wpAny _ _ (call (Value.ref 465) [Value.ref _] []) _ _ _); refine' tn_op ?k1 ?k2 ?k3 ?k4 ?_; (case k1 => k_in); (case k2 => exact TopRead.keeps (by k_asm) (Fr.keep (by k_asm))); (case k3 => k_room); (case k4 => exact IsEx.mono (fun a o h => Fr.keep (by k_asm) a o h) (by assumption)); intro t' h' tk' st'; (have F' := frStay (by k_asm) st'); (have N' := newsStay (by k_asm) st'); clear st'; (try k_sweep)))
set_option maxRecDepth 100000
set_option maxHeartbeats 4000000
/-- the contract of «less than» -/
def LtC (w : World) (ea eb : Ex) (d u : Nat) : Prop := ∀ ⦃prog : Program⦄ ⦃A : Around⦄ ⦃s : Shared⦄ ⦃p : Program⦄ ⦃loose : List Str⦄ ⦃mg mb : Str → Option Value⦄ ⦃Q E : Value → Shared → Prop⦄ ⦃va vb : Value⦄,
  (Mine.frag.heap_1 w.params).In s.heap → TopRead p loose mg mb s.heap → A.handled = none → A.depth + d < recursionLimit → A.units + u < cLine → IsEx w.params (at_ s.heap) va ea → IsEx w.params (at_ s.heap) vb eb →
  (∀ h' tk, s.heap.StaysIn h' → Q (.bool (ea.lt eb)) { s with heap := h', toks := tk }) → wpAny (model prog w) A (compareOp .Lt va vb) Q E s

variable {prog : Program} {w : World} {A : Around} {s : Shared} {p : Program} {loose : List Str} {mg mb : Str → Option Value} {Q E : Value → Shared → Prop}

theorem lt_op_op {k k' : Bool} {es fs : List Ex} {d u : Nat} (ih : ∀ e ∈ es, ∀ f ∈ fs, LtC w e f d u ∧ LtC w f e d u) : LtC w (.op k es) (.op k' fs) (d + 3) (u + 20) := by
  intro prog A s p loose mg mb Q E va vb X T hh hd hu ha hb hQ
  have ha' := ha
  have hb' := hb
  cases ha with
  | op h1 h2 h3 h6 h4 h5 =>
    cases hb with
    | op q1 q2 q3 q6 q4 q5 =>
      rename_i a da la kda ara vsa na _ _ _ _ _ _ _ _ _ b db lb kdb arb vsb nb _ _ _ _ _ _ _ _ _
      refine cmp_ofLt ?_
      refine cmpX (by omega) X (instAt h1 h2) (InstAt.type (instAt q1 q2)) (by k_is) (by k_is) (by k_is) ?_
      refine useCall (enter (binds := [("self", .ref a), ("other", .ref b)]) X T.nolimit (by omega) (by k_is) (by k_is) (BindsTo.of_eq rfl) (locs rfl) ?_)
      intro L h₁ F N hL
      by_cases hk : k = k'
      · subst hk
        have hla : s.heap.IsList la vsa.toArray := ⟨_, h3, rfl, _, rfl⟩
        have hlb : s.heap.IsList lb vsb.toArray := ⟨_, q3, rfl, _, rfl⟩
        (try k_fold)
        k_steps
        · exact absurd (by assumption : (kdName k != kdName k) = true) (by simp)
        · refine qb (Q := Q) ?_ (hQ _ _ (Fr.keep (by k_asm)))
          rename ((_ : Int) ≠ _) => hne
          rw [h5.length, q5.length] at hne ⊢
          rw [lt_ops, if_neg (by omega)]
          exact decide_eq_decide.mpr (by omega)
        · rename ((_ : Int) = _) => heq
          rw [h5.length, q5.length] at heq
          have heq' : es.length = fs.length := by omega
          refine Hold.intro ?_
          refine forZip (fun i m => (∀ y, y ≠ ("left" : Str) → y ≠ ("right" : Str) → m y = List.lookup y [(("self" : Str), Value.ref a), (("other" : Str), Value.ref b)].reverse) ∧ cmpL es fs = cmpL (es.drop i) (fs.drop i)) hla hlb ?_ ?_ ?_ ?_ (by with_unfolding_all rfl) (by with_unfolding_all rfl) (by with_unfolding_all rfl)
          · k_steps
            exact Hold.intro (zipCall (by k_asm) hla hlb ⟨_, _, rfl⟩ ⟨fun _ _ _ => rfl, rfl⟩ fun _ _ h => h)
          · intro i v1 v2 m own h tk e1 e2 hJ F N
            obtain ⟨hm, hc⟩ := hJ
            rw [mapTwo hm] at F
            obtain ⟨e, he, hv1⟩ := h5.get (i := i) (v := v1) (by simpa using e1)
            obtain ⟨f, hf, hv2⟩ := q5.get (i := i) (v := v2) (by simpa using e2)
            obtain ⟨x1, rfl⟩ := hv1.isRef
            obtain ⟨x2, rfl⟩ := hv2.isRef
            obtain ⟨c1, c2⟩ := ih e (List.mem_of_getElem? he) f (List.mem_of_getElem? hf)
            (try k_fold)
            k_steps
            refine Hold.intro (c1 (X.keeps (Fr.keep (by k_asm))) (T.keeps (Fr.keep (by k_asm))) hh (by simp only [depth_deeper]; omega) (by simp only [units_deeper]; omega) (hv1.mono fun a o h => Fr.keep (by k_asm) a o h) (hv2.mono fun a o h => Fr.keep (by k_asm) a o h) ?_)
            intro h' tk' st'
            have F' := frStay F st'
            have N' := newsStay N st'
            cases hlt : e.lt f with
            | true =>
              k_steps
              refine qb (Q := Q) ?_ (hQ _ _ (Fr.keep (by k_asm)))
              rw [lt_ops, if_pos (by omega), hc, cmpL_drop he hf, cmp_of_lt hlt]; rfl
            | false =>
              k_steps
              refine Hold.intro (c2 (X.keeps (Fr.keep (by k_asm))) (T.keeps (Fr.keep (by k_asm))) hh (by simp only [depth_deeper]; omega) (by simp only [units_deeper]; omega) (hv2.mono fun a o h => Fr.keep (by k_asm) a o h) (hv1.mono fun a o h => Fr.keep (by k_asm) a o h) ?_)
              intro h'' tk'' st''
              have F'' := frStay F' st''
              have N'' := newsStay N' st''
              cases hgt : f.lt e with
              | true =>
                k_steps
                refine qb (Q := Q) ?_ (hQ _ _ (Fr.keep (by k_asm)))
                rw [lt_ops, if_pos (by omega), hc, cmpL_drop he hf, cmp_of_gt hgt]; rfl
              | false =>
                k_steps
                refine ⟨_, _, _, rfl, (by k_asm), (by k_asm), fun y n1 n2 => ?_, ?_⟩
                · simp only [n1, n2, if_false]
                · rw [hc, cmpL_drop he hf, cmp_of_not hlt hgt]; rfl
          · rintro i m h tk hi ⟨hm, hc⟩ F
            rw [mapTwo hm] at F
            have N : News s.heap L h [] := News.nil
            have hlen : i = es.length := by rw [hi, List.size_toArray, List.size_toArray, h5.length, q5.length]; omega
            subst hlen
            k_steps
            refine qb (Q := Q) ?_ (hQ _ _ (Fr.keep (by k_asm)))
            rw [lt_ops, if_pos (by omega), hc, List.drop_length, heq', List.drop_length]
            decide +kernel
          · exact hh
      · (try k_fold)
        k_steps
        all_goals first
          | exact absurd (by assumption : (kdName k' != kdName k) = false) (by cases k <;> cases k' <;> first | exact absurd rfl hk | decide +kernel)
          | (refine qb (Q := Q) ?_ (hQ _ _ (Fr.keep (by k_asm))); rw [lt_kinds _ _ hk]; cases k <;> cases k' <;> first | exact absurd rfl hk | decide +kernel)
end Mine
namespace Mine
open PySem PySem.W PySem.Calls PyProof.Rows
theorem LtC.up {w : World} {ea eb : Ex} {d u d' u' : Nat} (h : LtC w ea eb d u) (hd : d ≤ d') (hu : u ≤ u') : LtC w ea eb d' u' := by
  intro prog A s p loose mg mb Q E va vb X T hh h1 h2 ha hb hQ
  exact h X T hh (by omega) (by omega) ha hb hQ
theorem lt_ex (w : World) : ∀ n, ∀ ea eb : Ex, ea.ht < n → eb.ht < n → LtC w ea eb (3 * n) (20 * n)
  | 0, _, _, h, _ => absurd h (Nat.not_lt_zero _)
  | n + 1, ea, eb, ha, hb => by
    cases ea with
    | leaf l =>
      cases eb with
      | leaf m =>
        intro prog A s p loose mg mb Q E va vb X T hh h1 h2 ha hb hQ
        obtain ⟨a, rfl⟩ := ha.isRef
        obtain ⟨b, rfl⟩ := hb.isRef
        exact lt_leaf_leaf X T (by omega) (by omega) ha hb hQ
      | op k es =>
        intro prog A s p loose mg mb Q E va vb X T hh h1 h2 ha hb hQ
        obtain ⟨a, rfl⟩ := ha.isRef
        obtain ⟨b, rfl⟩ := hb.isRef
        exact lt_leaf_op X T (by omega) (by omega) ha hb hQ
    | op k es =>
      cases eb with
      | leaf m =>
        intro prog A s p loose mg mb Q E va vb X T hh h1 h2 ha hb hQ
        obtain ⟨a, rfl⟩ := ha.isRef
        obtain ⟨b, rfl⟩ := hb.isRef
        exact lt_op_leaf X T (by omega) (by omega) ha hb hQ
      | op k' fs =>
        rw [Ex.ht] at ha hb
        refine LtC.up (lt_op_op (d := 3 * n) (u := 20 * n) fun e he f hf => ?_) (by omega) (by omega)
        have e1 := ht_mem he
        have f1 := ht_mem hf
        exact ⟨lt_ex w n e f (by omega) (by omega), lt_ex w n f e (by omega) (by omega)⟩
end Mine
namespace Mine
open PySem PySem.W PySem.Calls PyProof.Rows
/-- each value bears its expression -/
def Bears (P : Params) (S : Facts) (ps : List (Value × Ex)) : Prop := ∀ p ∈ ps, IsEx P S p.1 p.2
theorem Bears.perm {P : Params} {S : Facts} {ps qs : List (Value × Ex)} (h : Bears P S ps) (p : qs.Perm ps) : Bears P S qs := fun q hq => h q (p.mem_iff.mp hq)
local macro_rules | `(tactic| k_inst) => `(tactic| (refine' instBase ?F ?h1 ?h2; (case F => k_asm); (case h1 => assumption); (case h2 => assumption)))
local macro_rules | `(tactic| k_room) => `(tactic| ((try simp only [depth_under_make, depth_under_kw, depth_in1, depth_deeper, depth_caller]); omega))
local macro_rules | `(tactic| k_units) => `(tactic| ((try simp only [units_in1, units_deeper, Around.mark_units, units_caller]); omega))
local macro_rules | `(tactic| walk_at "exec For") => `(tactic| (k_here; refine Hold.mk ?_))
local macro_rules | `(tactic| walk_at "truthy str") => `(tactic| (k_here; (with_reducible show wpAny _ _ (PySem.truthy (Value.str (Leaf.nm _) _)) _ _ _); refine truthy_nm ?_; intro _))
local macro_rules | `(tactic| walk_at "call builtin:len") => `(tactic| (k_here; (with_reducible show wpAny _ _ (call (Value.builtin "len") [Value.ref _] []) _ _ _); refine' lenB ?k1 ?k2 ?k3 ?_; (case k1 => k_asm); (case k2 => assumption); (case k3 => assumption); intro t' k'))
local macro_rules | `(tactic| walk_at "call type:zip") => `(tactic| (k_here; refine Hold.mk ?_))
local macro_rules | `(tactic| walk_at "compareOp Lt ref") => `(tactic| (k_here; (with_reducible show wpAny _ _ (compareOp CmpOp.Lt (Value.ref _) (Value.ref _)) _ _ _); refine Hold.mk ?_))
local macro_rules | `(tactic| walk_at "exec For Name Call cons nil") => `(tactic| (k_here; refine Hold.mk ?_))
local macro_rules | `(tactic| walk_at "exec For Name Name cons nil") => `(tactic| (k_here; refine Hold.mk ?_))
local macro_rules | `(tactic| walk_at "exec For Name Attribute cons nil") => `(tactic| (k_here; refine Hold.mk ?_))
local macro_rules | `(tactic| walk_at "exec For Name Subscript cons nil") => `(tactic| (k_here; refine Hold.mk ?_))
local macro_rules | `(tactic| walk_at "exec For Tuple Call cons nil") => `(tactic| (k_here; refine Hold.mk ?_))
local macro_rules | `(tactic| walk_at "exec For Name Tuple cons nil") => `(tactic| (k_here; refine Hold.mk ?_))
local macro_rules | `(tactic| walk_at "exec For Name Call") => `(tactic| (k_here; refine Hold.mk ?_))
local macro_rules | `(tactic| walk_at "exec For Name Name") => `(tactic| (k_here; refine Hold.mk ?_))
local macro_rules | `(tactic| walk_at "exec For Tuple Call") => `(tactic| (k_here; refine Hold.mk ?_))
local macro_rules | `(tactic| walk_at "exec While Compare cons nil") => `(tactic| (k_here; refine Hold.mk ?_))
local macro_rules | `(tactic| walk_at "exec While BoolOp cons nil") => `(tactic| (k_here; refine Hold.mk ?_))
local macro_rules | `(tactic| walk_at "exec While Compare") => `(tactic| (k_here; refine Hold.mk ?_))
local macro_rules | `(tactic| walk_at "exec While BoolOp") => `(tactic| (k_here; refine Hold.mk ?_))
local macro_rules | `(tactic| walk_at "call builtin:len") => `(tactic| (k_here; (with_reducible show wpAny _ _ (call (Value.builtin "len") [Value.ref _] []) _ _ _); refine' lenN ?k1 ?k2 ?k3 ?_; (case k1 => k_asm); (case k2 => k_mem); (case k3 => simp only [List.length_map]; omega); intro t' k'))
local macro_rules | `(tactic| walk_at "exec While") => `(tactic| (k_here; refine Hold.mk ?_))
local macro_rules | `(tactic| walk_at "call type:range") => `(tactic| (k_here; refine Hold.mk ?_))
local macro_rules | `(tactic| walk_at "subscriptTail") => `(tactic| (k_here; refine Hold.mk ?_))
local macro_rules | `(tactic| walk_at "subscriptTail Name Constant ref int") => `(tactic| (k_here; refine Hold.mk ?_))
local macro_rules | `(tactic| walk_at "subscriptTail Name BinOp ref int") => `(tactic| (k_here; refine Hold.mk ?_))
local macro_rules | `(tactic| walk_at "subscriptTail Name Name ref int") => `(tactic| (k_here; refine Hold.mk ?_))
local macro_rules | `(tactic| walk_at "subscriptTail Call Name cons nil Constant ref int") => `(tactic| (k_here; refine Hold.mk ?_))
local macro_rules | `(tactic| walk_at "subscriptTail Attribute Name Constant ref int") => `(tactic| (k_here; refine Hold.mk ?_))
local macro_rules | `(tactic| walk_at "subscriptTail Constant str BinOp str int") => `(tactic| (k_here; refine Hold.mk ?_))
local macro_rules | `(tactic| walk_at "subscriptTail Constant str Name str int") => `(tactic| (k_here; refine Hold.mk ?_))
local macro_rules | `(tactic| walk_at "subscriptTail Name Attribute ref str") => `(tactic| (k_here; refine Hold.mk ?_))
local macro_rules | `(tactic| walk_at "subscriptTail Name Subscript ref str") => `(tactic| (k_here; refine Hold.mk ?_))
local macro_rules | `(tactic| walk_at "setItem ref int") => `(tactic| (k_here; refine Hold.mk ?_))
local macro_rules | `(tactic| walk_at "setItem ref int ref") => `(tactic| (k_here; refine Hold.mk ?_))
set_option maxRecDepth 100000
set_option maxHeartbeats 4000000
variable {prog : Program} {w : World} {A : Around} {s : Shared} {p : Program} {loose : List Str} {mg mb : Str → Option Value} {Q E : Value → Shared → Prop}

theorem sorted_short {l : List Ex} (h : l.length ≤ 1) : Sorted l := by
  match l, h with
  | [], _ => exact List.Pairwise.nil
  | [a], _ => exact List.pairwise_singleton _ _
theorem range_one (n : Nat) : Builtin.Range.rangeSize 1 (n : Int) 1 = ((n - 1 : Nat) : Int) := by
  unfold Builtin.Range.rangeSize
  rw [if_pos (by decide)]
  split <;> omega
theorem fits_long (i : Int) (h : 0 ≤ i) (h' : i ≤ 2000) : Builtin.Range.rangeFitsLong i = true := by
  have h63 : (2 : Int) ^ 63 = 9223372036854775808 := by decide
  unfold Builtin.Range.rangeFitsLong
  rw [h63, Bool.and_eq_true, decide_eq_true_eq, decide_eq_true_eq]
  omega
theorem small_one {n : Nat} (h : n ≤ 1000) : Builtin.Range.small 1 (n : Int) 1 = true := by
  unfold Builtin.Range.small
  rw [range_one, fits_long 1 (by decide) (by decide), fits_long _ (by omega) (by omega), fits_long _ (by omega) (by omega), if_pos (by decide), fits_long _ (by omega) (by omega)]
  simp
theorem placeOne {k k' : Int} {u : Tok} {a b : Option Value} {f : Str → Option Value} (e : k = k') :
    (fun y : Str => if y = ("place" : Str) then some (Value.int k u) else if y = ("one" : Str) then a else if y = ("place" : Str) then b else f y) = fun y : Str => if y = ("one" : Str) then a else if y = ("place" : Str) then some (Value.int k' u) else f y := by
  subst e
  funext z
  by_cases z1 : z = ("one" : Str)
  · subst z1; rfl
  · by_cases z2 : z = ("place" : Str)
    · simp only [z1, z2, if_true, if_false]; rfl
    · simp only [z1, z2, if_false]
theorem sort_c {g : Heap} {S : Facts} {r n N : Nat} {ps : List (Value × Ex)} (X : (Mine.frag.heap_1 w.params).In g) (T : TopRead p loose mg mb g) (hg : g.StaysIn s.heap) (hgr : g.get? r = none) (hS : S.In s.heap) (hSr : ∀ o, ¬ S r o)
    (hr : s.heap.get? r = some (listOf (ps.map (·.1)).toArray n)) (hb : Bears w.params S ps) (hn : ps.length ≤ 1000) (hht : ∀ q ∈ ps, q.2.ht < N) (hh : A.handled = none) (hd : A.depth + 3 * N + 2 < recursionLimit) (hu : A.units + 20 * N + 20 < cLine)
    (hQ : ∀ h' tk (qs : List (Value × Ex)), (less s.heap r).StaysIn h' → h'.get? r = some (listOf (qs.map (·.1)).toArray n) → qs.Perm ps → Sorted (qs.map (·.2)) → Q .none { s with heap := h', toks := tk }) :
    wpAny (model prog w) A (call (.ref 189) [.ref r] []) Q E s := by
  have hgb := less_stays hg hgr
  have Xb := X.keeps hgb
  have Tb := T.keeps hgb
  refine useCall (enterH (r := r) (binds := [("rows", .ref r)]) Xb hr (T.nolimit.keeps hg) (by omega) (by k_is) (by k_is) (BindsTo.of_eq rfl) (locs rfl) ?_)
  intro L h₁ F N₁ hL
  have hSb : ∀ a o, S a o → (less s.heap r).get? a = some o := fun a o h => less_get (hS a o h) fun z => hSr o (z ▸ h)
  (try k_fold)
  k_steps
  refine Hold.intro ?_
  refine forRange (h₀ := less s.heap r) (L := L) (a₀ := 1) (b₀ := ((ps.map (·.1)).length : Int)) (n := ps.length - 1) (fun i m news => ∃ qs : List (Value × Ex), news = [(r, listOf (qs.map (·.1)).toArray n)] ∧ qs.Perm ps ∧ Sorted ((qs.take (i + 1)).map (·.2)) ∧ ∀ y, y ≠ ("place" : Str) → y ≠ ("one" : Str) → m y = List.lookup y [(("rows" : Str), Value.ref r)].reverse) ?_ ?_ ?_ ?_ ?_ hh (by with_unfolding_all rfl) (by with_unfolding_all rfl)
  · k_steps
    refine Hold.intro (call_range_2 ?_)
    refine ⟨_, _, _, _, _, _, _, _, rfl, Heap.get?_push_size _ rfl, rfl, F.push _, fun p hp => ⟨Heap.get?_push_of_some _ (N₁ p hp).1, (N₁ p hp).2⟩, ps, rfl, List.Perm.refl _, ?_, fun _ _ _ => rfl⟩
    exact sorted_short (by simp; omega)
  · rw [List.length_map]; exact small_one hn
  · rw [List.length_map]; exact range_one _
  · rintro i v t m news it o h tk hi rfl ⟨qs, rfl, hp, hs, hm⟩ hne F N
    rw [mapTwo hm] at F
    have hlen : qs.length = ps.length := hp.length_eq
    have hqi : i + 1 < qs.length := by omega
    have hitr : it ≠ r := fun z => hne _ (.head _) z.symm
    have hbq := hb.perm hp
    obtain ⟨x, hx⟩ : ∃ x, qs[i + 1]? = some x := ⟨_, List.getElem?_eq_getElem hqi⟩
    have hxe := hbq x (List.mem_of_getElem? hx)
    obtain ⟨xa, hxa⟩ := hxe.isRef
    have hx1 : (qs.map (·.1))[((1 : Int) + (i : Int)).toNat]? = some (.ref xa) := by
      have : ((1 : Int) + (i : Int)).toNat = i + 1 := by omega
      rw [this, List.getElem?_map, hx, Option.map_some, hxa]
    (try k_fold)
    k_steps
    refine Hold.intro (subB N (.tail _ (.head _)) (by omega) (by omega) hx1 ?_)
    k_steps
    refine Hold.intro ?_
    have hsplit : qs = qs.take (i + 1) ++ x :: qs.drop (i + 2) := by
      have e1 : qs.drop (i + 1) = x :: qs.drop (i + 2) := by rw [List.drop_eq_getElem_cons hqi, ← (List.getElem?_eq_some_iff.mp hx).2]
      rw [← e1, List.take_append_drop]
    have hpl : (qs.take (i + 1)).length = i + 1 := by simp; omega
    generalize hpre : qs.take (i + 1) = pre at hsplit hpl hs
    generalize hrest : qs.drop (i + 2) = rest at hsplit
    have hrl : pre.length + rest.length + 1 = qs.length := by rw [hsplit]; simp; omega
    have hbp : ∀ q ∈ pre, IsEx w.params S q.1 q.2 := fun q hq => hbq q (hsplit ▸ List.mem_append_left _ hq)
    have hxh : x.2.ht < N := hht x (hp.mem_iff.mp (List.mem_of_getElem? hx))
    have hph : ∀ q ∈ pre, q.2.ht < N := fun q hq => hht q (hp.mem_iff.mp (hsplit ▸ List.mem_append_left _ hq))
    refine whileK (h₀ := less s.heap r) (L := L) (k₀ := i + 1) (fun k m news => ∃ y t, news = [(it, o), (r, listOf ((amid pre rest y k).map (·.1)).toArray n)] ∧ k ≤ pre.length ∧ (∀ q ∈ pre.drop k, x.2.lt q.2 = true) ∧
      m = fun y => if y = ("one" : Str) then some (.ref xa) else if y = ("place" : Str) then some (.int (k : Int) t) else List.lookup y [(("rows" : Str), Value.ref r)].reverse) ⟨x, t, ?_, ?_, ?_, ?_⟩ (by k_asm) (by k_asm) ?_
    · rw [hsplit, amid_start, hpl]
    · omega
    · intro q hq; rw [← hpl, List.drop_length] at hq; cases hq
    · funext z
      by_cases z1 : z = ("one" : Str)
      · simp [z1]
      · by_cases z2 : z = ("place" : Str)
        · subst z2; simp [z1]; omega
        · simp [z1, z2]
    · rintro k m' news' h' tk' ⟨y, t', rfl, hk, hd', rfl⟩ F' N'
      have hal := amid_length pre rest y hk
      cases k with
      | zero =>
        (try k_fold)
        k_steps
        refine Hold.intro (setB (by k_asm) (by k_asm) (.tail hitr (.head (fun _ h => by cases h))) (by omega) (by omega) (by rw [List.length_map]; omega) ?_)
        intro h'' F'' N''
        k_steps
        refine ⟨_, _, _, _, rfl, F'', N'', fun q hq => by rw [List.mem_singleton.mp hq]; exact hitr.symm, amid pre rest x 0, ?_, ?_, ?_, ?_⟩
        · rw [← hxa, ← List.map_set]
          show [(r, listOf (((amid pre rest y 0).set 0 x).map (·.1)).toArray n)] = _
          rw [amid_set _ _ _ _ (Nat.zero_le _)]
        · exact (amid_perm _ _ _ _).trans (hsplit ▸ hp)
        · have e : (amid pre rest x 0).take (i + 1 + 1) = pre.take 0 ++ x :: pre.drop 0 := by
            simp only [amid, List.take_zero, List.drop_zero, List.nil_append, List.take_succ_cons]
            rw [List.take_append_of_le_length (by omega), List.take_of_length_le (by omega)]
          rw [e]
          exact amid_sorted hs (Nat.zero_le _) hd' (.inl rfl)
        · intro z z1 z2
          simp [z1, z2]
      | succ j =>
        have hj : j < pre.length := by omega
        obtain ⟨ya, hya⟩ := (hbp _ (List.getElem_mem hj)).isRef
        have hyg : ((amid pre rest y (j + 1)).map (·.1))[(((j + 1 : Nat) : Int) - 1).toNat]? = some (.ref ya) := by
          have e : (((j + 1 : Nat) : Int) - 1).toNat = j := by omega
          rw [e, List.getElem?_map, amid_get _ _ _ hj, Option.map_some, hya]
        (try k_fold)
        k_steps
        refine Hold.intro (subB N' (.tail _ (.head _)) (by omega) (by omega) hyg ?_)
        have lc : LtC w x.2 pre[j].2 (3 * N) (20 * N) := lt_ex w N x.2 pre[j].2 hxh (hph _ (List.getElem_mem hj))
        have Xh := Xb.keeps F'.keep
        k_steps
        refine Hold.intro (lc Xh (Tb.keeps F'.keep) hh (by simp only [depth_deeper]; omega) (by simp only [units_deeper]; omega) (hxa ▸ hxe.mono fun a o h => F'.keep a o (hSb a o h)) (hya ▸ (hbp _ (List.getElem_mem hj)).mono fun a o h => F'.keep a o (hSb a o h)) ?_)
        intro h'' tk'' st''
        have F'' := frStay F' st''
        have N'' := newsStay N' st''
        cases hlt : x.2.lt pre[j].2 with
        | true =>
          k_steps
          refine Hold.intro (subB N'' (.tail _ (.head _)) (by omega) (by omega) hyg ?_)
          k_steps
          refine Hold.intro (setB (by k_asm) (by k_asm) (.tail hitr (.head (fun _ h => by cases h))) (by omega) (by omega) (by rw [List.length_map]; omega) ?_)
          intro h₃ F₃ N₃
          have g1 : ((((amid pre rest y (j + 1)).map (·.1)).set ((j + 1 : Nat) : Int).toNat (.ref ya))) = (amid pre rest pre[j] j).map (·.1) := by
            have e : ((j + 1 : Nat) : Int).toNat = j + 1 := by omega
            rw [← hya, ← List.map_set, e, amid_set _ _ _ _ hk, amid_step _ _ hj]
          rw [g1] at N₃
          k_steps
          have g2 : ∀ q ∈ pre.drop j, x.2.lt q.2 = true := by
            intro q hq
            rw [List.drop_eq_getElem_cons hj] at hq
            rcases List.mem_cons.mp hq with rfl | hq
            · exact hlt
            · exact hd' q hq
          exact ⟨j, _, _, _, _, Nat.lt_succ_self j, rfl, (by k_asm), (by k_asm), pre[j], _, rfl, by omega, g2, placeOne (by omega)⟩
        | false =>
          k_steps
          refine Hold.intro (setB (by k_asm) (by k_asm) (.tail hitr (.head (fun _ h => by cases h))) (by omega) (by omega) (by rw [List.length_map]; omega) ?_)
          intro h₃ F₃ N₃
          k_steps
          refine ⟨_, _, _, _, rfl, F₃, N₃, fun q hq => by rw [List.mem_singleton.mp hq]; exact hitr.symm, amid pre rest x (j + 1), ?_, ?_, ?_, ?_⟩
          · have e : ((j + 1 : Nat) : Int).toNat = j + 1 := by omega
            rw [← hxa, ← List.map_set, e, amid_set _ _ _ _ hk]
          · exact (amid_perm _ _ _ _).trans (hsplit ▸ hp)
          · have e : (amid pre rest x (j + 1)).take (i + 1 + 1) = pre.take (j + 1) ++ x :: pre.drop (j + 1) := by
              have e1 : amid pre rest x (j + 1) = (pre.take (j + 1) ++ x :: pre.drop (j + 1)) ++ rest := by simp [amid]
              have e2 : (pre.take (j + 1) ++ x :: pre.drop (j + 1)).length = i + 1 + 1 := by simp; omega
              rw [e1, List.take_append_of_le_length (by omega), List.take_of_length_le (by omega)]
            rw [e]
            exact amid_sorted hs hk hd' (.inr ⟨by omega, hlt⟩)
          · intro z z1 z2
            simp [z1, z2]
  · rintro m news h tk ⟨qs, rfl, hp, hs, hm⟩ F N
    rw [mapTwo hm] at F
    have hlen := hp.length_eq
    rw [List.take_of_length_le (by omega)] at hs
    k_steps
    exact hQ _ _ qs F.keep (N _ (.head _)).1 hp hs
end Mine
namespace Mine
open PySem PySem.W PySem.Calls PyProof.Rows
local macro_rules | `(tactic| k_inst) => `(tactic| (refine' instBase ?F ?h1 ?h2; (case F => k_asm); (case h1 => assumption); (case h2 => assumption)))
local macro_rules | `(tactic| k_room) => `(tactic| ((try simp only [depth_under_make, depth_under_kw, depth_in1, depth_deeper, depth_caller]); omega))
local macro_rules | `(tactic| k_units) => `(tactic| ((try simp only [units_in1, units_deeper, Around.mark_units, units_caller]); omega))
local macro_rules | `(tactic| walk_at "exec For") => `(tactic| (k_here; refine Hold.mk ?_))
local macro_rules | `(tactic| walk_at "truthy str") => `(tactic| (k_here; (with_reducible show wpAny _ _ (PySem.truthy (Value.str (Leaf.nm _) _)) _ _ _); refine truthy_nm ?_; intro _))
local macro_rules | `(tactic| walk_at "call builtin:len") => `(tactic| (k_here; (with_reducible show wpAny _ _ (call (Value.builtin "len") [Value.ref _] []) _ _ _); refine' lenB ?k1 ?k2 ?k3 ?_; (case k1 => k_asm); (case k2 => assumption); (case k3 => assumption); intro t' k'))
local macro_rules | `(tactic| walk_at "call type:zip") => `(tactic| (k_here; refine Hold.mk ?_))
local macro_rules | `(tactic| walk_at "compareOp Lt ref") => `(tactic| (k_here; (with_reducible show wpAny _ _ (compareOp CmpOp.Lt (Value.ref _) (Value.ref _)) _ _ _); refine Hold.mk ?_))
local macro_rules | `(tactic| walk_at "exec For Name Call cons nil") => `(tactic| (k_here; refine Hold.mk ?_))
local macro_rules | `(tactic| walk_at "exec For Name Name cons nil") => `(tactic| (k_here; refine Hold.mk ?_))
local macro_rules | `(tactic| walk_at "exec For Name Attribute cons nil") => `(tactic| (k_here; refine Hold.mk ?_))
local macro_rules | `(tactic| walk_at "exec For Name Subscript cons nil") => `(tactic| (k_here; refine Hold.mk ?_))
local macro_rules | `(tactic| walk_at "exec For Tuple Call cons nil") => `(tactic| (k_here; refine Hold.mk ?_))
local macro_rules | `(tactic| walk_at "exec For Name Tuple cons nil") => `(tactic| (k_here; refine Hold.mk ?_))
local macro_rules | `(tactic| walk_at "exec For Name Call") => `(tactic| (k_here; refine Hold.mk ?_))
local macro_rules | `(tactic| walk_at "exec For Name Name") => `(tactic| (k_here; refine Hold.mk ?_))
local macro_rules | `(tactic| walk_at "exec For Tuple Call") => `(tactic| (k_here; refine Hold.mk ?_))
local macro_rules | `(tactic| walk_at "exec While Compare cons nil") => `(tactic| (k_here; refine Hold.mk ?_))
local macro_rules | `(tactic| walk_at "exec While BoolOp cons nil") => `(tactic| (k_here; refine Hold.mk ?_))
local macro_rules | `(tactic| walk_at "exec While Compare") => `(tactic| (k_here; refine Hold.mk ?_))
local macro_rules | `(tactic| walk_at "exec While BoolOp") => `(tactic| (k_here; refine Hold.mk ?_))
local macro_rules | `(tactic| walk_at "call builtin:list.append") => `(tactic| (k_here; refine Hold.mk ?_))
local macro_rules | `(tactic| walk_at "call builtin:list.extend") => `(tactic| (k_here; refine Hold.mk ?_))
local macro_rules | `(tactic| walk_at "call builtin:list.clear") => `(tactic| (k_here; refine Hold.mk ?_))
local macro_rules | `(tactic| walk_at "call ref") => `(tactic| (k_here; k_dflt (show wpAny _ _ (call (Value.ref 189) [Value.ref _] []) _ _ _); refine Hold.mk ?_))
set_option maxRecDepth 100000
set_option maxHeartbeats 4000000
variable {prog : Program} {w : World} {A : Around} {s : Shared} {p : Program} {loose : List Str} {mg mb : Str → Option Value} {Q E : Value → Shared → Prop}

theorem IsExs.bears {P : Params} {S : Facts} : ∀ {vs : List Value} {es : List Ex}, IsExs P S vs es → Bears P S (vs.zip es)
  | _, _, .nil => fun _ h => by cases h
  | _, _, .cons a b => fun q hq => by
    rcases List.mem_cons.mp hq with rfl | hq
    · exact a
    · exact IsExs.bears b q hq
theorem fl_bears {P : Params} {S : Facts} {v : Value} {e : Ex} {k : Bool} (h : IsEx P S v e) : ∃ qs : List (Value × Ex), Bears P S qs ∧ qs.map (·.2) = fl k e := by
  cases h with
  | sym hl a b => exact ⟨[(_, _)], fun q hq => by rw [List.mem_singleton.mp hq]; exact .sym hl a b, rfl⟩
  | var hl a b => exact ⟨[(_, _)], fun q hq => by rw [List.mem_singleton.mp hq]; exact .var hl a b, rfl⟩
  | op a b c n d e =>
    rename_i _ _ _ _ _ k' es vs _ _ _ _ _ _ _ _ _ _
    by_cases hk : k' = k
    · subst hk
      refine ⟨vs.zip es, e.bears, ?_⟩
      rw [List.map_snd_zip (by rw [e.length]; exact Nat.le_refl _)]
      simp [fl]
    · refine ⟨[(_, _)], fun q hq => by rw [List.mem_singleton.mp hq]; exact .op a b c n d e, ?_⟩
      simp [fl, hk]

theorem simplify_c {g : Heap} {S : Facts} {r n N ka : Nat} {k : Bool} {ps : List (Value × Ex)} (X : (Mine.frag.heap_1 w.params).In g) (T : TopRead p loose mg mb g) (hg : g.StaysIn s.heap) (hgr : g.get? r = none) (hS : S.In s.heap) (hSr : ∀ o, ¬ S r o)
    (hk : IsKind w.params S ka k) (hr : s.heap.get? r = some (listOf (ps.map (·.1)).toArray n)) (hb : Bears w.params S ps) (hn : ps.length ≤ 1000) (hfl : (flat k (ps.map (·.2))).length ≤ 1000) (hht : ∀ q ∈ ps, q.2.ht < N) (hh : A.handled = none) (hd : A.depth + 3 * N + 5 < recursionLimit) (hu : A.units + 20 * N + 40 < cLine)
    (hQ : ∀ h' tk (qs : List (Value × Ex)) n', (less s.heap r).StaysIn h' → h'.get? r = some (listOf (qs.map (·.1)).toArray n') → Bears w.params S qs → (qs.map (·.2)).Perm (flat k (ps.map (·.2))) → Sorted (qs.map (·.2)) → Q (.bool false) { s with heap := h', toks := tk }) :
    wpAny (model prog w) A (call (.ref 412) [.ref ka, .ref r] []) Q E s := by
  have hgb := less_stays hg hgr
  have Xb := X.keeps hgb
  have Tb := T.keeps hgb
  refine useCall (enterH (r := r) (binds := [("cls", .ref ka), ("operands", .ref r)]) Xb hr (T.nolimit.keeps hg) (by omega) (by k_is) (by k_is) (BindsTo.of_eq rfl) (locs rfl) ?_)
  intro L h₁ F N₁ hL
  have hSb : ∀ a o, S a o → (less s.heap r).get? a = some o := fun a o h => less_get (hS a o h) fun z => hSr o (z ▸ h)
  have hkb := hk.mono (S' := at_ (less s.heap r)) hSb
  cases hkb with | mk k1 k2 k3 =>
  (try k_fold)
  k_steps
  rename Fr _ _ _ _ => F'
  rename News _ _ _ _ => N'
  rename (r < _) => l1
  rename_i dl _ _
  refine Hold.intro ?_
  refine forList (h₀ := less s.heap r) (L := L) (l := r) (items := (ps.map (·.1)).toArray) (fun i m news => ∃ (qs : List (Value × Ex)) (n' : Nat), news = [(dl, listOf (qs.map (·.1)).toArray n'), (r, listOf (ps.map (·.1)).toArray n)] ∧ Bears w.params S qs ∧ qs.map (·.2) = flat k ((ps.map (·.2)).take i) ∧
      ∀ y, y ≠ ("operand" : Str) → m y = (if y = ("new_operands" : Str) then some (.ref dl) else List.lookup y [(("cls" : Str), Value.ref ka), (("operands" : Str), Value.ref r)].reverse)) ?_ ?_ ?_ ?_ hh (by with_unfolding_all rfl) (by with_unfolding_all rfl)
  · k_steps
    exact ⟨rfl, _, _, _, _, rfl, F', N', [], 0, rfl, (fun _ h => by cases h), by simp [flat], fun _ _ => rfl⟩
  · rintro i m news h ⟨qs, n', rfl, _⟩ _ N
    exact ⟨_, (N _ (.tail _ (.head _))).1, rfl, _, rfl⟩
  · rintro i v m news it o h tk hv ⟨qs, n', rfl, hbs, hqs, hm⟩ hne hitr F N
    rw [mapOne hm] at F
    obtain ⟨q, hq, rfl⟩ : ∃ q, ps[i]? = some q ∧ q.1 = v := by simpa using hv
    have hitd : it ≠ dl := fun z => hne _ (.head _) z.symm
    have hqe := hb q (List.mem_of_getElem? hq)
    have hqi : (ps.map (·.2))[i]? = some q.2 := by rw [List.getElem?_map, hq]; rfl
    have hlen : qs.length + (fl k q.2).length ≤ 1000 := by
      have e1 := congrArg List.length hqs
      have e2 := flat_take_len k (ps.map (·.2)) (i + 1)
      rw [flat_take_succ k hqi, List.length_append, ← e1, List.length_map] at e2
      omega
    have hdr : dl ≠ r := Nat.ne_of_gt l1
    have fin : ∀ {h'' : Heap} {tk'' n'' : Nat} {vs : List Value} {zs : List (Value × Ex)} {m'' : Str → Option Value}, Fr (less s.heap r) L h'' m'' → News (less s.heap r) L h'' [(it, o), (dl, listOf (qs.map (·.1) ++ vs).toArray n''), (r, listOf (ps.map (·.1)).toArray n)] → Bears w.params S zs → zs.map (·.2) = fl k q.2 → zs.map (·.1) = vs →
        (∀ y, y ≠ ("operand" : Str) → m'' y = (if y = ("new_operands" : Str) then some (.ref dl) else List.lookup y [(("cls" : Str), Value.ref ka), (("operands" : Str), Value.ref r)].reverse)) →
        ∃ m' news' h' tk', ({ s with heap := h'', toks := tk'' } : Shared) = { s with heap := h', toks := tk' } ∧ Fr (less s.heap r) L h' m' ∧ News (less s.heap r) L h' ((it, o) :: news') ∧ (∀ p ∈ news', p.1 ≠ it) ∧ ∃ (qs : List (Value × Ex)) (n' : Nat), news' = [(dl, listOf (qs.map (·.1)).toArray n'), (r, listOf (ps.map (·.1)).toArray n)] ∧ Bears w.params S qs ∧ qs.map (·.2) = flat k ((ps.map (·.2)).take (i + 1)) ∧
          ∀ y, y ≠ ("operand" : Str) → m' y = (if y = ("new_operands" : Str) then some (.ref dl) else List.lookup y [(("cls" : Str), Value.ref ka), (("operands" : Str), Value.ref r)].reverse) := by
      rintro h'' tk'' n'' vs zs m'' F'' N'' hz1 hz2 rfl hm''
      refine ⟨m'', _, h'', tk'', rfl, F'', N'', ?_, qs ++ zs, n'', by rw [List.map_append], ?_, ?_, hm''⟩
      · intro p hp
        rcases List.mem_cons.mp hp with rfl | hp
        · exact hitd.symm
        · rw [List.mem_singleton.mp hp]; exact hitr.symm
      · intro z hz
        rcases List.mem_append.mp hz with hz | hz
        · exact hbs z hz
        · exact hz1 z hz
      · rw [List.map_append, hqs, hz2, flat_take_succ k hqi]
    obtain ⟨v, e⟩ := q
    have hqe' := hqe
    cases hqe with
    | sym hl h2 h3 =>
      have h2' := hSb _ _ h2
      have h3' := hSb _ _ h3
      (try k_fold)
      k_steps
      refine Hold.intro (appB (own := [(it, o)]) (rest := [(r, _)]) (by k_asm) (by k_asm) (fun q hq => by rw [List.mem_singleton.mp hq]; exact hitd) (fun q hq => by rw [List.mem_singleton.mp hq]; exact hdr.symm) (by rw [List.length_map]; omega) ?_)
      intro h'' n'' F'' N''
      k_steps
      exact fin (zs := [(_, _)]) F'' N'' (fun q hq => by rw [List.mem_singleton.mp hq]; exact hqe') rfl rfl (fun y hy => by simp only [hy, if_false])
    | var hl h2 h3 =>
      have h2' := hSb _ _ h2
      have h3' := hSb _ _ h3
      (try k_fold)
      k_steps
      refine Hold.intro (appB (own := [(it, o)]) (rest := [(r, _)]) (by k_asm) (by k_asm) (fun q hq => by rw [List.mem_singleton.mp hq]; exact hitd) (fun q hq => by rw [List.mem_singleton.mp hq]; exact hdr.symm) (by rw [List.length_map]; omega) ?_)
      intro h'' n'' F'' N''
      k_steps
      exact fin (zs := [(_, _)]) F'' N'' (fun q hq => by rw [List.mem_singleton.mp hq]; exact hqe') rfl rfl (fun y hy => by simp only [hy, if_false])
    | op h2 h3 h4 h5 h6 h7 =>
      rename_i k' es vs _ _ _ _ _ _ _ _ _ _
      have h2' := hSb _ _ h2
      have h3' := hSb _ _ h3
      have h4' := hSb _ _ h4
      by_cases hkk : k' = k
      · subst hkk
        have hfe : fl k' (Ex.op k' es) = es := by simp [fl]
        rw [hfe] at hlen
        (try k_fold)
        k_steps
        · refine Hold.intro (extB (own := [(it, o)]) (rest := [(r, _)]) (by k_asm) (by k_asm) (fun q hq => by rw [List.mem_singleton.mp hq]; exact hitd) (fun q hq => by rw [List.mem_singleton.mp hq]; exact hdr.symm) (Fr.keep (by k_asm) _ _ h4') (by rw [List.length_map]; omega) ?_)
          intro h'' n'' F'' N''
          k_steps
          exact fin (zs := vs.zip es) F'' N'' h7.bears (by rw [hfe, List.map_snd_zip (by rw [h7.length]; exact Nat.le_refl _)]) (List.map_fst_zip (by rw [h7.length]; exact Nat.le_refl _)) (fun y hy => by simp only [hy, if_false])
        all_goals exact absurd (by assumption : (kdName k' == kdName k') = false) (by simp)
      · have hfe : fl k (Ex.op k' es) = [Ex.op k' es] := by simp [fl, hkk]
        rw [hfe] at hlen
        (try k_fold)
        k_steps
        · exact absurd (by assumption : (kdName k' == kdName k) = true) (by cases k <;> cases k' <;> first | exact absurd rfl hkk | decide +kernel)
        · refine Hold.intro (appB (own := [(it, o)]) (rest := [(r, _)]) (by k_asm) (by k_asm) (fun q hq => by rw [List.mem_singleton.mp hq]; exact hitd) (fun q hq => by rw [List.mem_singleton.mp hq]; exact hdr.symm) (by rw [List.length_map]; omega) ?_)
          intro h'' n'' F'' N''
          k_steps
          exact fin (zs := [(_, _)]) F'' N'' (fun q hq => by rw [List.mem_singleton.mp hq]; exact hqe') (by rw [hfe]; rfl) rfl (fun y hy => by simp only [hy, if_false])
  · rintro m news h tk ⟨qs, n', rfl, hbs, hqs, hm⟩ F N₀
    rw [mapOne hm] at F
    have hdr : dl ≠ r := Nat.ne_of_gt l1
    rw [List.take_of_length_le (by simp)] at hqs
    have hlen : qs.length ≤ 1000 := by rw [← hqs, List.length_map] at hfl; exact hfl
    k_steps
    refine Hold.intro (clearB (own := [(dl, _)]) (rest := []) (by k_asm) (by k_asm) (fun q hq => by rw [List.mem_singleton.mp hq]; exact hdr) (fun _ h => by cases h) (by rw [List.length_map]; omega) ?_)
    intro h₂ n₂ F₂ N₂
    simp only [List.cons_append, List.nil_append] at N₂
    k_steps
    refine Hold.intro (extB (own := [(dl, _)]) (rest := []) (by k_asm) (by k_asm) (fun q hq => by rw [List.mem_singleton.mp hq]; exact hdr) (fun _ h => by cases h) (N₂ _ (.head _)).1 (by rw [List.length_map, List.length_nil]; omega) ?_)
    intro h₃ n₃ F₃ N₃
    simp only [List.cons_append, List.nil_append] at N₃
    k_steps
    have Xh := Xb.keeps F₃.keep
    refine Hold.intro (sort_c (g := less s.heap r) (S := S) (r := r) (n := n₃) (N := N) (ps := qs) Xb Tb F₃.keep less_none (fun a o h => F₃.keep _ _ (hSb a o h)) hSr ?_ hbs (by omega) ?_ hh (by simp only [depth_deeper]; omega) (by simp only [units_deeper]; omega) ?_)
    · exact (N₃ (r, _) (.tail _ (.head _))).1
    · intro q hq
      refine flat_ht (k := k) (es := ps.map (·.2)) (fun e he => ?_) (hqs ▸ List.mem_map_of_mem hq)
      obtain ⟨z, hz, rfl⟩ := List.mem_map.mp he
      exact hht z hz
    · intro h₄ tk₄ rs st₄ hr₄ hp₄ hs₄
      have ext : Heap.ExtBut r h₃ h₄ := fun b o hb e => st₄ b o (less_get e hb)
      have rL : r ≠ L := fun z => by have := (N₃ (r, _) (.tail _ (.head _))).2.1; exact this z
      have F₄ := frSame F₃ ext rL less_none
      have N₄ : News (less s.heap r) L h₄ [(dl, listOf (qs.map (·.1)).toArray n'), (r, listOf (rs.map (·.1)).toArray n₃)] := by
        intro p hp
        rcases List.mem_cons.mp hp with rfl | hp
        · exact newsSame (it := r) (news := [(dl, _)]) (fun q hq => N₃ q (by rw [List.mem_singleton.mp hq]; exact .head _)) ext (fun q hq => by rw [List.mem_singleton.mp hq]; exact hdr) _ (.head _)
        · rw [List.mem_singleton.mp hp]
          exact ⟨hr₄, rL, less_none⟩
      k_steps
      exact hQ _ _ rs n₃ (Fr.keep (by k_asm)) hr₄ (hbs.perm hp₄) (by rw [← hqs]; exact hp₄.map _) hs₄
end Mine
namespace Mine
open PySem PySem.W PySem.Calls PyProof.Rows
section
variable {prog : Program} {w : World} {A : Around} {s : Shared} {h₀ : Heap} {L : Addr} {m mg mb : Str → Option Value} {news : List (Addr × Obj)} {K : Frag} {p : Program} {loose : List Str} {x C D f cc cda : Addr} {ox : Obj} {odx : Option Obj}
theorem ksN {E : Value → Shared → Prop} {body : List Stmt} {q : Str} {scope : Scope} {p0 p1 : Pos} {attr : Str} {whole : Sem Value} {fd : FuncData} {ar : Arg} {vs : Array Value} {file : Str} {tf : Tok} {oc ccl cl : Value} {od cdd cld : Option Addr} {osl ccs csl : Array (Option Value)} {cdD : ClassData} {Q : Value → Shared → Prop}
    (F : Fr h₀ L s.heap m) (X₀ : K.In h₀) (N : News h₀ L s.heap news) (T : TopRead p loose mg mb h₀)
    (hf : K.lookup f = some ⟨oc, od, .func fd, osl⟩) (hp : (fd.params.posonlyargs ++ fd.params.args).head? = some ar) (hv : m ar.arg = some (.ref x)) (I : InstAt s.heap x ox C odx)
    (hcode : K.lookup cda = some ⟨ccl, cdd, .fields vs, ccs⟩) (hvs : vs[2]? = some (.str file tf)) (hfile : ((prog.main.file : Str) == file) = true)
    (hcell : K.lookup cc = some ⟨cl, cld, .cell (some (.ref D)), csl⟩) (hD : clsIn K D = some cdD) (hsub : mroIn K C (.ref D) = some true) (hsuper : nsIn K mainGlobals "super" = some none)
    (hat : (attr == ("__class__" : Str)) = false) (hks : scope.names.lookup ("super" : Str) = some .globalImplicit) (hkc : scope.names.lookup ("__class__" : Str) = some .free) (hka : scope.names.lookup ar.arg = some .local) (hk : scope.kind = .function)
    (htop : (prog.main.scope.names.lookup ("super" : Str)).isSome = false) (hboot : bootBuiltins "super" = some (.type "super"))
    (h : ∀ so h', Fr h₀ L h' m → News h₀ L h' ((so, ks_superObj D x C) :: news) → (∀ p ∈ news, p.1 < so) → Q (.ref so) { s with heap := h' }) :
    _root_.PySem.wpAt (model prog w) A (.func body (ksEnv q scope L f (.ref cda) cc)) (attributeBase (.Call (.Name "super" p0) [] [] p1) attr (ksEnv q scope L f (.ref cda) cc) whole) Q E s := by
  have X : K.In s.heap := X₀.keeps F.keep
  have hcls : ∃ oD, s.heap.get? D = some oD ∧ oD.data = .cls cdD := by
    unfold clsIn at hD
    split at hD
    · rename_i ho
      cases hD
      exact ⟨_, X _ _ ho, rfl⟩
    · cases hD
  obtain ⟨oD, hD1, hD2⟩ := hcls
  obtain ⟨hh, g, d, t, os⟩ := s
  refine ks_wpAt_super_base (env := ksEnv q scope L f (.ref cda) cc) hks hkc hat rfl (X _ _ hf) rfl hp rfl (X _ _ hcode) rfl hvs hfile htop ?_
  refine ks_loadName_global hk hks (loadGlobal_builtin (env := ksEnv q scope L f (.ref cda) cc) (T.g.keeps F.keep) (mg_none_of X₀ T.g hsuper) (T.b.keeps F.keep) ((T.builtins _ (by decide +kernel)).trans hboot) ⟨rfl, ?_⟩)
  refine wpAny_loadName_free hk hkc rfl ⟨_, X _ _ hcell, rfl⟩ (wpAny_loadName_local hk hka F.ns hv (ks_wpAny_isType_cls hD1 hD2 ⟨rfl, ?_⟩))
  refine ks_wpAny_call_super hD1 hD2 I.at_ I.cls (fun c e => ?_) (looks_mroIn X hsub) (fun h' e k => ?_)
  · have z := I.no
    unfold notCls at z
    rw [e] at z
    exact Bool.noConfusion z
  · obtain ⟨F', N', l'⟩ := ks_newsPush (s := ⟨hh, g, d, t, os⟩) F N rfl e k
    exact h _ _ F' N' l'
end
/-- what super() asks of the program -/
structure ProgOk (prog : Program) : Prop where
  file : ((prog.main.file : Str) == ("/claim/cut.py" : Str)) = true
  sup : (prog.main.scope.names.lookup ("super" : Str)).isSome = false
/-- a def that closes over its class and changes one object -/
theorem enterS {prog : Program} {w : World} {A : Around} {K : Frag} {R : Result → Shared → Prop} {s : Shared} {name qual : Str} {params : Arguments} {body : List Stmt} {scope : Scope} {dV kV doc pm cdv ct oc : Value} {an od : Option Addr} {osl : Array (Option Value)} {f r cc : Addr} {ob : Obj} {args : Args} {binds : List (Str × Value)}
    (X : K.In (less s.heap r)) (hr : s.heap.get? r = some ob) (hlim : s.heap.NoLimit) (hroom : A.depth < recursionLimit)
    (ho : K.lookup f = some ⟨oc, od, .func (ksFn name qual params body scope dV kV doc pm an cdv ct cc), osl⟩) (hcd : codeIn K cdv qual = true)
    (hbind : BindsTo s (ksFn name qual params body scope dV kV doc pm an cdv ct cc) args binds) (hloc : ∀ y ∈ binds, scope.names.lookup y.1 = some .local)
    (h : ∀ L h₁, Fr (less s.heap r) L h₁ (fun y => binds.reverse.lookup y) → News (less s.heap r) L h₁ [(r, ob)] → L = s.heap.objs.size →
      _root_.PySem.wpAt (model prog w) (A.deeper (ksEnv qual scope L f cdv cc)) (.func body (ksEnv qual scope L f cdv cc)) (execs body (ksEnv qual scope L f cdv cc))
        (fun fl s' => R (.ok (.ret (match fl with | .ret v => v | _ => .none))) s') (fun _ _ => False)
        { s with heap := h₁, toks := s.toks + binds.length })
    (hcell : ∀ x ∈ scope.names, x.2 ≠ .cell := by decide) (hco : scope.isCoroutine = false := by rfl) (hgen : scope.isGenerator = false := by rfl) (hk : scope.kind = .function := by rfl) :
    codeAny (model prog w) A (.call (.ref f) args) R s := by
  have X' : K.In s.heap := X.keeps fun b o e => less_of e
  refine ks_codeAny_call_defAt (fd := ksFn name qual params body scope dV kV doc pm an cdv ct cc) (body := body) (binds := binds) hroom (X' _ _ ho) rfl hlim (codeRec_of X' hcd) rfl hbind hcell hloc (fun h₁ hns hk₁ => ?_) hco hgen hk
  refine ks_wpAt_mono (h s.heap.objs.size h₁ ⟨hns, fun b o e => hk₁ b o (less_of e), Nat.le_of_eq (hideAll_size _ _)⟩ (fun p hp => ?_) rfl) (fun _ _ x => x) (fun _ _ x => x.elim)
  rw [List.mem_singleton.mp hp]
  exact ⟨hk₁ _ _ hr, Nat.ne_of_lt (Heap.lt_size hr), less_none⟩

theorem instBL {h₀ h : Heap} {L x C dx : Addr} {m : Str → Option Value} {news : List (Addr × Obj)} {od : Obj} {sl : Array (Option Value)} (F : Fr h₀ L h m) (N : News h₀ L h news) (h1 : h₀.get? x = some (⟨.ref C, some dx, .plain, sl⟩ : Obj)) (h2 : (dx, od) ∈ news) :
    InstAt h x ⟨.ref C, some dx, .plain, sl⟩ C (some od) := ⟨F.keep _ _ h1, rfl, rfl, (N _ h2).1⟩

/-- what a call that changed one object of the ledger leaves -/
theorem chgBack {h₀ h h' : Heap} {L d : Addr} {m : Str → Option Value} {o o' : Obj} {own rest : List (Addr × Obj)} (F : Fr h₀ L h m) (N : News h₀ L h (own ++ (d, o) :: rest)) (h1 : ∀ p ∈ own, p.1 ≠ d) (h2 : ∀ p ∈ rest, p.1 ≠ d)
    (st : (less h d).StaysIn h') (hd : h'.get? d = some o') : Fr h₀ L h' m ∧ News h₀ L h' (own ++ (d, o') :: rest) := by
  have z := N _ (List.mem_append_right own (List.Mem.head rest))
  have ext : Heap.ExtBut d h h' := fun b o hb e => st b o (less_get e hb)
  refine ⟨frSame F ext z.2.1 z.2.2, fun p hp => ?_⟩
  rcases List.mem_append.mp hp with q | q
  · exact ⟨ext _ _ (h1 p q) (N p (List.mem_append_left _ q)).1, (N p (List.mem_append_left _ q)).2⟩
  · rcases List.mem_cons.mp q with rfl | q
    · exact ⟨hd, z.2⟩
    · exact ⟨ext _ _ (h2 p q) (N p (List.mem_append_right own (.tail _ q))).1, (N p (List.mem_append_right own (.tail _ q))).2⟩
local macro_rules | `(tactic| k_inst) => `(tactic| (refine' instBase ?F ?h1 ?h2; (case F => k_asm); (case h1 => assumption); (case h2 => assumption)))
local macro_rules | `(tactic| k_room) => `(tactic| ((try simp only [depth_under_make, depth_under_kw, depth_in1, depth_deeper, depth_caller]); omega))
local macro_rules | `(tactic| k_units) => `(tactic| ((try simp only [units_in1, units_deeper, Around.mark_units, units_caller]); omega))
local macro_rules | `(tactic| walk_at "exec For") => `(tactic| (k_here; refine Hold.mk ?_))
local macro_rules | `(tactic| walk_at "truthy str") => `(tactic| (k_here; (with_reducible show wpAny _ _ (PySem.truthy (Value.str (Leaf.nm _) _)) _ _ _); refine truthy_nm ?_; intro _))
local macro_rules | `(tactic| walk_at "call builtin:len") => `(tactic| (k_here; (with_reducible show wpAny _ _ (call (Value.builtin "len") [Value.ref _] []) _ _ _); refine' lenB ?k1 ?k2 ?k3 ?_; (case k1 => k_asm); (case k2 => assumption); (case k3 => assumption); intro t' k'))
local macro_rules | `(tactic| walk_at "call type:zip") => `(tactic| (k_here; refine Hold.mk ?_))
local macro_rules | `(tactic| walk_at "compareOp Lt ref") => `(tactic| (k_here; (with_reducible show wpAny _ _ (compareOp CmpOp.Lt (Value.ref _) (Value.ref _)) _ _ _); refine Hold.mk ?_))
local macro_rules | `(tactic| walk_at "exec For Name Call cons nil") => `(tactic| (k_here; refine Hold.mk ?_))
local macro_rules | `(tactic| walk_at "exec For Name Name cons nil") => `(tactic| (k_here; refine Hold.mk ?_))
local macro_rules | `(tactic| walk_at "exec For Name Attribute cons nil") => `(tactic| (k_here; refine Hold.mk ?_))
local macro_rules | `(tactic| walk_at "exec For Name Subscript cons nil") => `(tactic| (k_here; refine Hold.mk ?_))
local macro_rules | `(tactic| walk_at "exec For Tuple Call cons nil") => `(tactic| (k_here; refine Hold.mk ?_))
local macro_rules | `(tactic| walk_at "exec For Name Tuple cons nil") => `(tactic| (k_here; refine Hold.mk ?_))
local macro_rules | `(tactic| walk_at "exec For Name Call") => `(tactic| (k_here; refine Hold.mk ?_))
local macro_rules | `(tactic| walk_at "exec For Name Name") => `(tactic| (k_here; refine Hold.mk ?_))
local macro_rules | `(tactic| walk_at "exec For Tuple Call") => `(tactic| (k_here; refine Hold.mk ?_))
local macro_rules | `(tactic| walk_at "exec While Compare cons nil") => `(tactic| (k_here; refine Hold.mk ?_))
local macro_rules | `(tactic| walk_at "exec While BoolOp cons nil") => `(tactic| (k_here; refine Hold.mk ?_))
local macro_rules | `(tactic| walk_at "exec While Compare") => `(tactic| (k_here; refine Hold.mk ?_))
local macro_rules | `(tactic| walk_at "exec While BoolOp") => `(tactic| (k_here; refine Hold.mk ?_))
local macro_rules | `(tactic| k_inst) => `(tactic| (refine' instBL ?F ?N ?h1 ?h2; (case F => k_asm); (case N => k_asm); (case h1 => assumption); (case h2 => k_mem)))
local macro_rules | `(tactic| walk_at "wpAt") => `(tactic| (dsimp only; ks_step "execs cons"; refine ks_wpAt_execs_cons ?_))
local macro_rules | `(tactic| walk_at "wpAt") => `(tactic| (ks_step "execs cons"; refine ks_wpAt_execs_cons ?_))
local macro_rules | `(tactic| walk_at "wpAt") => `(tactic| (ks_step "exec Expr"; with_unfolding_all refine ks_wpAt_Expr_any ?_))
local macro_rules | `(tactic| walk_at "wpAt") => `(tactic| (ks_step "exec If"; with_unfolding_all refine ks_wpAt_If ?_))
local macro_rules | `(tactic| walk_at "wpAt") => `(tactic| (ks_step "eval Call"; with_unfolding_all refine ks_wpAt_MethodCall ?_))
local macro_rules | `(tactic| walk_at "wpAt") => `(tactic| (ks_step "attributeBase Call"; k_here; k_dflt (with_unfolding_all refine ksN (by k_asm) (by k_asm) (by k_asm) (by k_asm) (by k_is) (by rfl) (by rfl) (by k_inst) (by k_is) (by rfl) (ProgOk.file (by assumption)) (by k_is) (by k_is) (by k_is) (by k_is) (by decide) (by rfl) (by rfl) (by rfl) (by rfl) (ProgOk.sup (by assumption)) (by first | boot_by_name | rfl | kernel_rfl) ?_; intro so' h' F' N' l1; (try k_lt l1))))
set_option maxRecDepth 100000
set_option maxHeartbeats 4000000
variable {prog : Program} {w : World} {A : Around} {s : Shared} {p : Program} {loose : List Str} {mg mb : Str → Option Value} {Q E : Value → Shared → Prop}

theorem exprInit_sym {g : Heap} {x d : Addr} {v : Value} {R : Result → Shared → Prop} (X : (Mine.frag.heap_1 w.params).In g) (T : TopRead p loose mg mb g) (hg : g.StaysIn s.heap) (hgr : g.get? d = none) (hx : s.heap.get? x = some (instObj 637 d)) (hxd : x ≠ d) (hd : s.heap.get? d = some (dictOf [] 0)) (hdp : A.depth < recursionLimit)
    (hQ : ∀ t h' tk, (less s.heap d).StaysIn h' → h'.get? d = some (dictOf [en w.params "variable_name" t v] 1) → R (.ok (.ret .none)) { s with heap := h', toks := tk }) :
    codeAny (model prog w) A (.call (.ref 203) ⟨[.ref x, v], []⟩) R s := by
  have hgb := less_stays hg hgr
  have Xb := X.keeps hgb
  have Tb := T.keeps hgb
  refine enterH (r := d) (binds := [("self", .ref x), ("variable_name", v)]) Xb hd (T.nolimit.keeps hg) hdp (by k_is) (by k_is) (BindsTo.of_eq rfl) (locs rfl) ?_
  intro L h₁ F N hL
  have hx' : (less s.heap d).get? x = some (instObj 637 d) := less_get hx hxd
  (try k_fold)
  k_steps
  exact hQ _ _ _ (Fr.keep (by k_asm)) ((by k_asm : News _ _ _ _) _ (.head _)).1

theorem exprInit_var {g : Heap} {x d : Addr} {v : Value} {R : Result → Shared → Prop} (X : (Mine.frag.heap_1 w.params).In g) (T : TopRead p loose mg mb g) (hg : g.StaysIn s.heap) (hgr : g.get? d = none) (hx : s.heap.get? x = some (instObj 741 d)) (hxd : x ≠ d) (hd : s.heap.get? d = some (dictOf [] 0)) (hdp : A.depth < recursionLimit)
    (hQ : ∀ t h' tk, (less s.heap d).StaysIn h' → h'.get? d = some (dictOf [en w.params "variable_name" t v] 1) → R (.ok (.ret .none)) { s with heap := h', toks := tk }) :
    codeAny (model prog w) A (.call (.ref 203) ⟨[.ref x, v], []⟩) R s := by
  have hgb := less_stays hg hgr
  have Xb := X.keeps hgb
  have Tb := T.keeps hgb
  refine enterH (r := d) (binds := [("self", .ref x), ("variable_name", v)]) Xb hd (T.nolimit.keeps hg) hdp (by k_is) (by k_is) (BindsTo.of_eq rfl) (locs rfl) ?_
  intro L h₁ F N hL
  have hx' : (less s.heap d).get? x = some (instObj 741 d) := less_get hx hxd
  (try k_fold)
  k_steps
  exact hQ _ _ _ (Fr.keep (by k_asm)) ((by k_asm : News _ _ _ _) _ (.head _)).1

theorem exprInit_op {g : Heap} {x d : Addr} {v : Value} {R : Result → Shared → Prop} (X : (Mine.frag.heap_1 w.params).In g) (T : TopRead p loose mg mb g) (hg : g.StaysIn s.heap) (hgr : g.get? d = none) (hx : s.heap.get? x = some (instObj 561 d)) (hxd : x ≠ d) (hd : s.heap.get? d = some (dictOf [] 0)) (hdp : A.depth < recursionLimit)
    (hQ : ∀ t h' tk, (less s.heap d).StaysIn h' → h'.get? d = some (dictOf [en w.params "variable_name" t v] 1) → R (.ok (.ret .none)) { s with heap := h', toks := tk }) :
    codeAny (model prog w) A (.call (.ref 203) ⟨[.ref x, v], []⟩) R s := by
  have hgb := less_stays hg hgr
  have Xb := X.keeps hgb
  have Tb := T.keeps hgb
  refine enterH (r := d) (binds := [("self", .ref x), ("variable_name", v)]) Xb hd (T.nolimit.keeps hg) hdp (by k_is) (by k_is) (BindsTo.of_eq rfl) (locs rfl) ?_
  intro L h₁ F N hL
  have hx' : (less s.heap d).get? x = some (instObj 561 d) := less_get hx hxd
  (try k_fold)
  k_steps
  exact hQ _ _ _ (Fr.keep (by k_asm)) ((by k_asm : News _ _ _ _) _ (.head _)).1

local macro_rules | `(tactic| walk_at "call ref") => `(tactic| (k_here; k_dflt (with_reducible show wpAny _ _ (call (Value.ref _) [_] []) _ _ _); refine Hold.mk ?_))
theorem symInit_c {g : Heap} {x d : Addr} {n : Str} {tn : Tok} {R : Result → Shared → Prop} (P : ProgOk prog) (X : (Mine.frag.heap_1 w.params).In g) (T : TopRead p loose mg mb g) (hg : g.StaysIn s.heap) (hgr : g.get? d = none) (hx : s.heap.get? x = some (instObj 637 d)) (hxd : x ≠ d) (hd : s.heap.get? d = some (dictOf [] 0)) (hdp : A.depth + 1 < recursionLimit)
    (hQ : ∀ t1 t2 t3 h' tk, (less s.heap d).StaysIn h' → h'.get? d = some (dictOf [en w.params "variable_name" t1 .none, en w.params "name" t2 (.str n t3)] 2) → R (.ok (.ret .none)) { s with heap := h', toks := tk }) :
    codeAny (model prog w) A (.call (.ref 592) ⟨[.ref x, .str n tn], []⟩) R s := by
  have hgb := less_stays hg hgr
  have Xb := X.keeps hgb
  have Tb := T.keeps hgb
  refine enterS (r := d) (binds := [("self", .ref x), ("name", .str n tn), ("variable_name", .none)]) Xb hd (T.nolimit.keeps hg) (by omega) (by k_is) (by k_is) (by first | exact BindsTo.of_eq rfl | exact binds_K (X.keeps hg) rfl (by k_is) rfl rfl rfl) (locs rfl) ?_
  intro L h₁ F N hL
  have hx' : (less s.heap d).get? x = some (instObj 637 d) := less_get hx hxd
  (try k_fold)
  k_steps
  rename News _ _ _ _ => N'
  rename Fr _ _ _ _ => F'
  refine Hold.intro (call_meth N' (by k_mem) ?_)
  have hg' : g.StaysIn _ := fun b o e => F'.keep b o (hgb b o e)
  refine exprInit_sym (g := g) (d := d) X T hg' hgr (F'.keep _ _ hx') hxd (N' (d, _) (by k_mem)).1 (by simp only [depth_deeper]; omega) ?_
  intro t h' tk st hd'
  obtain ⟨F'', N''⟩ := chgBack (own := [_, _]) (rest := []) F' N' (by k_all) (fun _ h => by cases h) st hd'
  simp only [List.cons_append, List.nil_append] at N''
  k_steps
  exact hQ _ _ _ _ _ (Fr.keep (by k_asm)) ((by k_asm : News _ _ _ _) (d, _) (by k_mem)).1
end Mine
namespace Mine
open PySem PySem.W PySem.Calls PyProof.Rows
local macro_rules | `(tactic| k_inst) => `(tactic| (refine' instBase ?F ?h1 ?h2; (case F => k_asm); (case h1 => assumption); (case h2 => assumption)))
local macro_rules | `(tactic| k_room) => `(tactic| ((try simp only [depth_under_make, depth_under_kw, depth_in1, depth_deeper, depth_caller]); omega))
local macro_rules | `(tactic| k_units) => `(tactic| ((try simp only [units_in1, units_deeper, Around.mark_units, units_caller]); omega))
local macro_rules | `(tactic| walk_at "exec For") => `(tactic| (k_here; refine Hold.mk ?_))
local macro_rules | `(tactic| walk_at "truthy str") => `(tactic| (k_here; (with_reducible show wpAny _ _ (PySem.truthy (Value.str (Leaf.nm _) _)) _ _ _); refine truthy_nm ?_; intro _))
local macro_rules | `(tactic| walk_at "call builtin:len") => `(tactic| (k_here; (with_reducible show wpAny _ _ (call (Value.builtin "len") [Value.ref _] []) _ _ _); refine' lenB ?k1 ?k2 ?k3 ?_; (case k1 => k_asm); (case k2 => assumption); (case k3 => assumption); intro t' k'))
local macro_rules | `(tactic| walk_at "call type:zip") => `(tactic| (k_here; refine Hold.mk ?_))
local macro_rules | `(tactic| walk_at "compareOp Lt ref") => `(tactic| (k_here; (with_reducible show wpAny _ _ (compareOp CmpOp.Lt (Value.ref _) (Value.ref _)) _ _ _); refine Hold.mk ?_))
local macro_rules | `(tactic| walk_at "exec For Name Call cons nil") => `(tactic| (k_here; refine Hold.mk ?_))
local macro_rules | `(tactic| walk_at "exec For Name Name cons nil") => `(tactic| (k_here; refine Hold.mk ?_))
local macro_rules | `(tactic| walk_at "exec For Name Attribute cons nil") => `(tactic| (k_here; refine Hold.mk ?_))
local macro_rules | `(tactic| walk_at "exec For Name Subscript cons nil") => `(tactic| (k_here; refine Hold.mk ?_))
local macro_rules | `(tactic| walk_at "exec For Tuple Call cons nil") => `(tactic| (k_here; refine Hold.mk ?_))
local macro_rules | `(tactic| walk_at "exec For Name Tuple cons nil") => `(tactic| (k_here; refine Hold.mk ?_))
local macro_rules | `(tactic| walk_at "exec For Name Call") => `(tactic| (k_here; refine Hold.mk ?_))
local macro_rules | `(tactic| walk_at "exec For Name Name") => `(tactic| (k_here; refine Hold.mk ?_))
local macro_rules | `(tactic| walk_at "exec For Tuple Call") => `(tactic| (k_here; refine Hold.mk ?_))
local macro_rules | `(tactic| walk_at "exec While Compare cons nil") => `(tactic| (k_here; refine Hold.mk ?_))
local macro_rules | `(tactic| walk_at "exec While BoolOp cons nil") => `(tactic| (k_here; refine Hold.mk ?_))
local macro_rules | `(tactic| walk_at "exec While Compare") => `(tactic| (k_here; refine Hold.mk ?_))
local macro_rules | `(tactic| walk_at "exec While BoolOp") => `(tactic| (k_here; refine Hold.mk ?_))
local macro_rules | `(tactic| k_inst) => `(tactic| (refine' instBL ?F ?N ?h1 ?h2; (case F => k_asm); (case N => k_asm); (case h1 => assumption); (case h2 => k_mem)))
local macro_rules | `(tactic| walk_at "wpAt") => `(tactic| (dsimp only; ks_step "execs cons"; refine ks_wpAt_execs_cons ?_))
local macro_rules | `(tactic| walk_at "wpAt") => `(tactic| (ks_step "execs cons"; refine ks_wpAt_execs_cons ?_))
local macro_rules | `(tactic| walk_at "wpAt") => `(tactic| (ks_step "exec Expr"; with_unfolding_all refine ks_wpAt_Expr_any ?_))
local macro_rules | `(tactic| walk_at "wpAt") => `(tactic| (ks_step "exec If"; with_unfolding_all refine ks_wpAt_If ?_))
local macro_rules | `(tactic| walk_at "wpAt") => `(tactic| (ks_step "eval Call"; with_unfolding_all refine ks_wpAt_MethodCall ?_))
local macro_rules | `(tactic| walk_at "wpAt") => `(tactic| (ks_step "attributeBase Call"; k_here; k_dflt (with_unfolding_all refine ksN (by k_asm) (by k_asm) (by k_asm) (by k_asm) (by k_is) (by rfl) (by rfl) (by k_inst) (by k_is) (by rfl) (ProgOk.file (by assumption)) (by k_is) (by k_is) (by k_is) (by k_is) (by decide) (by rfl) (by rfl) (by rfl) (by rfl) (ProgOk.sup (by assumption)) (by first | boot_by_name | rfl | kernel_rfl) ?_; intro so' h' F' N' l1; (try k_lt l1))))
local macro_rules | `(tactic| walk_at "call ref") => `(tactic| (k_here; k_dflt (with_reducible show wpAny _ _ (call (Value.ref _) [_] []) _ _ _); refine Hold.mk ?_))
set_option maxRecDepth 100000
set_option maxHeartbeats 4000000
variable {prog : Program} {w : World} {A : Around} {s : Shared} {p : Program} {loose : List Str} {mg mb : Str → Option Value} {Q E : Value → Shared → Prop}
theorem makeC {K : Frag} {C fI : Addr} {pos : List Value} {kw : List (Str × Value)} (X : K.In s.heap) (hm : makesIn K C = true) (hi : findIn K (.ref C) "__init__" = some (some (.ref fI))) (hf : isFn K (.ref fI) = true)
    (h : ∀ x d h', s.heap.StaysIn h' → s.heap.get? d = none → s.heap.get? x = none → x ≠ d → h'.get? x = some (instObj C d) → h'.get? d = some (dictOf [] 0) →
      codeAny (model prog w) (A.under (.builtin "type.__call__" ⟨.ref C :: pos, kw⟩)) (.call (.ref fI) ⟨.ref x :: pos, kw⟩) (InitBack x fun r s' => match r with | .ok (.ret v) => Q v s' | _ => False) { s with heap := h' }) :
    wpAny (model prog w) A (call (.ref C) pos kw) Q E s := by
  refine useCall ?_
  obtain ⟨hh, g, d, t, os⟩ := s
  refine make_core (makes_of X hm) (looks_findIn X hi) (fun self => bind_fn X self (beq_iff_eq.mp hf)) (.inl rfl) (h _ hh.objs.size _ (fun b o e => Heap.get?_push_of_some _ (Heap.get?_push_of_some _ e)) ?_ ?_ (Nat.succ_ne_self _) ?_ ?_)
  · exact Heap.get?_none_of_le (Nat.le_refl _)
  · exact Heap.get?_none_of_le (Nat.le_succ _)
  · heap_get
  · exact Heap.get?_push_of_some _ (Heap.get?_push_size _ rfl)
theorem symbol_c {l : Leaf} {t0 : Tok} (hl : l.isVar = false) (P : ProgOk prog) (X : (Mine.frag.heap_1 w.params).In s.heap) (T : TopRead p loose mg mb s.heap) (hd : A.depth + 3 < recursionLimit)
    (hQ : ∀ v h' tk, s.heap.StaysIn h' → IsEx w.params (at_ h') v (.leaf l) → Q v { s with heap := h', toks := tk }) : wpAny (model prog w) A (call (.ref 637) [.str l.nm t0] []) Q E s := by
  refine makeC (fI := 592) X (by k_is) (by k_is) (by k_is) ?_
  intro x d h' st hd0 _ hxd hx hd'
  refine symInit_c P X T st hd0 hx hxd hd' (by rw [depth_under_kw]; omega) ?_
  intro t1 t2 t3 h'' tk st' hd''
  have hx2 := st' _ _ (less_get hx hxd)
  exact ⟨rfl, hQ _ _ _ (fun b o e => st' _ _ (less_stays st hd0 b o e)) (.sym hl hx2 hd'')⟩

theorem varInit_c {g : Heap} {x d : Addr} {n : Str} {tn ti : Tok} {R : Result → Shared → Prop} (P : ProgOk prog) (X : (Mine.frag.heap_1 w.params).In g) (T : TopRead p loose mg mb g) (hg : g.StaysIn s.heap) (hgr : g.get? d = none) (hx : s.heap.get? x = some (instObj 741 d)) (hxd : x ≠ d) (hd : s.heap.get? d = some (dictOf [] 0)) (hdp : A.depth + 1 < recursionLimit)
    (hQ : ∀ t1 t2 t3 t4 t5 t6 h' tk, (less s.heap d).StaysIn h' → h'.get? d = some (dictOf [en w.params "variable_name" t1 (.str n t2), en w.params "min_count" t3 (.int 1 t4), en w.params "fixed_size" t5 (.bool true), en w.params "optional" t6 .none] 4) → R (.ok (.ret .none)) { s with heap := h', toks := tk }) :
    codeAny (model prog w) A (.call (.ref 656) ⟨[.ref x], [("min_count", .int 1 ti), ("fixed_size", .bool true), ("variable_name", .str n tn)]⟩) R s := by
  have hgb := less_stays hg hgr
  have Xb := X.keeps hgb
  have Tb := T.keeps hgb
  refine enterS (r := d) (binds := [("self", .ref x), ("min_count", .int 1 ti), ("fixed_size", .bool true), ("variable_name", .str n tn), ("optional", .none)]) Xb hd (T.nolimit.keeps hg) (by omega) (by k_is) (by k_is) (kp_binds (X.keeps hg) (fun _ => rfl)) (locs rfl) ?_
  intro L h₁ F N hL
  have hx' : (less s.heap d).get? x = some (instObj 741 d) := less_get hx hxd
  (try k_fold)
  k_steps
  rename News _ _ _ _ => N'
  rename Fr _ _ _ _ => F'
  refine Hold.intro (call_meth N' (by k_mem) ?_)
  have hg' : g.StaysIn _ := fun b o e => F'.keep b o (hgb b o e)
  refine exprInit_var (g := g) (d := d) X T hg' hgr (F'.keep _ _ hx') hxd (N' (d, _) (by k_mem)).1 (by simp only [depth_deeper]; omega) ?_
  intro t h' tk st hd'
  obtain ⟨F'', N''⟩ := chgBack (own := [_, _]) (rest := []) F' N' (by k_all) (fun _ h => by cases h) st hd'
  simp only [List.cons_append, List.nil_append] at N''
  k_steps
  exact hQ _ _ _ _ _ _ _ _ (Fr.keep (by k_asm)) ((by k_asm : News _ _ _ _) (d, _) (by k_mem)).1
end Mine
namespace Mine
open PySem PySem.W PySem.Calls PyProof.Rows
local macro_rules | `(tactic| k_inst) => `(tactic| (refine' instBase ?F ?h1 ?h2; (case F => k_asm); (case h1 => assumption); (case h2 => assumption)))
local macro_rules | `(tactic| k_room) => `(tactic| ((try simp only [depth_under_make, depth_under_kw, depth_in1, depth_deeper, depth_caller]); omega))
local macro_rules | `(tactic| k_units) => `(tactic| ((try simp only [units_in1, units_deeper, Around.mark_units, units_caller]); omega))
local macro_rules | `(tactic| walk_at "exec For") => `(tactic| (k_here; refine Hold.mk ?_))
local macro_rules | `(tactic| walk_at "truthy str") => `(tactic| (k_here; (with_reducible show wpAny _ _ (PySem.truthy (Value.str (Leaf.nm _) _)) _ _ _); refine truthy_nm ?_; intro _))
local macro_rules | `(tactic| walk_at "call builtin:len") => `(tactic| (k_here; (with_reducible show wpAny _ _ (call (Value.builtin "len") [Value.ref _] []) _ _ _); refine' lenB ?k1 ?k2 ?k3 ?_; (case k1 => k_asm); (case k2 => assumption); (case k3 => assumption); intro t' k'))
local macro_rules | `(tactic| walk_at "call type:zip") => `(tactic| (k_here; refine Hold.mk ?_))
local macro_rules | `(tactic| walk_at "compareOp Lt ref") => `(tactic| (k_here; (with_reducible show wpAny _ _ (compareOp CmpOp.Lt (Value.ref _) (Value.ref _)) _ _ _); refine Hold.mk ?_))
local macro_rules | `(tactic| walk_at "exec For Name Call cons nil") => `(tactic| (k_here; refine Hold.mk ?_))
local macro_rules | `(tactic| walk_at "exec For Name Name cons nil") => `(tactic| (k_here; refine Hold.mk ?_))
local macro_rules | `(tactic| walk_at "exec For Name Attribute cons nil") => `(tactic| (k_here; refine Hold.mk ?_))
local macro_rules | `(tactic| walk_at "exec For Name Subscript cons nil") => `(tactic| (k_here; refine Hold.mk ?_))
local macro_rules | `(tactic| walk_at "exec For Tuple Call cons nil") => `(tactic| (k_here; refine Hold.mk ?_))
local macro_rules | `(tactic| walk_at "exec For Name Tuple cons nil") => `(tactic| (k_here; refine Hold.mk ?_))
local macro_rules | `(tactic| walk_at "exec For Name Call") => `(tactic| (k_here; refine Hold.mk ?_))
local macro_rules | `(tactic| walk_at "exec For Name Name") => `(tactic| (k_here; refine Hold.mk ?_))
local macro_rules | `(tactic| walk_at "exec For Tuple Call") => `(tactic| (k_here; refine Hold.mk ?_))
local macro_rules | `(tactic| walk_at "exec While Compare cons nil") => `(tactic| (k_here; refine Hold.mk ?_))
local macro_rules | `(tactic| walk_at "exec While BoolOp cons nil") => `(tactic| (k_here; refine Hold.mk ?_))
local macro_rules | `(tactic| walk_at "exec While Compare") => `(tactic| (k_here; refine Hold.mk ?_))
local macro_rules | `(tactic| walk_at "exec While BoolOp") => `(tactic| (k_here; refine Hold.mk ?_))
local macro_rules | `(tactic| k_inst) => `(tactic| (refine' instBL ?F ?N ?h1 ?h2; (case F => k_asm); (case N => k_asm); (case h1 => assumption); (case h2 => k_mem)))
local macro_rules | `(tactic| walk_at "wpAt") => `(tactic| (dsimp only; ks_step "execs cons"; refine ks_wpAt_execs_cons ?_))
local macro_rules | `(tactic| walk_at "wpAt") => `(tactic| (ks_step "execs cons"; refine ks_wpAt_execs_cons ?_))
local macro_rules | `(tactic| walk_at "wpAt") => `(tactic| (ks_step "exec Expr"; with_unfolding_all refine ks_wpAt_Expr_any ?_))
local macro_rules | `(tactic| walk_at "wpAt") => `(tactic| (ks_step "exec If"; with_unfolding_all refine ks_wpAt_If ?_))
local macro_rules | `(tactic| walk_at "wpAt") => `(tactic| (ks_step "eval Call"; with_unfolding_all refine ks_wpAt_MethodCall ?_))
local macro_rules | `(tactic| walk_at "wpAt") => `(tactic| (ks_step "attributeBase Call"; k_here; k_dflt (with_unfolding_all refine ksN (by k_asm) (by k_asm) (by k_asm) (by k_asm) (by k_is) (by rfl) (by rfl) (by k_inst) (by k_is) (by rfl) (ProgOk.file (by assumption)) (by k_is) (by k_is) (by k_is) (by k_is) (by decide) (by rfl) (by rfl) (by rfl) (by rfl) (ProgOk.sup (by assumption)) (by first | boot_by_name | rfl | kernel_rfl) ?_; intro so' h' F' N' l1; (try k_lt l1))))
local macro_rules | `(tactic| walk_at "call ref") => `(tactic| (k_here; k_dflt (with_reducible show wpAny _ _ (call (Value.ref _) [_] []) _ _ _); refine Hold.mk ?_))
local macro_rules | `(tactic| k_inst) => `(tactic| (refine' InstAt.of_K ?X ?h1 ?h2; (case X => first | assumption | exact Frag.In.keeps (by k_asm) (Fr.keep (by k_asm))); (case h1 => k_is); (case h2 => k_is)))
set_option maxRecDepth 100000
set_option maxHeartbeats 400000
variable {prog : Program} {w : World} {A : Around} {s : Shared} {p : Program} {loose : List Str} {mg mb : Str → Option Value} {Q E : Value → Shared → Prop}
theorem tga_kind : builtinKind "tuple.__getattribute__" = some .slot := by decide +kernel
theorem tga_split : splitId "tuple.__getattribute__" = some ("tuple", "__getattribute__") := by decide +kernel
theorem get_tup {x C : Addr} {ox : Obj} {od : Option Obj} {name : Str} {g a : Value} {K : Frag} (X : K.In s.heap) (I : InstAt s.heap x ox C od) (hga : findIn K (.ref C) "__getattribute__" = some (some (.builtin "tuple.__getattribute__"))) (hm : mroIn K C (.type "tuple") = some true)
    (hf : findObj K C od name = some (.bind g a)) (hgn : findIn K (.ref C) "__getattr__" = some none) (hgr : ∃ q, g = .ref q)
    (h : wpAny (model prog w) A.in1 (call g [a, .ref x, .ref C]) (fun v s' => wpAny (model prog w) A (handedOut v) Q E s') (fun _ _ => False) { s with toks := s.toks + 1 }) :
    wpAny (model prog w) A (getAttr (.ref x) name true) Q E s := by
  obtain ⟨q, rfl⟩ := hgr
  obtain ⟨hh, gg, d, t, os⟩ := s
  have L0 := I.type (M := model prog w)
  have L1 := looks_findIn (M := model prog w) X hga
  have L2 := looks_findIn (M := model prog w) X hgn
  have L3 := looks_find (M := model prog w) X I hf
  have L4 : Looks (model prog w) hh (isInstance (.ref x) (.type "tuple")) true := L0.andThen (looks_mroIn X hm)
  unfold getAttr getAttrBy
  refine wpAny_bind (wpAny_mkText (wpAny_holding (wpAny_bind (L0.at (wpAny_bind (L1.at ?_))))))
  show wpAny _ _ (getAttrByItsOwn _ _ _ _ _ _) _ _ _
  unfold getAttrByItsOwn hookBefore callGetattribute boundAndCalled
  refine wpAny_bind ?_
  show wpAny _ _ (typeLookup (.ref C) "__getattr__") _ _ _
  refine L2.at (wpAny_bind (wpAny_attempt (wpAny_holding ?_)))
  show wpAny _ _ (bindSpecial (.builtin "tuple.__getattribute__") (.ref x) >>= _) _ _ _
  rw [F.slot_tuple_getattribute.bind]
  refine wpAny_bind (wpAny_pure ?_)
  dsimp only
  show wpAny _ _ (call (.builtin "tuple.__getattribute__") [.ref x, .str name t] []) _ _ _
  refine wpAny_call ?_
  refine codeAny_call_builtin (args := ⟨[.ref x, .str name t], []⟩) F.slot_tuple_getattribute.plain am_entry_tuple_getattribute ?_
  refine @check_slot (model prog w) _ _ _ "tuple.__getattribute__" "tuple" "__getattribute__" (.ref x) [.str name t] [] _ tga_kind tga_split L4 (F.args_tuple_getattribute_2 _ _) ?_
  unfold Builtin.«object.__getattribute__»
  refine wpAny_bind (wpAny_pure ?_)
  refine wpAny_bind (wpAny_pure ?_)
  refine wpAny_bind (L0.at ?_)
  refine wpAny_bind (L3.at ?_)
  show wpAny _ _ (holding [a] (call (.ref q) [a, .ref x, .ref C]) >>= _) _ _ _
  refine wpAny_bind (wpAny_holding (wpAny_mono h (fun v s' z => wpAny_pure z) fun _ _ z => z.elim))
theorem issub_ar (X : (Mine.frag.heap_1 w.params).In s.heap) (h : Q (.bool true) s) : wpAny (model prog w) A (call (.builtin "issubclass") [.ref 380, .type "tuple"] []) Q E s := by
  obtain ⟨hh, gg, d, t, os⟩ := s
  have hm : mroIn (Mine.frag.heap_1 w.params) 380 (.type "tuple") = some true := by k_is
  have L1 : Looks (model prog w) hh (isSubtype (.ref 380) (.type "tuple")) true := looks_mroIn X hm
  have L3 : Looks (model prog w) hh (typeOf (.type "tuple")) (.type "type") := Looks.of_pure (by kernel_rfl)
  have L4 : Looks (model prog w) hh (isType (.type "tuple")) true := Looks.of_pure (by kernel_rfl)
  have L2 : Looks (model prog w) hh (isType (.ref 380)) true := by
    obtain ⟨cd, hc, _⟩ := Option.bind_eq_some_iff.mp hm
    unfold clsIn at hc
    split at hc
    · rename_i ho
      cases hc
      unfold isType loadHead
      refine (Looks.ld (X _ _ ho)).andThen ?_
      exact .now
    · cases hc
  refine wpAny_call (codeAny_call_builtin F.plain_issubclass F.entry_issubclass ?_)
  simp only [checkBuiltinCall, F.kind_issubclass]
  have ok := F.args_issubclass_2 (.ref 380) (.type "tuple")
  have fin : wpAny (model prog w) A.in1 (Builtin.«issubclass» ⟨[.ref 380, .type "tuple"], []⟩)
      (fun fin s' => match fin with | .done f => wants Q E (.ok f) s' | .again c' => c'.quiet = true ∧ codeAny (model prog w) A c' (wants Q E) s') (fun e s' => wants Q E (.error e) s') ⟨hh, gg, d, t, os⟩ := by
    refine issubclass_outer ?_
    unfold Builtin.«issubclass.nested»
    repeat (first | with_reducible assumption | lk)
  cases hsig : Manifest.signature? "issubclass" with
  | none => exact wpAny_pure fin
  | some sig =>
    simp only [argsOk, hsig] at ok
    have h2 : Bind.checkArgs "issubclass" sig ⟨[.ref 380, .type "tuple"], []⟩ = pure () := ok
    show wpAny _ _ (Bind.checkArgs "issubclass" sig ⟨[.ref 380, .type "tuple"], []⟩) _ _ _
    rw [h2]; exact wpAny_pure fin
theorem tgi_kind : builtinKind "tuple.__getitem__" = some .slot := by decide +kernel
theorem tgi_split : splitId "tuple.__getitem__" = some ("tuple", "__getitem__") := by decide +kernel
open Builtin in
theorem tgi_ar {x ad : Addr} {t ti : Tok} {i : Int} {v : Value} (X : (Mine.frag.heap_1 w.params).In s.heap) (hx : s.heap.get? x = some (arObj ad t)) (hd : s.heap.get? ad = some (dictOf [] 0)) (hi : (i = 0 ∧ v = .int 2 t) ∨ (i = 1 ∧ v = .bool false)) (h : Q v s) :
    wpAny (model prog w) A (call (.builtin "tuple.__getitem__") [.ref x, .int i ti] []) Q E s := by
  obtain ⟨hh, gg, d, tk, os⟩ := s
  have I : InstAt hh x (arObj ad t) 380 (some (dictOf [] 0)) := ⟨hx, rfl, rfl, hd⟩
  have L0 := I.type (M := model prog w)
  have hm : mroIn (Mine.frag.heap_1 w.params) 380 (.type "tuple") = some true := by k_is
  have L4 : Looks (model prog w) hh (isInstance (.ref x) (.type "tuple")) true := L0.andThen (looks_mroIn X hm)
  have L5 : Looks (model prog w) hh (typeOf (.int i ti)) (.type "int") := Looks.of_pure (by kernel_rfl)
  refine wpAny_call ?_
  refine codeAny_call_builtin (args := ⟨[.ref x, .int i ti], []⟩) F.slot_tuple_getitem.plain F.entry_tuple_getitem ?_
  refine @check_slot (model prog w) _ _ _ "tuple.__getitem__" "tuple" "__getitem__" (.ref x) [.int i ti] [] _ tgi_kind tgi_split L4 (F.args_tuple_getitem_2 _ _) ?_
  unfold Builtin.«tuple.__getitem__» Tuple.tupleItemsOf
  rcases hi with ⟨rfl, rfl⟩ | ⟨rfl, rfl⟩
  · repeat (any_goals (first | with_reducible assumption | lk | wp_step))
    exact h
  · repeat (any_goals (first | with_reducible assumption | lk | wp_step))
    exact h

local macro_rules | `(tactic| walk_at "call type:type") => `(tactic| (k_here; (with_reducible show wpAny _ _ (call (Value.type "type") [Value.ref _] []) _ _ _); refine Hold.mk ?_))
local macro_rules | `(tactic| walk_at "call builtin:issubclass") => `(tactic| (k_here; refine issub_ar (by k_in) ?_))
local macro_rules | `(tactic| walk_at "call builtin:tuple.__getitem__") => `(tactic| (k_here; refine Hold.mk ?_))
theorem meta_tuple : typeOf (.type "tuple") = pure (.type "type") := by kernel_rfl
local macro_rules | `(tactic| walk_at "getMethod type:tuple") => `(tactic| (k_here; refine' method_type ?F ?X ?m (by decide +kernel) ?e ?h ?_; (case F => k_asm); (case X => k_asm); (case m => exact meta_tuple); (case e => k_dflt k_is); (case h => k_handed)))
theorem tg_c {x ad : Addr} {g : Nat} {t : Tok} {v : Value} (hg : (g = 372 ∧ v = .int 2 t) ∨ (g = 375 ∧ v = .bool false)) (X : (Mine.frag.heap_1 w.params).In s.heap) (T : TopRead p loose mg mb s.heap) (hx : s.heap.get? x = some (arObj ad t)) (hd : s.heap.get? ad = some (dictOf [] 0)) (hdp : A.depth < recursionLimit)
    (hQ : ∀ h' tk, s.heap.StaysIn h' → Q v { s with heap := h', toks := tk }) : wpAny (model prog w) A (call (.ref 161) [.ref g, .ref x, .ref 380] []) Q E s := by
  refine useCall (enter (binds := [("self", .ref g), ("obj", .ref x), ("objtype", .ref 380)]) X T.nolimit hdp (by k_is) (by k_is) (kp_binds X (fun _ => rfl)) (locs rfl) ?_)
  intro L h₁ F N hL
  rcases hg with ⟨rfl, rfl⟩ | ⟨rfl, rfl⟩
  · k_steps
    rename Fr _ _ _ _ => F'
    refine Hold.intro (kto_own (⟨F'.keep _ _ hx, rfl, rfl, F'.keep _ _ hd⟩ : InstAt _ x (arObj ad t) 380 (some (dictOf [] 0))) ?_)
    k_steps
    rename Fr _ _ _ _ => F'
    refine Hold.intro (tgi_ar (by k_in) (F'.keep _ _ hx) (F'.keep _ _ hd) (.inl ⟨rfl, rfl⟩) ?_)
    k_steps
    exact hQ _ _ (Fr.keep (by k_asm))
  · k_steps
    rename Fr _ _ _ _ => F'
    refine Hold.intro (kto_own (⟨F'.keep _ _ hx, rfl, rfl, F'.keep _ _ hd⟩ : InstAt _ x (arObj ad t) 380 (some (dictOf [] 0))) ?_)
    k_steps
    rename Fr _ _ _ _ => F'
    refine Hold.intro (tgi_ar (by k_in) (F'.keep _ _ hx) (F'.keep _ _ hd) (.inr ⟨rfl, rfl⟩) ?_)
    k_steps
    exact hQ _ _ (Fr.keep (by k_asm))
theorem clsSome {K : Frag} {C : Addr} {b : Value} (hm : mroIn K C b = some true) : (clsIn K C).isSome = true := by
  obtain ⟨cd, hc, _⟩ := Option.bind_eq_some_iff.mp hm
  rw [hc]; rfl
theorem minCount_c {x ad : Addr} {t : Tok} (X : (Mine.frag.heap_1 w.params).In s.heap) (T : TopRead p loose mg mb s.heap) (hx : s.heap.get? x = some (arObj ad t)) (hd : s.heap.get? ad = some (dictOf [] 0)) (hdp : A.depth + 2 < recursionLimit)
    (hQ : ∀ h' tk, s.heap.StaysIn h' → Q (.int 2 t) { s with heap := h', toks := tk }) : wpAny (model prog w) A (getAttr (.ref x) "min_count" true) Q E s := by
  refine get_tup (ox := arObj ad t) (C := 380) (od := some (dictOf [] 0)) (g := .ref 161) (a := .ref 372) X ⟨hx, rfl, rfl, hd⟩ (by k_is) (by k_is) (findObj_data (clsSome (b := .type "tuple") (by k_is)) (by k_is) (by k_is) (by k_is)) (by k_is) ⟨_, rfl⟩ ?_
  refine tg_c (.inl ⟨rfl, rfl⟩) X T hx hd (by k_room) ?_
  intro h' tk st
  rw [handedOut_of (by rfl)]
  exact wpAny_pure (hQ _ _ st)
theorem fixedSize_c {x ad : Addr} {t : Tok} (X : (Mine.frag.heap_1 w.params).In s.heap) (T : TopRead p loose mg mb s.heap) (hx : s.heap.get? x = some (arObj ad t)) (hd : s.heap.get? ad = some (dictOf [] 0)) (hdp : A.depth + 2 < recursionLimit)
    (hQ : ∀ h' tk, s.heap.StaysIn h' → Q (.bool false) { s with heap := h', toks := tk }) : wpAny (model prog w) A (getAttr (.ref x) "fixed_size" true) Q E s := by
  refine get_tup (ox := arObj ad t) (C := 380) (od := some (dictOf [] 0)) (g := .ref 161) (a := .ref 375) X ⟨hx, rfl, rfl, hd⟩ (by k_is) (by k_is) (findObj_data (clsSome (b := .type "tuple") (by k_is)) (by k_is) (by k_is) (by k_is)) (by k_is) ⟨_, rfl⟩ ?_
  refine tg_c (.inr ⟨rfl, rfl⟩) X T hx hd (by k_room) ?_
  intro h' tk st
  rw [handedOut_of (by rfl)]
  exact wpAny_pure (hQ _ _ st)
end Mine
namespace Mine
open PySem PySem.W PySem.Calls PyProof.Rows
local macro_rules | `(tactic| k_inst) => `(tactic| (refine' instBase ?F ?h1 ?h2; (case F => k_asm); (case h1 => assumption); (case h2 => assumption)))
local macro_rules | `(tactic| k_room) => `(tactic| ((try simp only [depth_under_make, depth_under_kw, depth_in1, depth_deeper, depth_caller]); omega))
local macro_rules | `(tactic| k_units) => `(tactic| ((try simp only [units_in1, units_deeper, Around.mark_units, units_caller]); omega))
local macro_rules | `(tactic| walk_at "exec For") => `(tactic| (k_here; refine Hold.mk ?_))
local macro_rules | `(tactic| walk_at "truthy str") => `(tactic| (k_here; (with_reducible show wpAny _ _ (PySem.truthy (Value.str (Leaf.nm _) _)) _ _ _); refine truthy_nm ?_; intro _))
local macro_rules | `(tactic| walk_at "call builtin:len") => `(tactic| (k_here; (with_reducible show wpAny _ _ (call (Value.builtin "len") [Value.ref _] []) _ _ _); refine' lenB ?k1 ?k2 ?k3 ?_; (case k1 => k_asm); (case k2 => assumption); (case k3 => assumption); intro t' k'))
local macro_rules | `(tactic| walk_at "call type:zip") => `(tactic| (k_here; refine Hold.mk ?_))
local macro_rules | `(tactic| walk_at "compareOp Lt ref") => `(tactic| (k_here; (with_reducible show wpAny _ _ (compareOp CmpOp.Lt (Value.ref _) (Value.ref _)) _ _ _); refine Hold.mk ?_))
local macro_rules | `(tactic| walk_at "exec For Name Call cons nil") => `(tactic| (k_here; refine Hold.mk ?_))
local macro_rules | `(tactic| walk_at "exec For Name Name cons nil") => `(tactic| (k_here; refine Hold.mk ?_))
local macro_rules | `(tactic| walk_at "exec For Name Attribute cons nil") => `(tactic| (k_here; refine Hold.mk ?_))
local macro_rules | `(tactic| walk_at "exec For Name Subscript cons nil") => `(tactic| (k_here; refine Hold.mk ?_))
local macro_rules | `(tactic| walk_at "exec For Tuple Call cons nil") => `(tactic| (k_here; refine Hold.mk ?_))
local macro_rules | `(tactic| walk_at "exec For Name Tuple cons nil") => `(tactic| (k_here; refine Hold.mk ?_))
local macro_rules | `(tactic| walk_at "exec For Name Call") => `(tactic| (k_here; refine Hold.mk ?_))
local macro_rules | `(tactic| walk_at "exec For Name Name") => `(tactic| (k_here; refine Hold.mk ?_))
local macro_rules | `(tactic| walk_at "exec For Tuple Call") => `(tactic| (k_here; refine Hold.mk ?_))
local macro_rules | `(tactic| walk_at "exec While Compare cons nil") => `(tactic| (k_here; refine Hold.mk ?_))
local macro_rules | `(tactic| walk_at "exec While BoolOp cons nil") => `(tactic| (k_here; refine Hold.mk ?_))
local macro_rules | `(tactic| walk_at "exec While Compare") => `(tactic| (k_here; refine Hold.mk ?_))
local macro_rules | `(tactic| walk_at "exec While BoolOp") => `(tactic| (k_here; refine Hold.mk ?_))
local macro_rules | `(tactic| k_inst) => `(tactic| (first | (refine' instBase ?F ?h1 ?h2; (case F => k_asm); (case h1 => assumption); (case h2 => assumption)) | (refine' instBL ?F ?N ?h1 ?h2; (case F => k_asm); (case N => k_asm); (case h1 => assumption); (case h2 => k_mem))))
local macro_rules | `(tactic| walk_at "wpAt") => `(tactic| (dsimp only; ks_step "execs cons"; refine ks_wpAt_execs_cons ?_))
local macro_rules | `(tactic| walk_at "wpAt") => `(tactic| (ks_step "execs cons"; refine ks_wpAt_execs_cons ?_))
local macro_rules | `(tactic| walk_at "wpAt") => `(tactic| (ks_step "exec Expr"; with_unfolding_all refine ks_wpAt_Expr_any ?_))
local macro_rules | `(tactic| walk_at "wpAt") => `(tactic| (ks_step "exec If"; with_unfolding_all refine ks_wpAt_If ?_))
local macro_rules | `(tactic| walk_at "wpAt") => `(tactic| (ks_step "eval Call"; with_unfolding_all refine ks_wpAt_MethodCall ?_))
local macro_rules | `(tactic| walk_at "wpAt") => `(tactic| (ks_step "attributeBase Call"; k_here; k_dflt (with_unfolding_all refine ksN (by k_asm) (by k_asm) (by k_asm) (by k_asm) (by k_is) (by rfl) (by rfl) (by k_inst) (by k_is) (by rfl) (ProgOk.file (by assumption)) (by k_is) (by k_is) (by k_is) (by k_is) (by decide) (by rfl) (by rfl) (by rfl) (by rfl) (ProgOk.sup (by assumption)) (by first | boot_by_name | rfl | kernel_rfl) ?_; intro so' h' F' N' l1; (try k_lt l1))))
local macro_rules | `(tactic| walk_at "call ref") => `(tactic| (k_here; k_dflt (with_reducible show wpAny _ _ (call (Value.ref _) [_] []) _ _ _); refine Hold.mk ?_))
set_option maxRecDepth 100000
set_option maxHeartbeats 4000000
variable {prog : Program} {w : World} {A : Around} {s : Shared} {p : Program} {loose : List Str} {mg mb : Str → Option Value} {Q E : Value → Shared → Prop}
abbrev tupOf (vs : List Value) : Obj := ⟨.type "tuple", none, .seq vs.toArray, #[]⟩
theorem count_c {r n : Nat} {ps : List (Value × Ex)} (X : (Mine.frag.heap_1 w.params).In s.heap) (T : TopRead p loose mg mb s.heap) (hr : s.heap.get? r = some (listOf (ps.map (·.1)).toArray n)) (hb : Bears w.params (at_ s.heap) ps) (hn : ps.length ≤ 1000) (hh : A.handled = none) (hd : A.depth + 1 < recursionLimit) (hu : A.units + 20 < cLine)
    (hQ : ∀ a t h' tk, s.heap.StaysIn h' → s.heap.get? a = none → h'.get? a = some (tupOf [.int (ps.length : Int) t, .bool false]) → Q (.ref a) { s with heap := h', toks := tk }) :
    wpAny (model prog w) A (call (.ref 443) [.ref r] []) Q E s := by
  refine useCall (enter (binds := [("operands", .ref r)]) X T.nolimit (by omega) (by k_is) (by k_is) (BindsTo.of_eq rfl) (locs rfl) ?_)
  intro L h₁ F N hL
  k_steps
  rename Fr _ _ _ _ => F'
  rename News _ _ _ _ => N'
  refine Hold.intro ?_
  refine forList (h₀ := s.heap) (L := L) (l := r) (items := (ps.map (·.1)).toArray) (fun i m news => news = [] ∧ (∃ t, m "operand_count" = some (.int (i : Int) t)) ∧
      ∀ y, y ≠ ("operand" : Str) → y ≠ ("operand_count" : Str) → m y = (if y = ("variable" : Str) then some (.bool false) else List.lookup y [(("operands" : Str), Value.ref r)].reverse)) ?_ ?_ ?_ ?_ hh (by with_unfolding_all rfl) (by with_unfolding_all rfl)
  · k_steps
    exact ⟨rfl, _, _, _, _, rfl, F', N', rfl, ⟨_, rfl⟩, fun y h1 h2 => by simp only [h2, if_false]⟩
  · rintro i m news h ⟨rfl, _⟩ F N
    exact ⟨_, F.keep _ _ hr, rfl, _, rfl⟩
  · rintro i v m news it o h tk hv ⟨rfl, ⟨t, hc⟩, hm⟩ hne hitr F N
    rw [mapTwo hm] at F
    simp only [hc] at F
    obtain ⟨q, hq, rfl⟩ : ∃ q, ps[i]? = some q ∧ q.1 = v := by simpa using hv
    have hqe := hb q (List.mem_of_getElem? hq)
    obtain ⟨v, e⟩ := q
    have fin : ∀ {h'' : Heap} {tk'' : Nat} {k : Int} {u : Tok} {m'' : Str → Option Value}, Fr s.heap L h'' m'' → News s.heap L h'' [(it, o)] → k = (i : Int) + 1 → m'' "operand_count" = some (.int k u) →
        (∀ y, y ≠ ("operand" : Str) → y ≠ ("operand_count" : Str) → m'' y = (if y = ("variable" : Str) then some (.bool false) else List.lookup y [(("operands" : Str), Value.ref r)].reverse)) →
        ∃ m' news' h' tk', ({ s with heap := h'', toks := tk'' } : Shared) = { s with heap := h', toks := tk' } ∧ Fr s.heap L h' m' ∧ News s.heap L h' ((it, o) :: news') ∧ (∀ p ∈ news', p.1 ≠ it) ∧ news' = [] ∧ (∃ t, m' "operand_count" = some (.int ((i + 1 : Nat) : Int) t)) ∧
          ∀ y, y ≠ ("operand" : Str) → y ≠ ("operand_count" : Str) → m' y = (if y = ("variable" : Str) then some (.bool false) else List.lookup y [(("operands" : Str), Value.ref r)].reverse) := by
      rintro h'' tk'' k u m'' F'' N'' rfl h1 h2
      exact ⟨m'', [], h'', tk'', rfl, F'', N'', (fun _ h => by cases h), rfl, ⟨u, h1⟩, h2⟩
    cases hqe with
    | sym hl h2 h3 =>
      (try k_fold)
      k_steps
      exact fin (by k_asm) (by k_asm) rfl rfl (fun y h1 h2 => by simp only [h1, h2, if_false])
    | var hl h2 h3 =>
      (try k_fold)
      k_steps
      exact fin (by k_asm) (by k_asm) rfl rfl (fun y h1 h2 => by simp only [h1, h2, if_false])
    | op h2 h3 h4 h5 h6 h7 =>
      (try k_fold)
      k_steps
      exact fin (by k_asm) (by k_asm) rfl rfl (fun y h1 h2 => by simp only [h1, h2, if_false])
  · rintro m news h tk ⟨rfl, ⟨t, hc⟩, hm⟩ F N
    rw [mapTwo hm] at F
    simp only [hc] at F
    k_steps
    rename Fr _ _ _ _ => F''
    rename News _ _ _ _ => N''
    have z := N'' _ (.head _)
    have e : (ps.map (·.1)).toArray.size = ps.length := by simp
    rw [e] at z
    exact hQ _ t _ _ F''.keep z.2.2 z.1
end Mine
namespace Mine
open PySem PySem.W PySem.Calls PyProof.Rows
/-- a call has left a new object -/
theorem newsAdd {h₀ h h' : Heap} {L a : Addr} {m : Str → Option Value} {o : Obj} {news : List (Addr × Obj)} (F : Fr h₀ L h m) (N : News h₀ L h news) (st : h.StaysIn h') (ha : h.get? a = none) (ho : h'.get? a = some o) :
    Fr h₀ L h' m ∧ News h₀ L h' ((a, o) :: news) ∧ ∀ p ∈ news, p.1 ≠ a := by
  refine ⟨frStay F st, fun p hp => ?_, fun p hp e => ?_⟩
  · rcases List.mem_cons.mp hp with rfl | hp
    · refine ⟨ho, fun e => ?_, ?_⟩
      · obtain ⟨oL, es, ep, hL, _⟩ := F.ns
        have e : a = L := e
        rw [e, hL] at ha; cases ha
      · cases q : h₀.get? a with
        | none => rfl
        | some o' => have := F.keep _ _ q; rw [ha] at this; cases this
    · exact newsStay N st _ hp
  · have := (N p hp).1
    rw [e, ha] at this; cases this
theorem assignTwo {prog : Program} {w : World} {A : Around} {E : Value → Shared → Prop} {s : Shared} {env : Env} {h₀ : Heap} {L a : Addr} {m : Str → Option Value} {news : List (Addr × Obj)} {x1 x2 : Str} {p1 p2 pt : Pos} {kt : Nat} {v1 v2 : Value} {Q : Unit → Shared → Prop}
    (hh : A.handled = none) (F : Fr h₀ L s.heap m) (N : News h₀ L s.heap news) (hm : (a, tupOf [v1, v2]) ∈ news) (hx1 : env.kindOf x1 = some .local) (hx2 : env.kindOf x2 = some .local) (hp : (env.scope.kind == .class || (env.scope.kind == .module && env.locals != env.globals)) = false)
    (h : ∀ h' tk, Fr h₀ L h' (fun y => if y = x2 then some v2 else if y = x1 then some v1 else m y) → News h₀ L h' news → Q () { s with heap := h', toks := tk }) (hL : env.locals = L := by rfl) :
    wpAny (model prog w) A (assign (.Tuple [.Name x1 p1, .Name x2 p2] kt pt) env (.ref a)) Q E s := by
  subst hL
  have hT : s.heap.IsTuple a #[v1, v2] := ⟨_, (N _ hm).1, rfl, _, rfl⟩
  refine wpAny_assign_Tuple hh hT rfl rfl fun h₃ hx₃ => ?_
  have nn : h₀.get? s.heap.objs.size = none := by
    cases q : h₀.get? s.heap.objs.size with
    | none => rfl
    | some o => exact absurd (Heap.lt_size (F.keep _ _ q)) (Nat.lt_irrefl _)
  have F₃ : Fr h₀ env.locals h₃ m := frSame F hx₃ (Nat.ne_of_gt F.ns.lt) nn
  have N₃ : News h₀ env.locals h₃ news := newsSame N hx₃ fun p hp => Nat.ne_of_lt (Heap.lt_size (N p hp).1)
  show wpAny _ _ (assignInOrder [_, _] [v1, v2]) _ _ _
  refine wpAny_bind (wpAny_holding (wpAny_assign_Name (wpAny_storeName_local hx1 F₃.ns (fun h₄ hn₄ hs₄ => ?_) hp)))
  have F₄ := F₃.set hn₄ hs₄
  have N₄ : News h₀ env.locals h₄ news := fun p hp => ⟨hs₄.extBut _ _ (N₃ p hp).2.1 (N₃ p hp).1, (N₃ p hp).2⟩
  show wpAny _ _ (assignInOrder [_] [v2]) _ _ _
  refine wpAny_bind (wpAny_holding (wpAny_assign_Name (wpAny_storeName_local hx2 F₄.ns (fun h₅ hn₅ hs₅ => wpAny_pure ?_) hp)))
  have F₅ := F₄.set hn₅ hs₅
  have N₅ : News h₀ env.locals h₅ news := fun p hp => ⟨hs₅.extBut _ _ (N₄ p hp).2.1 (N₄ p hp).1, (N₄ p hp).2⟩
  exact h _ _ F₅ N₅
local macro_rules | `(tactic| k_inst) => `(tactic| (refine' instBase ?F ?h1 ?h2; (case F => k_asm); (case h1 => assumption); (case h2 => assumption)))
local macro_rules | `(tactic| k_room) => `(tactic| ((try simp only [depth_under_make, depth_under_kw, depth_in1, depth_deeper, depth_caller]); omega))
local macro_rules | `(tactic| k_units) => `(tactic| ((try simp only [units_in1, units_deeper, Around.mark_units, units_caller]); omega))
local macro_rules | `(tactic| walk_at "exec For") => `(tactic| (k_here; refine Hold.mk ?_))
local macro_rules | `(tactic| walk_at "truthy str") => `(tactic| (k_here; (with_reducible show wpAny _ _ (PySem.truthy (Value.str (Leaf.nm _) _)) _ _ _); refine truthy_nm ?_; intro _))
local macro_rules | `(tactic| walk_at "call builtin:len") => `(tactic| (k_here; (with_reducible show wpAny _ _ (call (Value.builtin "len") [Value.ref _] []) _ _ _); refine' lenB ?k1 ?k2 ?k3 ?_; (case k1 => k_asm); (case k2 => assumption); (case k3 => assumption); intro t' k'))
local macro_rules | `(tactic| walk_at "call type:zip") => `(tactic| (k_here; refine Hold.mk ?_))
local macro_rules | `(tactic| walk_at "compareOp Lt ref") => `(tactic| (k_here; (with_reducible show wpAny _ _ (compareOp CmpOp.Lt (Value.ref _) (Value.ref _)) _ _ _); refine Hold.mk ?_))
local macro_rules | `(tactic| walk_at "exec For Name Call cons nil") => `(tactic| (k_here; refine Hold.mk ?_))
local macro_rules | `(tactic| walk_at "exec For Name Name cons nil") => `(tactic| (k_here; refine Hold.mk ?_))
local macro_rules | `(tactic| walk_at "exec For Name Attribute cons nil") => `(tactic| (k_here; refine Hold.mk ?_))
local macro_rules | `(tactic| walk_at "exec For Name Subscript cons nil") => `(tactic| (k_here; refine Hold.mk ?_))
local macro_rules | `(tactic| walk_at "exec For Tuple Call cons nil") => `(tactic| (k_here; refine Hold.mk ?_))
local macro_rules | `(tactic| walk_at "exec For Name Tuple cons nil") => `(tactic| (k_here; refine Hold.mk ?_))
local macro_rules | `(tactic| walk_at "exec For Name Call") => `(tactic| (k_here; refine Hold.mk ?_))
local macro_rules | `(tactic| walk_at "exec For Name Name") => `(tactic| (k_here; refine Hold.mk ?_))
local macro_rules | `(tactic| walk_at "exec For Tuple Call") => `(tactic| (k_here; refine Hold.mk ?_))
local macro_rules | `(tactic| walk_at "exec While Compare cons nil") => `(tactic| (k_here; refine Hold.mk ?_))
local macro_rules | `(tactic| walk_at "exec While BoolOp cons nil") => `(tactic| (k_here; refine Hold.mk ?_))
local macro_rules | `(tactic| walk_at "exec While Compare") => `(tactic| (k_here; refine Hold.mk ?_))
local macro_rules | `(tactic| walk_at "exec While BoolOp") => `(tactic| (k_here; refine Hold.mk ?_))
local macro_rules | `(tactic| k_inst) => `(tactic| (first | (refine' instBase ?F ?h1 ?h2; (case F => k_asm); (case h1 => assumption); (case h2 => assumption)) | (refine' instBL ?F ?N ?h1 ?h2; (case F => k_asm); (case N => k_asm); (case h1 => assumption); (case h2 => k_mem))))
local macro_rules | `(tactic| walk_at "wpAt") => `(tactic| (dsimp only; ks_step "execs cons"; refine ks_wpAt_execs_cons ?_))
local macro_rules | `(tactic| walk_at "wpAt") => `(tactic| (ks_step "execs cons"; refine ks_wpAt_execs_cons ?_))
local macro_rules | `(tactic| walk_at "wpAt") => `(tactic| (ks_step "exec Expr"; with_unfolding_all refine ks_wpAt_Expr_any ?_))
local macro_rules | `(tactic| walk_at "wpAt") => `(tactic| (ks_step "exec If"; with_unfolding_all refine ks_wpAt_If ?_))
local macro_rules | `(tactic| walk_at "wpAt") => `(tactic| (ks_step "eval Call"; with_unfolding_all refine ks_wpAt_MethodCall ?_))
local macro_rules | `(tactic| walk_at "wpAt") => `(tactic| (ks_step "attributeBase Call"; k_here; k_dflt (with_unfolding_all refine ksN (by k_asm) (by k_asm) (by k_asm) (by k_asm) (by k_is) (by rfl) (by rfl) (by k_inst) (by k_is) (by rfl) (ProgOk.file (by assumption)) (by k_is) (by k_is) (by k_is) (by k_is) (by decide) (by rfl) (by rfl) (by rfl) (by rfl) (ProgOk.sup (by assumption)) (by first | boot_by_name | rfl | kernel_rfl) ?_; intro so' h' F' N' l1; (try k_lt l1))))
local macro_rules | `(tactic| walk_at "call ref") => `(tactic| (k_here; k_dflt (with_reducible show wpAny _ _ (call (Value.ref _) [_] []) _ _ _); refine Hold.mk ?_))
local macro_rules | `(tactic| walk_at "getAttr ref") => `(tactic| (k_here; (first | (with_reducible show wpAny _ _ (getAttr (Value.ref _) (PySem.Str.ofString "min_count") _) _ _ _) | (with_reducible show wpAny _ _ (getAttr (Value.ref _) (PySem.Str.ofString "fixed_size") _) _ _ _)); refine Hold.mk ?_))
local macro_rules | `(tactic| walk_at "getMethod ref") => `(tactic| (k_here; k_dflt (refine' kmu_sm ?k1 ?k2 ?k4 ?k5 ?k6 ?k7 ?k8 ?k9 ?k10 ?k11 ?k12 ?k13 ?k14 ?_; (case k1 => k_asm); (case k2 => k_asm); (case k4 => k_inst); (case k5 => k_is); (case k6 => k_is); (case k7 => k_is); (case k8 => k_is); (case k9 => k_is); (case k10 => k_is); (case k11 => decide +kernel); (case k12 => k_get); (case k13 => k_is); (case k14 => k_handed); k_whole)))
set_option maxRecDepth 100000
set_option maxHeartbeats 4000000
variable {prog : Program} {w : World} {A : Around} {s : Shared} {p : Program} {loose : List Str} {mg mb : Str → Option Value} {Q E : Value → Shared → Prop}
theorem opInit_c {g : Heap} {x d ka r n : Nat} {k : Bool} {ps : List (Value × Ex)} {R : Result → Shared → Prop} (P : ProgOk prog) (X : (Mine.frag.heap_1 w.params).In g) (T : TopRead p loose mg mb g) (hg : g.StaysIn s.heap) (hgr : g.get? d = none) (hx : s.heap.get? x = some (instObj 561 d)) (hxd : x ≠ d) (hd : s.heap.get? d = some (dictOf [] 0))
    (hk : IsKind w.params (at_ (less s.heap d)) ka k) (hr : (less s.heap d).get? r = some (listOf (ps.map (·.1)).toArray n)) (hb : Bears w.params (at_ (less s.heap d)) ps) (hn : ps.length ≤ 1000) (h2 : 2 ≤ ps.length) (hh : A.handled = none) (hdp : A.depth + 5 < recursionLimit) (hu : A.units + 40 < cLine)
    (hQ : ∀ ar t1 t2 t3 t4 t5 t6 t7 t8 t9 h' tk, (less s.heap d).StaysIn h' → h'.get? d = some (dictOf [en w.params "variable_name" t1 .none, en w.params "head" t2 (.ref ka), en w.params "name" t3 (.str (kdName k) t4), en w.params "arity" t5 (.ref ar), en w.params "associative" t6 (.bool true), en w.params "commutative" t7 (.bool true), en w.params "one_identity" t8 (.bool false), en w.params "operands" t9 (.ref r)] 8) → R (.ok (.ret .none)) { s with heap := h', toks := tk }) :
    codeAny (model prog w) A (.call (.ref 436) ⟨[.ref x, .ref ka, .ref r], [("variable_name", .none)]⟩) R s := by
  have hgb := less_stays hg hgr
  have Xb := X.keeps hgb
  have Tb := T.keeps hgb
  refine enterS (r := d) (binds := [("self", .ref x), ("kind", .ref ka), ("operands", .ref r), ("variable_name", .none)]) Xb hd (T.nolimit.keeps hg) (by omega) (by k_is) (by k_is) (kp_binds (X.keeps hg) (fun _ => rfl)) (locs rfl) ?_
  intro L h₁ F N hL
  have hx' : (less s.heap d).get? x = some (instObj 561 d) := less_get hx hxd
  cases hk with | mk k1 k2 k3 k4 =>
  rename_i kd kar kad _ _ _ _ _ _ _ _ _
  (try k_fold)
  k_steps
  rename News _ _ _ _ => N'
  rename Fr _ _ _ _ => F'
  refine Hold.intro (call_meth N' (by k_mem) ?_)
  have hg' : g.StaysIn _ := fun b o e => F'.keep b o (hgb b o e)
  refine exprInit_op (g := g) (d := d) X T hg' hgr (F'.keep _ _ hx') hxd (N' (d, _) (by k_mem)).1 (by simp only [depth_deeper]; omega) ?_
  intro t h' tk st hd'
  obtain ⟨F'', N''⟩ := chgBack (own := [_, _]) (rest := []) F' N' (by k_all) (fun _ h => by cases h) st hd'
  simp only [List.cons_append, List.nil_append] at N''
  k_steps
  rename News _ _ _ _ => N₃
  rename Fr _ _ _ _ => F₃
  refine Hold.intro (count_c (ps := ps) (n := n) (Xb.keeps F₃.keep) (Tb.keeps F₃.keep) (F₃.keep _ _ hr) (fun q hq => (hb q hq).mono fun a o h => F₃.keep a o h) hn hh (by simp only [depth_deeper]; omega) (by simp only [units_deeper]; omega) ?_)
  intro a ta h₄ tk₄ st₄ ha ha'
  obtain ⟨F₄, N₄, hne⟩ := newsAdd F₃ N₃ st₄ ha ha'
  have nd : d ≠ a := hne (d, _) (by k_mem)
  clear hne
  k_steps
  refine assignTwo (v1 := .int (ps.length : Int) ta) (v2 := .bool false) hh F₄ N₄ (.head _) (by with_unfolding_all rfl) (by with_unfolding_all rfl) (by with_unfolding_all rfl) ?_
  intro h₅ tk₅ F₅ N₅
  k_steps
  refine Hold.intro (minCount_c (t := _) (Xb.keeps F₅.keep) (Tb.keeps F₅.keep) (F₅.keep _ _ k3) (F₅.keep _ _ k4) (by simp only [depth_deeper]; omega) ?_)
  intro h₆ tk₆ st₆
  have F₆ := frStay F₅ st₆
  have N₆ := newsStay N₅ st₆
  clear N₅ F₅ st₆
  k_steps
  refine Hold.intro (fixedSize_c (t := _) (Xb.keeps F₆.keep) (Tb.keeps F₆.keep) (F₆.keep _ _ k3) (F₆.keep _ _ k4) (by simp only [depth_deeper]; omega) ?_)
  intro h₇ tk₇ st₇
  have F₇ := frStay F₆ st₇
  have N₇ := newsStay N₆ st₇
  clear N₆ F₆ st₇
  k_steps
  exact hQ _ _ _ _ _ _ _ _ _ _ _ _ (Fr.keep (by k_asm)) ((by k_asm : News _ _ _ _) (d, _) (by k_mem)).1
end Mine
namespace Mine
open PySem PySem.W PySem.Calls PyProof.Rows
/-- a binding that lays a tuple -/
theorem wp_peek1 {α : Type} {K : Frag} {M : Model} {A : Around} {E : Value → Shared → Prop} {Q : α → Shared → Prop} {s : Shared} {o : Obj} {r : Addr → α}
    (X : K.In s.heap) (q : Q (r s.heap.objs.size) { s with heap := s.heap.push o }) :
    ∀ (t : Sem α), peek1 K ⟨M.prog, M.w.params⟩ t = some (o, fun D => some (r D)) → wpAny M A t Q E s := by
  intro t
  induction t with
  | rule _ k ih => intro e Γ p hΓ; exact ih () e Γ p hΓ
  | point _ k ih => intro e Γ p hΓ; exact ih () e Γ p hΓ
  | ask k ih => intro e Γ p hΓ; exact ih _ e Γ p hΓ
  | load a _ k ih =>
    intro e Γ p hΓ
    simp only [peek1] at e
    split at e
    · rename_i ob ho; exact ⟨ob, X _ _ ho, ih ob e Γ p hΓ⟩
    · cases e
  | alloc ob k _ =>
    intro e
    have e : some (ob, fun D => peek K ⟨M.prog, M.w.params⟩ (k D)) = some (o, fun D => some (r D)) := e
    obtain ⟨e1, e2⟩ := Prod.mk.inj (Option.some.inj e)
    subst e1
    have X' : K.In (s.heap.push ob) := X.keeps fun b x hb => Heap.get?_push_of_some _ hb
    show wpAny M A (alloc ob >>= k) Q E s
    exact wpAny_bind (wpAny_alloc ((Looks.of_peek (M := M) (h := s.heap.push ob) X' (congrFun e2 s.heap.objs.size)).here (s := { s with heap := s.heap.push ob }) q))
  | _ => intro e; cases e
theorem enterR {prog : Program} {w : World} {A : Around} {K : Frag} {R : Result → Shared → Prop} {s : Shared} {name qual : Str} {params : Arguments} {body : List Stmt} {scope : Scope} {dV kV doc pm cdv ct oc : Value} {an od : Option Addr} {osl : Array (Option Value)} {f : Addr} {args : Args} {o : Obj} {binds : Addr → List (Str × Value)}
    (X : K.In s.heap) (hlim : s.heap.NoLimit) (hroom : A.depth < recursionLimit)
    (ho : K.lookup f = some ⟨oc, od, .func (fnOf name qual params body scope dV kV doc pm an cdv ct), osl⟩) (hcd : codeIn K cdv qual = true)
    (hp : peek1 K ⟨prog, w.params⟩ (bindArgs (fnOf name qual params body scope dV kV doc pm an cdv ct) args) = some (o, fun D => some (binds D))) (hloc : ∀ D, ∀ y ∈ binds D, scope.names.lookup y.1 = some .local)
    (h : ∀ D L h₁ h₀, s.heap.StaysIn h₀ → s.heap.get? D = none → h₀.get? D = some o → Fr h₀ L h₁ (fun y => (binds D).reverse.lookup y) → News h₀ L h₁ [] →
      wpAny (model prog w) (A.deeper (envOf qual scope L f cdv)) (execs body (envOf qual scope L f cdv))
        (fun fl s' => R (.ok (.ret (match fl with | .ret v => v | _ => .none))) s') (fun _ _ => False)
        { s with heap := h₁, toks := s.toks + (binds D).length }) (hf : o.isFreed = false := by rfl)
    (hcell : ∀ x ∈ scope.names, x.2 ≠ .cell := by decide) (hco : scope.isCoroutine = false := by rfl) (hgen : scope.isGenerator = false := by rfl) (hk : scope.kind = .function := by rfl) :
    codeAny (model prog w) A (.call (.ref f) args) R s := by
  refine codeAny_call_function (fd := fnOf name qual params body scope dV kV doc pm an cdv ct) (body := body) hroom (X _ _ ho) rfl hco hgen rfl (codeRec_of X hcd) ?_
  refine wp_peek1 (M := model prog w) (r := binds) X ?_ _ hp
  have st : s.heap.StaysIn (s.heap.push o) := fun b x hb => Heap.get?_push_of_some _ hb
  refine wpAny_newFunctionEnv hcell (hloc _) (fun h₀ hns₀ hsb₀ => ⟨(hlim.keeps st).fresh _ hsb₀, codeAny_func ?_⟩) hk
  refine wpAny_mono (h s.heap.objs.size _ h₀ (s.heap.push o) st (Heap.get?_none_of_le (Nat.le_refl _)) (Heap.get?_push_size _ hf) ⟨hns₀, fun b o' e => ?_, Nat.le_refl _⟩ News.nil) (fun _ _ x => x) (fun _ _ x => x.elim)
  exact hsb₀.extBut b o' (Nat.ne_of_lt (Heap.lt_size e)) (Heap.get?_push_of_some _ e)
local macro_rules | `(tactic| walk_at "pad") => `(tactic| skip)
local macro_rules | `(tactic| k_inst) => `(tactic| (refine' instBase ?F ?h1 ?h2; (case F => k_asm); (case h1 => assumption); (case h2 => assumption)))
local macro_rules | `(tactic| k_room) => `(tactic| ((try simp only [depth_under_make, depth_under_kw, depth_in1, depth_deeper, depth_caller]); omega))
local macro_rules | `(tactic| k_units) => `(tactic| ((try simp only [units_in1, units_deeper, Around.mark_units, units_caller]); omega))
local macro_rules | `(tactic| walk_at "exec For") => `(tactic| (k_here; refine Hold.mk ?_))
local macro_rules | `(tactic| walk_at "truthy str") => `(tactic| (k_here; (with_reducible show wpAny _ _ (PySem.truthy (Value.str (Leaf.nm _) _)) _ _ _); refine truthy_nm ?_; intro _))
local macro_rules | `(tactic| walk_at "call builtin:len") => `(tactic| (k_here; (with_reducible show wpAny _ _ (call (Value.builtin "len") [Value.ref _] []) _ _ _); refine' lenB ?k1 ?k2 ?k3 ?_; (case k1 => k_asm); (case k2 => assumption); (case k3 => assumption); intro t' k'))
local macro_rules | `(tactic| walk_at "call type:zip") => `(tactic| (k_here; refine Hold.mk ?_))
local macro_rules | `(tactic| walk_at "compareOp Lt ref") => `(tactic| (k_here; (with_reducible show wpAny _ _ (compareOp CmpOp.Lt (Value.ref _) (Value.ref _)) _ _ _); refine Hold.mk ?_))
local macro_rules | `(tactic| walk_at "exec For Name Call cons nil") => `(tactic| (k_here; refine Hold.mk ?_))
local macro_rules | `(tactic| walk_at "exec For Name Name cons nil") => `(tactic| (k_here; refine Hold.mk ?_))
local macro_rules | `(tactic| walk_at "exec For Name Attribute cons nil") => `(tactic| (k_here; refine Hold.mk ?_))
local macro_rules | `(tactic| walk_at "exec For Name Subscript cons nil") => `(tactic| (k_here; refine Hold.mk ?_))
local macro_rules | `(tactic| walk_at "exec For Tuple Call cons nil") => `(tactic| (k_here; refine Hold.mk ?_))
local macro_rules | `(tactic| walk_at "exec For Name Tuple cons nil") => `(tactic| (k_here; refine Hold.mk ?_))
local macro_rules | `(tactic| walk_at "exec For Name Call") => `(tactic| (k_here; refine Hold.mk ?_))
local macro_rules | `(tactic| walk_at "exec For Name Name") => `(tactic| (k_here; refine Hold.mk ?_))
local macro_rules | `(tactic| walk_at "exec For Tuple Call") => `(tactic| (k_here; refine Hold.mk ?_))
local macro_rules | `(tactic| walk_at "exec While Compare cons nil") => `(tactic| (k_here; refine Hold.mk ?_))
local macro_rules | `(tactic| walk_at "exec While BoolOp cons nil") => `(tactic| (k_here; refine Hold.mk ?_))
local macro_rules | `(tactic| walk_at "exec While Compare") => `(tactic| (k_here; refine Hold.mk ?_))
local macro_rules | `(tactic| walk_at "exec While BoolOp") => `(tactic| (k_here; refine Hold.mk ?_))
local macro_rules | `(tactic| k_inst) => `(tactic| (first | (refine' instBase ?F ?h1 ?h2; (case F => k_asm); (case h1 => assumption); (case h2 => assumption)) | (refine' instBL ?F ?N ?h1 ?h2; (case F => k_asm); (case N => k_asm); (case h1 => assumption); (case h2 => k_mem))))
local macro_rules | `(tactic| walk_at "wpAt") => `(tactic| (dsimp only; ks_step "execs cons"; refine ks_wpAt_execs_cons ?_))
local macro_rules | `(tactic| walk_at "wpAt") => `(tactic| (ks_step "execs cons"; refine ks_wpAt_execs_cons ?_))
local macro_rules | `(tactic| walk_at "wpAt") => `(tactic| (ks_step "exec Expr"; with_unfolding_all refine ks_wpAt_Expr_any ?_))
local macro_rules | `(tactic| walk_at "wpAt") => `(tactic| (ks_step "exec If"; with_unfolding_all refine ks_wpAt_If ?_))
local macro_rules | `(tactic| walk_at "wpAt") => `(tactic| (ks_step "eval Call"; with_unfolding_all refine ks_wpAt_MethodCall ?_))
local macro_rules | `(tactic| walk_at "wpAt") => `(tactic| (ks_step "attributeBase Call"; k_here; k_dflt (with_unfolding_all refine ksN (by k_asm) (by k_asm) (by k_asm) (by k_asm) (by k_is) (by rfl) (by rfl) (by k_inst) (by k_is) (by rfl) (ProgOk.file (by assumption)) (by k_is) (by k_is) (by k_is) (by k_is) (by decide) (by rfl) (by rfl) (by rfl) (by rfl) (ProgOk.sup (by assumption)) (by first | boot_by_name | rfl | kernel_rfl) ?_; intro so' h' F' N' l1; (try k_lt l1))))
local macro_rules | `(tactic| walk_at "call ref") => `(tactic| (k_here; k_dflt (with_reducible show wpAny _ _ (call (Value.ref _) [_] []) _ _ _); refine Hold.mk ?_))
local macro_rules | `(tactic| walk_at "call type:list") => `(tactic| (k_here; (with_reducible show wpAny _ _ (call (Value.type "list") [Value.ref _] []) _ _ _); refine Hold.mk ?_))
local macro_rules | `(tactic| walk_at "call ref") => `(tactic| (k_here; (first | (with_reducible show wpAny _ _ (call (Value.ref 412) _ _) _ _ _) | (with_reducible show wpAny _ _ (call (Value.ref 561) _ _) _ _ _)); refine Hold.mk ?_))
set_option maxRecDepth 100000
set_option maxHeartbeats 4000000
variable {prog : Program} {w : World} {A : Around} {s : Shared} {p : Program} {loose : List Str} {mg mb : Str → Option Value} {Q E : Value → Shared → Prop}
theorem units_under_kw (A : Around) (C : Addr) (vals : List Value) (kw : List (Str × Value)) : (A.under (.builtin "type.__call__" ⟨.ref C :: vals, kw⟩)).units = A.units + 1 := rfl
/-- new facts: they lie in the heap, and were not before -/
def Fresh (g h : Heap) (fs : List (Addr × Obj)) : Prop := ∀ p ∈ fs, h.get? p.1 = some p.2 ∧ g.get? p.1 = none
theorem Facts.sub_more (S : Facts) (fs : List (Addr × Obj)) : S.sub (S.more fs) := fun _ _ h => .inl h
theorem Bears.exs {P : Params} {S : Facts} : ∀ {qs : List (Value × Ex)}, Bears P S qs → IsExs P S (qs.map (·.1)) (qs.map (·.2))
  | [], _ => .nil
  | q :: r, h => .cons (h q (.head _)) (Bears.exs fun z hz => h z (.tail _ hz))
theorem Bears.mono {P : Params} {S S' : Facts} {qs : List (Value × Ex)} (h : Bears P S qs) (hs : S.sub S') : Bears P S' qs := fun q hq => (h q hq).mono hs
theorem opCall_c {S : Facts} {ka N : Nat} {k : Bool} {ps : List (Value × Ex)} {kw : List (Str × Value)} (P : ProgOk prog) (X : (Mine.frag.heap_1 w.params).In s.heap) (T : TopRead p loose mg mb s.heap)
    (hS : S.In s.heap) (hk : IsKind w.params S ka k) (hkw : kw = [] ∨ kw = [(("variable_name" : Str), Value.none)]) (hb : Bears w.params S ps) (hn : ps.length ≤ 8) (h2 : 2 ≤ ps.length) (hfl : (flat k (ps.map (·.2))).length ≤ 1000) (hf2 : 2 ≤ (flat k (ps.map (·.2))).length) (hht : ∀ q ∈ ps, q.2.ht < N)
    (hh : A.handled = none) (hdp : A.depth + 3 * N + 20 < recursionLimit) (hu : A.units + 20 * N + 100 < cLine)
    (hQ : ∀ v h' tk (es : List Ex) fs, s.heap.StaysIn h' → es.Perm (flat k (ps.map (·.2))) → Sorted es → Fresh s.heap h' fs → IsEx w.params (S.more fs) v (.op k es) → Q v { s with heap := h', toks := tk }) :
    wpAny (model prog w) A (call (.ref ka) (ps.map (·.1)) kw) Q E s := by
  have hk' := hk
  cases hk with | mk k1 k2 k3 k4 =>
  have k1s := k1
  have k2s := k2
  have k1 := hS _ _ k1s
  have k2 := hS _ _ k2s
  refine useCall (kco_code (C := 415) (f := 405) X (instAt k1 k2) rfl (by k_is) (by k_is) (by k_is) ?_)
  dsimp only
  have hlen : (ps.map (·.1)).length = ps.length := by simp
  generalize hvs : ps.map (·.1) = vs at *
  refine enterR (o := tupOf vs) (binds := fun D => [("cls", .ref ka), ("variable_name", .none), ("operands", .ref D)]) X T.nolimit (by omega) (by k_is) (by k_is) ?_ (fun _ => locs rfl) ?_
  · rcases hkw with rfl | rfl <;> rcases vs with _ | ⟨a, _ | ⟨b, _ | ⟨c, _ | ⟨d, _ | ⟨e, _ | ⟨f, _ | ⟨g, _ | ⟨h, _ | ⟨i, z⟩⟩⟩⟩⟩⟩⟩⟩⟩ <;> first | rfl | (exfalso; simp only [List.length_nil, List.length_cons] at hlen; omega)
  intro D L h₁ h₀ st hD0 hD F N₁
  have X₀ := X.keeps st
  have T₀ := T.keeps st
  have k1' := st _ _ k1
  have k2' := st _ _ k2
  k_steps
  rename Fr _ _ _ _ => F'
  rename News _ _ _ _ => N'
  refine Hold.intro (call_list_seq D (.inr rfl) (F'.keep _ _ hD) rfl rfl ?_ (by rw [List.size_toArray, sizeLine_eq]; omega))
  intro h₂ c₂ st₂ hr₂
  obtain ⟨F₂, N₂, _⟩ := newsAdd F' N' st₂ (Heap.get?_none_of_le (Nat.le_refl _)) hr₂

  k_steps
  rename Fr _ _ _ _ => F₃
  rename News _ _ _ _ => N₃
  have hr₃ := N₃ _ (.head _)
  refine Hold.intro (simplify_c (g := h₀) (S := S) (N := N) (ps := ps) (k := k) X₀ T₀ F₃.keep hr₃.2.2 (fun a o h => F₃.keep a o (st a o (hS a o h))) (fun o h => by have h : h₀.get? h₁.objs.size = some o := st _ _ (hS _ _ h); rw [show h₀.get? h₁.objs.size = none from hr₃.2.2] at h; cases h) hk' (by rw [hvs]; exact hr₃.1) hb (by omega) hfl hht hh (by simp only [depth_deeper]; omega) (by simp only [units_deeper]; omega) ?_)
  intro h₄ tk₄ qs n₄ st₄ hr₄ hb₄ hp₄ hs₄
  obtain ⟨F₄, N₄⟩ := chgBack (own := []) (rest := []) F₃ N₃ (fun _ h => by cases h) (fun _ h => by cases h) st₄ hr₄
  simp only [List.nil_append] at N₄
  k_steps
  rename Fr _ _ _ _ => F₅
  rename News _ _ _ _ => N₅
  have hr₅ := N₅ _ (.head _)
  refine Hold.intro (makeC (fI := 436) (X₀.keeps F₅.keep) (by k_is) (by k_is) (by k_is) ?_)
  intro x d h₆ st₆ hd0 hx0 hxd hx hd'
  have low : h₀.StaysIn (less h₆ d) := fun b o e => less_stays st₆ hd0 b o (F₅.keep b o e)
  have hql : qs.length = (flat k (ps.map (·.2))).length := by rw [← hp₄.length_eq]; simp
  refine opInit_c (k := k) (ps := qs) (n := n₄) P (X₀.keeps F₅.keep) (T₀.keeps F₅.keep) st₆ hd0 hx hxd hd' (hk'.mono fun a o h => low a o (st a o (hS a o h))) (less_stays st₆ hd0 _ _ hr₅.1) (hb₄.mono fun a o h => low a o (st a o (hS a o h))) (by omega) (by omega) hh (by simp only [depth_under_kw, depth_deeper]; omega) (by rw [units_under_kw]; simp only [units_deeper]; omega) ?_
  intro ar t1 t2 t3 t4 t5 t6 t7 t8 t9 h₇ tk₇ st₇ hd₇
  refine ⟨rfl, ?_⟩
  have st₈ : ∀ b o, _ → h₇.get? b = some o := fun b o e => st₇ b o (less_stays st₆ hd0 b o e)
  have F₆ := frStay F₅ st₈
  have N₆ := newsStay N₅ st₈
  have keep5 := F₅.keep
  clear F₅ N₅
  k_steps
  have none5 : ∀ b, (∀ o, s.heap.get? b = some o → h₀.get? b = some o) → h₀.get? b = none → s.heap.get? b = none := fun b hs hn => by
    cases q : s.heap.get? b with
    | none => rfl
    | some o => rw [hs o q] at hn; cases hn
  have noneX : ∀ {b : Addr} {hh : Heap}, h₀.StaysIn hh → hh.get? b = none → s.heap.get? b = none := fun {b hh} k e => by
    cases q : s.heap.get? b with
    | none => rfl
    | some o => rw [k _ _ (st _ _ q)] at e; cases e
  refine hQ _ _ _ (qs.map (·.2)) [(x, instObj 561 d), (d, dictOf [en w.params "variable_name" t1 .none, en w.params "head" t2 (.ref ka), en w.params "name" t3 (.str (kdName k) t4), en w.params "arity" t5 (.ref ar), en w.params "associative" t6 (.bool true), en w.params "commutative" t7 (.bool true), en w.params "one_identity" t8 (.bool false), en w.params "operands" t9 (.ref h₁.objs.size)] 8), (h₁.objs.size, listOf (qs.map (·.1)).toArray n₄)] (fun b o e => F₆.keep b o (st b o e)) hp₄ hs₄ ?_ ?_
  · intro p hp
    simp only [List.mem_cons, List.not_mem_nil, or_false] at hp
    rcases hp with rfl | rfl | rfl
    · exact ⟨st₇ _ _ (less_get hx hxd), noneX keep5 hx0⟩
    · exact ⟨hd₇, noneX keep5 hd0⟩
    · exact ⟨st₈ _ _ hr₅.1, none5 _ (fun o q => st _ _ q) hr₅.2.2⟩
  · exact .op (.inr (.head _)) (.inr (.tail _ (.head _))) (.inr (.tail _ (.tail _ (.head _)))) (by simp; omega) (hk'.mono (S.sub_more _)) ((hb₄.mono (S.sub_more _)).exs)
end Mine
namespace Mine
open PySem PySem.W PySem.Calls PyProof.Rows
/-- the code of «==» of operations and its table -/
def Tb (h : Heap) : Prop := ∃ ps, h.IsCode 478 474 ps ∧ h.TableAt 478 474 ps
theorem Tb.at {h h' : Heap} (t : Tb h) (h1 : ∀ o, h.get? 478 = some o → h'.get? 478 = some o) (h2 : ∀ o, h.get? 474 = some o → h'.get? 474 = some o) : Tb h' := by
  obtain ⟨ps, ⟨o, vs, file, tf, flags, tg, inF, text, tt, op, a, r1, r2, r3, r4, r5, r6, b, r⟩, ⟨⟨o', vs', a', r'⟩, b'⟩⟩ := t
  exact ⟨ps, ⟨o, vs, file, tf, flags, tg, inF, text, tt, op, h1 _ a, r1, r2, r3, r4, r5, r6, h2 _ b, r⟩, ⟨⟨o', vs', h1 _ a', r'⟩, h2 _ b'⟩⟩
theorem Tb.keeps {h h' : Heap} (t : Tb h) (k : h.StaysIn h') : Tb h' := t.at (fun _ e => k _ _ e) fun _ e => k _ _ e
def Bare (a : Array GenState) : Prop := ∀ x ∈ a, x.bare = true
/-- generators have come besides -/
def GK (a b : Array GenState) : Prop := a.size ≤ b.size ∧ (∀ k, k < a.size → b[k]? = a[k]?) ∧ (Bare a → Bare b)
/-- and one has gone on -/
def GO (g : Nat) (a b : Array GenState) : Prop := a.size ≤ b.size ∧ (∀ k, k < a.size → k ≠ g → b[k]? = a[k]?) ∧ (Bare a → Bare b)
theorem GK.refl (a : Array GenState) : GK a a := ⟨Nat.le_refl _, fun _ _ => rfl, id⟩
theorem GK.trans {a b c : Array GenState} (x : GK a b) (y : GK b c) : GK a c := ⟨Nat.le_trans x.1 y.1, fun k h => (y.2.1 k (Nat.lt_of_lt_of_le h x.1)).trans (x.2.1 k h), fun h => y.2.2 (x.2.2 h)⟩
theorem GO.refl (g : Nat) (a : Array GenState) : GO g a a := ⟨Nat.le_refl _, fun _ _ _ => rfl, id⟩
theorem GO.trans {g : Nat} {a b c : Array GenState} (x : GO g a b) (y : GO g b c) : GO g a c := ⟨Nat.le_trans x.1 y.1, fun k h n => (y.2.1 k (Nat.lt_of_lt_of_le h x.1) n).trans (x.2.1 k h n), fun h => y.2.2 (x.2.2 h)⟩
theorem GO.of {g : Nat} {a b : Array GenState} (x : GK a b) : GO g a b := ⟨x.1, fun k h _ => x.2.1 k h, x.2.2⟩
theorem bare_set {a : Array GenState} {g : Nat} {x : GenState} (h : Bare a) (hx : x.bare = true) : Bare (a.setIfInBounds g x) := by
  intro y hy
  obtain ⟨i, hi, rfl⟩ := Array.mem_iff_getElem.mp hy
  have hi' : i < a.size := by simpa using hi
  rw [Array.getElem_setIfInBounds hi']
  split
  · exact hx
  · exact h _ (Array.getElem_mem hi')
theorem GO.set {a : Array GenState} {g : Nat} {x : GenState} (hx : x.bare = true) : GO g a (a.setIfInBounds g x) :=
  ⟨by simp, fun k _ hk => by simp [Ne.symm hk], fun h => bare_set h hx⟩
theorem GK.push {a : Array GenState} {x : GenState} (hx : x.bare = true) : GK a (a.push x) := by
  refine ⟨by simp, fun k hk => by rw [Array.getElem?_push]; simp [Nat.ne_of_lt hk], fun h y hy => ?_⟩
  rcases Array.mem_push.mp hy with hy | rfl
  · exact h y hy
  · exact hx
/-- only a generator of its own has gone on -/
theorem GO.new {g : Nat} {a b c : Array GenState} (x : GK a b) (hg : a.size ≤ g) (y : GO g b c) : GK a c :=
  ⟨Nat.le_trans x.1 y.1, fun k h => (y.2.1 k (Nat.lt_of_lt_of_le h x.1) (by omega)).trans (x.2.1 k h), fun h => y.2.2 (x.2.2 h)⟩

/-- what has come to pass since -/
def Since (C : Addr) (wr : List Addr) (s₀ s : Shared) : Prop :=
  ∃ h' tk g', s = { s₀ with heap := h', toks := tk, gens := g' } ∧ (∀ b o, b ≠ C → b ∉ wr → s₀.heap.get? b = some o → h'.get? b = some o) ∧ GK s₀.gens g'
theorem Since.refl (C : Addr) (wr : List Addr) (s : Shared) : Since C wr s s := ⟨s.heap, s.toks, s.gens, rfl, fun _ _ _ _ e => e, GK.refl _⟩
theorem Since.step {C : Addr} {wr : List Addr} {s₀ s : Shared} (x : Since C wr s₀ s) {h' : Heap} {tk : Nat} {g' : Array GenState} (hk : ∀ b o, b ≠ C → b ∉ wr → s.heap.get? b = some o → h'.get? b = some o) (hg : GK s.gens g') :
    Since C wr s₀ { s with heap := h', toks := tk, gens := g' } := by
  obtain ⟨h₁, tk₁, g₁, rfl, hk₁, q⟩ := x
  exact ⟨h', tk, g', rfl, fun b o hC hw e => hk b o hC hw (hk₁ b o hC hw e), q.trans hg⟩
def protoE (C : Addr) (fp wr : List Addr) (n₀ : Nat) (tr : Nat → Bool) : Protocol := fun m s₀ v s kap =>
  v = .bool (tr (n₀ - 1 - m)) ∧ Since C wr s₀ s ∧ ∀ s'' : Shared, (∀ b ∈ C :: fp, ∀ o, s.heap.get? b = some o → s''.heap.get? b = some o) → kap (.send .none) s''
def endE (C : Addr) (wr : List Addr) : GenEnd := fun n s₀ r s₁ => r = .ok .next ∧ (n = 0 ∧ Since C wr s₀ s₁)
/-- what an element of the row of comparisons leaves -/
def EltPost (tr : Nat → Bool) (i : Nat) (s₂ : Shared) (y : Value) (s₃ : Shared) : Prop :=
  y = .bool (tr i) ∧ ∃ h' tk g', s₃ = { s₂ with heap := h', toks := tk, gens := g' } ∧ s₂.heap.StaysIn h' ∧ GK s₂.gens g'
section
variable {prog : Program} {w : World} {A : Around}
theorem segE {elt iter : Expr} {xa xb : Str} {pa pb pt : Pos} {kt : Nat} {scope : Scope} {pos : Pos} {I : Addr} {fp fpz wr : List Addr} {n₀ : Nat} {Pt : Nat → Array Value → Prop} {St₀ : Nat → Heap → Prop} {Mid : Nat → Addr → Heap → Prop} {cenv : Env} {g₀ : Heap} {tr : Nat → Bool}
    (hh : A.handled = none) (W₀ : ∀ A' : Around, A'.handled = none → WalksU prog w A' I fpz wr n₀ Pt St₀ Mid) (hsz : ∀ i vals, Pt i vals → ∃ va vb, vals = #[va, vb]) (hab : xa ≠ xb)
    (hxa : cenv.kindOf xa = some .local) (hxb : cenv.kindOf xb = some .local) (hp : (cenv.scope.kind == .class || (cenv.scope.kind == .module && cenv.locals != cenv.globals)) = false)
    (hco : cenv.scope.isCoroutine = false) (hCz : cenv.locals ∉ fpz) (hzf : ∀ b ∈ fpz, b ∈ fp)
    (hg₀ : ∀ b o, g₀.get? b = some o → b ∈ fp ∧ b ∉ wr ∧ b ≠ cenv.locals)
    (hel : ∀ E' i va vb (s₂ : Shared) m₂, Pt i #[va, vb] → s₂.heap.Ns cenv.locals m₂ → m₂ xa = some va → m₂ xb = some vb → g₀.StaysIn s₂.heap →
      wpAny (model prog w) (A.over (.compLoop (.GeneratorExp elt [⟨.Tuple [.Name xa pa, .Name xb pb] kt pt, iter, [], 0⟩] scope pos) 0 (.ref I) .none cenv) []) (eval elt cenv) (EltPost tr i s₂) E' s₂) :
    ∀ (k i : Nat) (s₀ s : Shared) (m : Str → Option Value), n₀ - i = k → i ≤ n₀ → St₀ i s.heap → s.heap.Ns cenv.locals m → Since cenv.locals wr s₀ s → g₀.StaysIn s.heap →
      Seg (model prog w) A (endE cenv.locals wr) (protoE cenv.locals fp wr n₀ tr) k s₀
        (.compLoop (.GeneratorExp elt [⟨.Tuple [.Name xa pa, .Name xb pb] kt pt, iter, [], 0⟩] scope pos) 0 (.ref I) .none cenv)
        ((model prog w).den (.compLoop (.GeneratorExp elt [⟨.Tuple [.Name xa pa, .Name xb pb] kt pt, iter, [], 0⟩] scope pos) 0 (.ref I) .none cenv)) [] s := by
  have hh' : (A.over (.compLoop (.GeneratorExp elt [⟨.Tuple [.Name xa pa, .Name xb pb] kt pt, iter, [], 0⟩] scope pos) 0 (.ref I) .none cenv) []).handled = none := hh
  have hwz := (W₀ A hh).sub
  have hCw : cenv.locals ∉ wr := fun h => hCz (hwz _ h)
  intro k
  induction k with
  | zero =>
    intro i s₀ s m hk hi hst hn hsince hgs
    have hin : i = n₀ := by omega
    subst hin
    show Seg _ A _ _ _ s₀ _ ((compTurn (.GeneratorExp elt [⟨.Tuple [.Name xa pa, .Name xb pb] kt pt, iter, [], 0⟩] scope pos) 0 (.ref I) .none cenv).onRaise (leaving cenv)) [] s
    rw [compTurn_gen, Sem.onRaise_eq_wrap]
    refine seg_bind_wrap (wpAny_standAt ?_)
    refine seg_bind_wrap ((W₀ _ hh').done s _ _ hst fun h' tk hk' => ?_)
    exact seg_end (.ok .next) ⟨rfl, rfl, hsince.step (fun b o _ hw e => hk' b o hw e) (GK.refl _)⟩
  | succ k ih =>
    intro i s₀ s m hk hi hst hn hsince hgs
    have hlt : i < n₀ := by omega
    show Seg _ A _ _ _ s₀ _ ((compTurn (.GeneratorExp elt [⟨.Tuple [.Name xa pa, .Name xb pb] kt pt, iter, [], 0⟩] scope pos) 0 (.ref I) .none cenv).onRaise (leaving cenv)) [] s
    rw [compTurn_gen, Sem.onRaise_eq_wrap]
    refine seg_bind_wrap (wpAny_standAt ?_)
    refine seg_bind_wrap ((W₀ _ hh').item i s _ _ hlt hst fun T vals h₁ tk₁ hPv hT₁ hmid hk₁ => ?_)
    obtain ⟨va, vb, rfl⟩ := hsz i vals hPv
    refine seg_bind_wrap ((W₀ _ hh').go _ _ _ i T _ _ _ hmid fun h₂ hst₁ hk₂ => ?_)
    have hT₂ : h₂.IsTuple T #[va, vb] := let ⟨o, e, r⟩ := hT₁; ⟨o, hk₂ _ o ((W₀ _ hh').apart i T _ hmid) e, r⟩
    refine seg_bind_wrap (wpAny_assign_Tuple hh' hT₂ rfl rfl fun h₃ hx₃ => ?_)
    replace hx₃ : Heap.ExtBut h₂.objs.size h₂ h₃ := hx₃
    have old₃ : ∀ b o, h₂.get? b = some o → h₃.get? b = some o := fun b o e => hx₃ b o (Nat.ne_of_lt (Heap.lt_size e)) e
    show wpAny _ _ (do holding [vb] (assign (.Name xa pa) cenv va); do holding [] (assign (.Name xb pb) cenv vb); pure ()) _ _ _
    refine wpAny_bind (wpAny_holding (wpAny_assign_Name (wpAny_storeName_local hxa (hn.at' fun o e => old₃ _ o (hk₂ _ o hCw (hk₁ _ o hCw e))) (fun h₄ hn₄ hs₄ => ?_) hp)))
    replace hs₄ : Heap.SameBut cenv.locals h₃ h₄ := hs₄
    refine wpAny_bind (wpAny_holding (wpAny_assign_Name (wpAny_storeName_local hxb hn₄ (fun h₅ hn₅ hs₅ => wpAny_pure ?_) hp)))
    replace hs₅ : Heap.SameBut cenv.locals h₄ h₅ := hs₅
    have st₃ : ∀ b o, b ≠ cenv.locals → h₂.get? b = some o → h₅.get? b = some o := fun b o hbC e => hs₅.extBut b o hbC (hs₄.extBut b o hbC (old₃ b o e))
    have up₅ : ∀ b o, b ≠ cenv.locals → b ∉ wr → s.heap.get? b = some o → h₅.get? b = some o := fun b o hbC hbw e => st₃ b o hbC (hk₂ b o hbw (hk₁ b o hbw e))
    have hst₅ : St₀ (i + 1) h₅ := (W₀ A hh).frame _ _ _ hst₁ fun b hb o e => st₃ b o (fun h => hCz (h ▸ hb)) e
    have hgs₅ : g₀.StaysIn h₅ := fun b o e => by obtain ⟨_, q1, q2⟩ := hg₀ b o e; exact up₅ b o q2 q1 (hgs b o e)
    refine seg_bind_wrap (wpAny_pure ?_)
    simp only [if_true]
    have hy : ∀ v, yieldOut cenv v = yieldValue v := fun v => by simp only [yieldOut, hco, Bool.false_eq_true, if_false]
    simp only [hy]
    rw [Sem.bind_eq_wrap', Sem.bind_eq_wrap', Sem.wrap_wrap, Sem.wrap_wrap]
    refine seg_wrap (wpAny_mono (hel _ i va vb _ _ hPv hn₅ (by simp [hab]) (by simp) hgs₅) (fun y s₆ h₆ => ?_) fun _ _ e => e)
    obtain ⟨rfl, h₆, tk₆, g₆, rfl, k₆, hgk⟩ := h₆
    have hidx : n₀ - 1 - k = i := by omega
    refine seg_at (seg_yield rfl rfl rfl ⟨by rw [hidx], hsince.step (fun b o hbC hbw e => k₆ b o (up₅ b o hbC hbw e)) hgk, fun s'' hal => ?_⟩)
    refine seg_again rfl (ih (i + 1) s'' s'' _ (by omega) hlt ((W₀ A hh).frame _ _ _ hst₅ fun b hb o e => hal b (List.mem_cons_of_mem _ (hzf b hb)) o (k₆ b o e))
      (hn₅.at' fun o e => hal _ (List.mem_cons_self ..) o (k₆ _ o e)) (Since.refl _ _ _) (fun b o e => ?_))
    exact hal b (List.mem_cons_of_mem _ (hg₀ b o e).1) o (k₆ b o (hgs₅ b o e))

theorem segStartE {elt iter : Expr} {xa xb : Str} {pa pb pt : Pos} {kt : Nat} {scope : Scope} {pos : Pos} {I : Addr} {fp fpz wr : List Addr} {n₀ : Nat} {Pt : Nat → Array Value → Prop} {St₀ : Nat → Heap → Prop} {Mid : Nat → Addr → Heap → Prop} {cenv : Env} {g₀ : Heap} {tr : Nat → Bool}
    (hh : A.handled = none) (W₀ : ∀ A' : Around, A'.handled = none → WalksU prog w A' I fpz wr n₀ Pt St₀ Mid) (hsz : ∀ i vals, Pt i vals → ∃ va vb, vals = #[va, vb]) (hab : xa ≠ xb)
    (hxa : cenv.kindOf xa = some .local) (hxb : cenv.kindOf xb = some .local) (hp : (cenv.scope.kind == .class || (cenv.scope.kind == .module && cenv.locals != cenv.globals)) = false)
    (hco : cenv.scope.isCoroutine = false) (hCz : cenv.locals ∉ fpz) (hzf : ∀ b ∈ fpz, b ∈ fp)
    (hg₀ : ∀ b o, g₀.get? b = some o → b ∈ fp ∧ b ∉ wr ∧ b ≠ cenv.locals)
    (hel : ∀ E' i va vb (s₂ : Shared) m₂, Pt i #[va, vb] → s₂.heap.Ns cenv.locals m₂ → m₂ xa = some va → m₂ xb = some vb → g₀.StaysIn s₂.heap →
      wpAny (model prog w) (A.over (.compLoop (.GeneratorExp elt [⟨.Tuple [.Name xa pa, .Name xb pb] kt pt, iter, [], 0⟩] scope pos) 0 (.ref I) .none cenv) []) (eval elt cenv) (EltPost tr i s₂) E' s₂)
    (s : Shared) (m : Str → Option Value) (hst : St₀ 0 s.heap) (hn : s.heap.Ns cenv.locals m) (hgs : g₀.StaysIn s.heap) :
    Seg (model prog w) A (endE cenv.locals wr) (protoE cenv.locals fp wr n₀ tr) n₀ s
      (.compStart (.GeneratorExp elt [⟨.Tuple [.Name xa pa, .Name xb pb] kt pt, iter, [], 0⟩] scope pos) 0 (.ref I) .none cenv)
      ((model prog w).den (.compStart (.GeneratorExp elt [⟨.Tuple [.Name xa pa, .Name xb pb] kt pt, iter, [], 0⟩] scope pos) 0 (.ref I) .none cenv)) [] s := by
  have hh' : (A.over (.compStart (.GeneratorExp elt [⟨.Tuple [.Name xa pa, .Name xb pb] kt pt, iter, [], 0⟩] scope pos) 0 (.ref I) .none cenv) []).handled = none := hh
  have loop := segE hh W₀ hsz hab hxa hxb hp hco hCz hzf hg₀ hel n₀ 0 s s m (Nat.sub_zero _) (Nat.zero_le _) hst hn (Since.refl _ _ _) hgs
  show Seg _ A _ _ _ s _ ((compStart (.GeneratorExp elt [⟨.Tuple [.Name xa pa, .Name xb pb] kt pt, iter, [], 0⟩] scope pos) 0 (.ref I) .none cenv).onRaise (leaving cenv)) [] s
  unfold compStart
  rw [Sem.onRaise_eq_wrap]
  show Seg _ A _ _ _ s _ ((ask >>= _).wrap _ _ _ _) [] s
  refine seg_bind_wrap (wpAny_askSetting ?_)
  split
  · exact seg_again rfl loop
  · refine seg_bind_wrap (wpAny_rule ?_)
    show Seg _ A _ _ _ s _ ((standAt iter.pos >>= _).wrap _ _ _ _) [] s
    exact seg_bind_wrap (wpAny_standAt (seg_bind_wrap ((W₀ _ hh').self 0 s _ _ hst (seg_again rfl loop))))

/-- the generator stands before its item j -/
def GenE (prog : Program) (w : World) (A : Around) (a : Addr) (g : Nat) (C : Addr) (fp wr : List Addr) (n₀ : Nat) (tr : Nat → Bool) (j : Nat) (s : Shared) : Prop :=
  s.heap.IsGen a g ∧ s.heap.NoLimit ∧ ∃ gs, s.gens[g]? = some gs ∧ ∀ s'' : Shared, (∀ b ∈ C :: fp, ∀ o, s.heap.get? b = some o → s''.heap.get? b = some o) →
    gs.Goes (model prog w) A.in1 (endE C wr) (protoE C fp wr n₀ tr) (n₀ - j) (.send .none) s''

theorem walksE (hh : A.handled = none) (a : Addr) (g : Nat) (C : Addr) (fp wr : List Addr) (n₀ : Nat) (tr : Nat → Bool) (haC : a ≠ C) (haf : a ∉ fp) (hsub : ∀ b ∈ wr, b ∈ fp)
    (hroom : A.depth < recursionLimit) (hcs : cStatics ∈ fp) (hcC : cStatics ≠ C) (hcw : cStatics ∉ wr) :
    WalksS prog w A a (a :: C :: fp) (C :: wr) (GO g) n₀ (fun j y => y = .bool (tr j)) (GenE prog w A a g C fp wr n₀ tr) where
  sub := fun b hb => by
    rcases List.mem_cons.mp hb with rfl | hb
    · simp
    · exact List.mem_cons_of_mem _ (List.mem_cons_of_mem _ (hsub b hb))
  grefl := GO.refl g
  gtrans := fun _ _ _ x y => x.trans y
  frame := fun j s h' tk st _ hk =>
    ⟨let ⟨o, nm, qn, ho, r⟩ := st.1; ⟨o, nm, qn, hk a (List.mem_cons_self ..) o ho, r⟩,
     (let ⟨mc, hns, hnn⟩ := st.2.1; ⟨mc, hns.at' fun o e => hk cStatics (List.mem_cons_of_mem _ (List.mem_cons_of_mem _ hcs)) o e, hnn⟩),
     let ⟨gs, hgs, hgo⟩ := st.2.2; ⟨gs, hgs, fun s'' hal => hgo s'' fun b hb o e => hal b hb o (hk b (List.mem_cons_of_mem _ hb) o e)⟩⟩
  item := fun j s Q E hj st hQ => by
    obtain ⟨hg, hl, gs, hgs, hgo⟩ := st
    obtain ⟨m, hm⟩ : ∃ m, n₀ - j = m + 1 := ⟨n₀ - j - 1, by omega⟩
    rw [hm] at hgo
    have hgl : g < s.gens.size := (Array.getElem?_eq_some_iff.mp hgs).1
    refine wpAny_with_toks (Nat.le_refl s.toks) ?_
    refine wpAny_pyNext_genexpQ (P := fun n s₀ s₁ => n = 0 ∧ Since C wr s₀ s₁) hh hl hroom hg hgs (hgo _ fun _ _ _ e => e) (fun v s₁ gs' hb hv => ?_) (fun s₁ hp h' hk => ?_)
    · obtain ⟨rfl, ⟨h₁, tk₁, g₁, rfl, hk₁, hgk⟩, hkap⟩ := hv
      have hidx : n₀ - 1 - (m + 1 - 1) = j := by omega
      have haw : a ∉ wr := fun h => haf (hsub a h)
      have hgl₁ : g < g₁.size := Nat.lt_of_lt_of_le (by simpa [Shared.setGen] using hgl) hgk.1
      intro htk
      refine hQ _ _ (by rw [hidx]) ⟨let ⟨o, nm, qn, ho, r⟩ := hg; ⟨o, nm, qn, hk₁ a o haC haw ho, r⟩, (let ⟨mc, hns, hnn⟩ := hl; ⟨mc, hns.at' fun o e => hk₁ cStatics o hcC hcw e, hnn⟩), gs', by simp [Shared.setGen, hgl₁], fun s'' hal => ?_⟩
        ⟨fun b o hb e => hk₁ b o (fun h => hb (h ▸ List.mem_cons_self ..)) (fun h => hb (List.mem_cons_of_mem _ h)) e, ((GO.set (a := s.gens) (g := g) (x := .running) rfl).trans (GO.of hgk)).trans (GO.set (a := g₁) hb), rfl, rfl, htk⟩
      have e : n₀ - (j + 1) = m := by omega
      rw [e]
      exact hkap s'' hal
    · exact absurd hp.1 (Nat.succ_ne_zero m)
  done := fun s Q E st hQ => by
    obtain ⟨hg, hl, gs, hgs, hgo⟩ := st
    rw [Nat.sub_self] at hgo
    refine wpAny_with_toks (Nat.le_refl s.toks) ?_
    refine wpAny_pyNext_genexpQ (P := fun n s₀ s₁ => n = 0 ∧ Since C wr s₀ s₁) hh hl hroom hg hgs (hgo _ fun _ _ _ e => e) (fun v s₁ gs' hb hv => ?_) (fun s₁ hp h' hk => ?_)
    · obtain ⟨_, _, hkap⟩ := hv
      exact False.elim (hkap s₁ fun _ _ _ e => e)
    · obtain ⟨_, h₁, tk₁, g₁, rfl, hk₁, hgk⟩ := hp
      intro htk
      exact hQ _ ⟨fun b o hb e => hk b o (hk₁ b o (fun h => hb (h ▸ List.mem_cons_self ..)) (fun h => hb (List.mem_cons_of_mem _ h)) e), ((GO.set (a := s.gens) (g := g) (x := .running) rfl).trans (GO.of hgk)).trans (GO.set (a := g₁) rfl), rfl, rfl, htk⟩
  self := fun _ _ _ _ st hQ => wpAny_pyIter_gen st.1 hQ
end
end Mine
namespace Mine
open PySem PySem.W PySem.Calls PyProof.Rows
abbrev gpos : Pos := ⟨426, 65, 426, 120⟩
/-- the code of the row of comparisons is made -/
def Hot (h : Heap) : Prop := ∃ ps c, h.IsCode 478 474 ps ∧ h.TableAt 478 474 ps ∧ codeAmong gpos ps.toList = some c
theorem Hot.tb {h : Heap} (t : Hot h) : Tb h := let ⟨ps, _, a, b, _⟩ := t; ⟨ps, a, b⟩
theorem Hot.at {h h' : Heap} (t : Hot h) (h1 : ∀ o, h.get? 478 = some o → h'.get? 478 = some o) (h2 : ∀ o, h.get? 474 = some o → h'.get? 474 = some o) : Hot h' := by
  obtain ⟨ps, c, ⟨o, vs, file, tf, flags, tg, inF, text, tt, op, a, r1, r2, r3, r4, r5, r6, b, r⟩, ⟨⟨o', vs', a', r'⟩, b'⟩, q⟩ := t
  exact ⟨ps, c, ⟨o, vs, file, tf, flags, tg, inF, text, tt, op, h1 _ a, r1, r2, r3, r4, r5, r6, h2 _ b, r⟩, ⟨⟨o', vs', h1 _ a', r'⟩, h2 _ b'⟩, q⟩
theorem Tb.obj {h : Heap} (t : Tb h) : ∃ ps : Array Value, h.get? 474 = some ({ cls := .none, data := .fields ps } : Obj) := let ⟨ps, _, _, b⟩ := t; ⟨ps, b⟩
/-- the module of the built-in names -/
def Bm (mg : Str → Option Value) (h : Heap) : Prop := ∃ bm ob, mg "__builtins__" = some (.ref bm) ∧ bm ≠ builtinsNs ∧ h.get? bm = some ob ∧ ob.cls = .type "module" ∧ ob.dict = some builtinsNs ∧ ob.data = .plain
theorem Bm.keeps {mg : Str → Option Value} {h h' : Heap} (b : Bm mg h) (k : h.StaysIn h') : Bm mg h' := let ⟨bm, ob, h1, h2, h3, r⟩ := b; ⟨bm, ob, h1, h2, k _ _ h3, r⟩
section
variable {M : Model} {A : Around} {E : Value → Shared → Prop} {s : Shared}
theorem codeTb {env : Env} {qualname : Str} {scope : Scope} {Q : Value → Shared → Prop} (hc : env.code = .ref 478) (t : Tb s.heap)
    (h : ∀ code h' tk, (less s.heap 474).StaysIn h' → Hot h' → (Hot s.heap → s.heap.StaysIn h') → Q code { s with heap := h', toks := tk }) : wpAny M A (genexprCode env gpos qualname scope) Q E s := by
  obtain ⟨ps, t1, t2⟩ := t
  cases hf : codeAmong gpos ps.toList with
  | some c => exact wpAny_genexprCode_hit hc t1 hf (h _ s.heap s.toks (fun b o e => less_of e) ⟨ps, c, t1, t2, hf⟩ fun _ _ _ e => e)
  | none =>
    refine wpAny_genexprCodeX hc t1 t2 hf fun c' h' tk hx _ _ hcode _ htab _ => h _ h' tk (fun b o e => ?_) ⟨_, .ref c', hcode, htab, ?_⟩ fun hot => ?_
    · refine hx b o (fun z => ?_) (less_of e)
      rw [z, less_none] at e; cases e
    · rw [Array.toList_append]
      obtain ⟨o, vs, file, tf, flags, tg, inF, text, tt, op, a, r1, r2, r3, r4, r5, r6, b, r7, r8, r⟩ := t1
      exact codeAmong_snoc _ r8 hf
    · obtain ⟨ps', c, _, ⟨_, b'⟩, q⟩ := hot
      rw [t2.2] at b'
      cases b'
      rw [hf] at q; cases q
end
/-- a zip of two lists of the heap, made and not begun -/
def ZipG (l1 l2 : Addr) (xs ys : Array Value) (s : Shared) (xv : Value) (s₁ : Shared) : Prop :=
  ∃ z TI TO i1 i2 h tk, xv = .ref z ∧ s₁ = { s with heap := h, toks := tk } ∧ ZipApart z TI TO i1 i2 l1 l2 ∧
    (IsZip h z TI TO .none ∧ IsPair h TI (.ref i1) (.ref i2) ∧ (∃ a b, IsPair h TO a b) ∧ h.IsListIter i1 l1 0 ∧ h.IsListIter i2 l2 0 ∧ h.IsList l1 xs ∧ h.IsList l2 ys) ∧
    s.heap.StaysIn h ∧ ∀ b ∈ [z, TI, TO, i1, i2], s.heap.get? b = none
theorem zipG {prog : Program} {w : World} {A : Around} {E : Value → Shared → Prop} {s s₀ : Shared} {l1 l2 : Addr} {xs ys : Array Value} {Q : Value → Shared → Prop} (q1 : s.heap.IsList l1 xs) (q2 : s.heap.IsList l2 ys)
    (hs : ∃ h tk, s = { s₀ with heap := h, toks := tk } ∧ s₀.heap.StaysIn h) (k : ∀ xv s₁, ZipG l1 l2 xs ys s₀ xv s₁ → Q xv s₁) : wpAny (model prog w) A (call (.type "zip") [.ref l1, .ref l2] []) Q E s := by
  obtain ⟨ol1, hol1, _⟩ := id q1
  obtain ⟨ol2, hol2, _⟩ := id q2
  have a1 : l1 < s.heap.objs.size := Heap.lt_size hol1
  have a2 : l2 < s.heap.objs.size := Heap.lt_size hol2
  refine call_zip_2 q1 q2 fun h' hz hTI hTO hi1 hi2 _ hk => k _ _ ?_
  obtain ⟨hh, tk, rfl, st⟩ := hs
  refine ⟨_, _, _, _, _, h', tk, rfl, rfl, zipApart_new a1 a2, ⟨hz, hTI, ⟨_, _, hTO⟩, hi1, hi2, q1.at fun o e => hk l1 o e, q2.at fun o e => hk l2 o e⟩, fun b o e => hk b o (st b o e), ?_⟩
  intro b hb
  cases q : s₀.heap.get? b with
  | none => rfl
  | some o =>
    exfalso
    have := Heap.lt_size (st b o q)
    simp only [List.mem_cons, List.not_mem_nil, or_false] at hb
    rcases hb with rfl | rfl | rfl | rfl | rfl <;> first | exact Nat.lt_irrefl _ this | exact Nat.not_lt.mpr (Nat.le_add_right _ _) this

/-- a generator of n truth values stands ready -/
def GenReady (prog : Program) (w : World) (A : Around) (a : Addr) (n : Nat) (tr : Nat → Bool) (g : Nat) (wr : List Addr) (s : Shared) : Prop :=
  ∃ fp St, WalksS prog w A.in1 a fp wr (GO g) n (fun j y => y = .bool (tr j)) St ∧ St 0 s ∧ s.heap.IsGen a g
theorem allE {prog : Program} {w : World} {A : Around} {E : Value → Shared → Prop} {s : Shared} {a : Addr} {n g : Nat} {tr : Nat → Bool} {wr : List Addr} {Q : Value → Shared → Prop} (R : GenReady prog w A a n tr g wr s)
    (h : ∀ h' tk g', (∀ b o, b ∉ wr → s.heap.get? b = some o → h'.get? b = some o) → GO g s.gens g' → Q (.bool ((List.range n).all tr)) { s with heap := h', toks := tk, gens := g' }) :
    wpAny (model prog w) A (call (.builtin "all") [.ref a] []) Q E s := by
  obtain ⟨fp, St, W, st, hg⟩ := R
  refine call_all_walkS (wpAny_pyIter_gen hg ⟨a, fp, wr, GO g, n, _, St, tr, rfl, W, st, ?_, fun s' m => ?_⟩)
  · rintro i v s' Q' E' rfl hq
    exact wpAny_truthy_bool hq
  · obtain ⟨h', g', d', tk', os'⟩ := s'
    obtain ⟨m1, m2, m3, m4, _⟩ := m
    dsimp only at m1 m2 m3 m4
    subst m3 m4
    exact h h' tk' g' m1 m2

section
variable {prog : Program} {w : World} {A : Around} {E : Value → Shared → Prop} {s : Shared}
theorem genMakeE {env : Env} {elt iter : Expr} {xa xb : Str} {pa pb pt : Pos} {kt : Nat} {scope : Scope} {l1 l2 : Addr} {xs ys : Array Value} {mg : Str → Option Value} {tr : Nat → Bool} {Q : Value → Shared → Prop}
    (hh : A.handled = none) (hco : scope.isCoroutine = false) (hclos : closureFor scope env = pure []) (hcell : ∀ y ∈ scope.names, y.2 ≠ .cell) (h0 : scope.names.lookup (".0" : Str) = some NameKind.local)
    (hxa : scope.names.lookup xa = some .local) (hxb : scope.names.lookup xb = some .local) (hab : xa ≠ xb) (hkind : scope.kind = .function) (hroom : A.depth < recursionLimit) (hcode : env.code = .ref 478)
    (hlim : s.heap.NoLimit) (t : Tb s.heap) (hg : s.heap.Ns env.globals mg) (hbm : Bm mg s.heap) (hgl : env.globals ≠ 474) (hbm4 : ∀ bm, mg "__builtins__" = some (.ref bm) → bm ≠ 474) (hcs : cStatics ≠ 474)
    (hiter : wpAny (model prog w) A (eval iter env) (ZipG l1 l2 xs ys s) E s)
    (hel : ∀ (cenv : Env) (I : Addr) E' i va vb (s₂ : Shared) m₂, cenv.scope = scope → cenv.globals = env.globals → xs[i]? = some va → ys[i]? = some vb → s₂.heap.Ns cenv.locals m₂ → m₂ xa = some va → m₂ xb = some vb → (less s.heap 474).StaysIn s₂.heap → Hot s₂.heap →
      wpAny (model prog w) (A.in4.in1.over (.compLoop (.GeneratorExp elt [⟨.Tuple [.Name xa pa, .Name xb pb] kt pt, iter, [], 0⟩] scope gpos) 0 (.ref I) .none cenv) []) (eval elt cenv) (EltPost tr i s₂) E' s₂)
    (h : ∀ a g wr h' tk g', GenReady prog w A a (min xs.size ys.size) tr g wr { s with heap := h', toks := tk, gens := g' } → (less s.heap 474).StaysIn h' → Hot h' → (Hot s.heap → s.heap.StaysIn h') → GK s.gens g' → s.gens.size ≤ g → (∀ b ∈ wr, s.heap.get? b = none) →
      Q (.ref a) { s with heap := h', toks := tk, gens := g' })
    (hs : ∀ x, genFold iter env x = pure x) : wpAny (model prog w) A (eval (.GeneratorExp elt [⟨.Tuple [.Name xa pa, .Name xb pb] kt pt, iter, [], 0⟩] scope gpos) env) Q E s := by
  refine wpAny_GeneratorExp_make hco hclos hcell h0 hkind hroom (wpAny_mono hiter (fun xv s₁ h₁ => ?_) fun _ _ e => e) hs
  obtain ⟨z, TI, TO, i1, i2, hz, tkz, rfl, rfl, D, hst, stz, hnew⟩ := h₁
  have W₀ : ∀ A' : Around, A'.handled = none → WalksU prog w A' z [z, TI, TO, i1, i2, l1, l2] [z, TO, i1, i2] (min xs.size ys.size) _ _ _ := fun A' hA => (WalksT.zip2 hA z TI TO i1 i2 l1 l2 D xs ys).toU
  have ht4 : ∃ o, s.heap.get? 474 = some o := let ⟨_, e⟩ := t.obj; ⟨_, e⟩
  have no4 : ∀ b ∈ [z, TI, TO, i1, i2], b ≠ 474 := fun b hb e => by
    obtain ⟨o, ho⟩ := ht4
    have := hnew b hb
    rw [e, ho] at this; cases this
  have l4 : ∀ l its, hz.IsList l its → l ≠ 474 := fun l its hl e => by
    obtain ⟨ps, e4⟩ := (t.keeps stz).obj
    obtain ⟨o, ho, hc, _⟩ := hl
    rw [e, e4] at ho; cases ho
    cases hc
  refine (W₀ A hh).self 0 _ _ _ hst ⟨hlim.keeps stz, ?_⟩
  refine codeTb hcode (t.keeps stz) fun code h₂ tk₂ st₂ hot₂ full₂ => ?_
  have keep₂ : ∀ b o, b ≠ 474 → hz.get? b = some o → h₂.get? b = some o := fun b o hb e => st₂ b o (less_get e hb)
  have hst₂ := (W₀ A hh).frame 0 _ h₂ hst fun b hb o e => keep₂ b o (by
    simp only [List.mem_cons, List.not_mem_nil, or_false] at hb
    rcases hb with rfl | rfl | rfl | rfl | rfl | rfl | rfl
    · exact no4 _ (by simp)
    · exact no4 _ (by simp)
    · exact no4 _ (by simp)
    · exact no4 _ (by simp)
    · exact no4 _ (by simp)
    · exact l4 _ _ hst.2.2.2.2.2.1
    · exact l4 _ _ hst.2.2.2.2.2.2) e
  obtain ⟨bm, ob, b1, b2, b3, b4, b5, b6⟩ := hbm
  refine wpAny_builtinsFor (m := mg) (hg.at' fun o e => keep₂ _ _ hgl (stz _ _ e)) b1 b2 (keep₂ _ _ (hbm4 _ b1) (stz _ _ b3)) b4 b5 b6 ?_
  intro h' hn' hs'
  have hsz : h'.objs.size = h₂.objs.size + 1 := by rw [hs'.1, Heap.size_push]
  have keep' : ∀ b o, h₂.get? b = some o → h'.get? b = some o := fun b o e => hs'.extBut b o (Nat.ne_of_lt (Heap.lt_size e)) (Heap.get?_push_of_some _ e)
  generalize hgo : ({ cls := .type "generator", data := .fields #[.int s.gens.size 0, .str "<genexpr>" (tk₂ + 1), .str (env.qual ++ "<genexpr>") (tk₂ + 1 + 1)] } : Obj) = og
  have keep₅ : ∀ b o, h₂.get? b = some o → (h'.push og).get? b = some o := fun b o e => Heap.get?_push_of_some _ (keep' b o e)
  have stS : ∀ b o, b ≠ 474 → s.heap.get? b = some o → (h'.push og).get? b = some o := fun b o hb e => keep₅ b o (keep₂ b o hb (stz b o e))
  have lim₂ : h₂.NoLimit := by
    obtain ⟨mc, hns, hnn⟩ := hlim
    exact ⟨mc, hns.at' fun o e => keep₂ _ _ hcs (stz _ _ e), hnn⟩
  have hclt : cStatics < h₂.objs.size := let ⟨_, hn, _⟩ := lim₂; hn.lt
  have inr : ∀ b o, h₂.get? b = some o → b ∈ List.range h₂.objs.size := fun b o e => List.mem_range.mpr (Heap.lt_size e)
  have hfpz : ∀ b ∈ [z, TI, TO, i1, i2, l1, l2], b ∈ List.range h₂.objs.size := fun b hb => by
    obtain ⟨q1, q2, ⟨a, c, q3⟩, ⟨o4, q4, _⟩, ⟨o5, q5, _⟩, ⟨o6, q6, _⟩, ⟨o7, q7, _⟩⟩ := hst₂
    simp only [List.mem_cons, List.not_mem_nil, or_false] at hb
    rcases hb with rfl | rfl | rfl | rfl | rfl | rfl | rfl
    · exact inr _ _ q1
    · exact inr _ _ q2
    · exact inr _ _ q3
    · exact inr _ _ q4
    · exact inr _ _ q5
    · exact inr _ _ q6
    · exact inr _ _ q7
  have hwr : ∀ b ∈ [z, TO, i1, i2], b ∈ [z, TI, TO, i1, i2] := fun b hb => by
    simp only [List.mem_cons, List.not_mem_nil, or_false] at hb ⊢
    rcases hb with h | h | h | h <;> simp [h]
  have hsub : ∀ b ∈ [z, TO, i1, i2], b ∈ List.range h₂.objs.size := fun b hb => hfpz b ((W₀ A hh).sub b hb)
  have haC : h'.objs.size ≠ h₂.objs.size := by rw [hsz]; exact Nat.succ_ne_self _
  have haf : h'.objs.size ∉ List.range h₂.objs.size := fun hm => by have := List.mem_range.mp hm; omega
  have hcw : cStatics ∉ [z, TO, i1, i2] := fun hm => by
    obtain ⟨_, hns, _⟩ := hlim
    obtain ⟨o, _, _, ho, _⟩ := hns
    have := hnew _ (hwr _ hm)
    rw [ho] at this; cases this
  have hCf : h₂.objs.size ∉ [z, TI, TO, i1, i2, l1, l2] := fun hm => Nat.lt_irrefl _ (List.mem_range.mp (hfpz _ hm))
  have WS := walksE (prog := prog) (w := w) (A := A.in4) hh h'.objs.size s.gens.size h₂.objs.size (List.range h₂.objs.size) [z, TO, i1, i2] (min xs.size ys.size) tr haC haf hsub hroom (List.mem_range.mpr hclt) (Nat.ne_of_lt hclt) hcw
  have hw4 : ∀ b ∈ [z, TO, i1, i2], s.heap.get? b = none := fun b hb => hnew b (hwr b hb)
  have base : (less s.heap 474).StaysIn (hideAll h₂ [z, TO, i1, i2]) := fun b o e => by
    have e' := less_of e
    have n4 : b ≠ 474 := fun z => by rw [z, less_none] at e; cases e
    exact hideAll_get _ (keep₂ b o n4 (stz b o e')) fun hm => by rw [hw4 b hm] at e'; cases e'
  have hot4 : ∀ h₆ : Heap, (hideAll h₂ [z, TO, i1, i2]).StaysIn h₆ → Hot h₆ := fun h₆ k => by
    refine hot₂.at (fun o e => ?_) fun o e => ?_
    · refine k _ _ (hideAll_get _ e fun hm => ?_)
      have := hw4 _ hm
      obtain ⟨ps, ⟨oc, vs, file, tf, flags, tg, inF, text, tt, op, q, _⟩, _⟩ := t
      rw [q] at this; cases this
    · refine k _ _ (hideAll_get _ e fun hm => ?_)
      obtain ⟨o', q⟩ := ht4
      rw [hw4 _ hm] at q; cases q
  refine h _ s.gens.size (h₂.objs.size :: [z, TO, i1, i2]) _ _ _ ⟨_, _, WalksS.in4_1 WS, ⟨⟨_, _, _, Heap.get?_push_size _ (by rw [← hgo]; rfl), by rw [← hgo], by rw [← hgo], by rw [← hgo]⟩, lim₂.keeps keep₅, _, Array.getElem?_push_size .., fun s'' hal => ⟨rfl, ?_⟩⟩,
    ⟨_, _, _, Heap.get?_push_size _ (by rw [← hgo]; rfl), by rw [← hgo], by rw [← hgo], by rw [← hgo]⟩⟩ (fun b o e => ?_) (hot₂.at (fun o e => keep₅ _ _ e) fun o e => keep₅ _ _ e) (fun hot b o e => keep₅ b o (full₂ (hot.at (fun o e => stz _ _ e) fun o e => stz _ _ e) b o (stz b o e))) (GK.push rfl) (Nat.le_refl _) (fun b hb => ?_)
  · refine segStartE (A := A.in4.in1) (cenv := genEnv scope [] h₂.objs.size code builtinsNs env) (fpz := [z, TI, TO, i1, i2, l1, l2]) (g₀ := hideAll h₂ [z, TO, i1, i2]) hh W₀ (fun i vals ⟨x, y, _, _, e⟩ => ⟨x, y, e⟩) hab hxa hxb (by simp [genEnv, hkind]) hco hCf hfpz ?_ ?_ s'' (fun y => if y = ".0" then some (.ref z) else none)
      ((W₀ A hh).frame _ _ _ hst₂ fun b hb o e => hal b (List.mem_cons_of_mem _ (hfpz b hb)) o (keep₅ b o e)) ((hn'.push og).at' fun o e => hal _ (List.mem_cons_self ..) o e) (fun b o e => ?_)
    · intro b o e
      have e' := of_hideAll _ e
      exact ⟨inr b o e', fun hm => (by rw [hideAll_none _ hm] at e; cases e), Nat.ne_of_lt (Heap.lt_size e')⟩
    · rintro E' i va vb s₂ m₂ ⟨x, y, hx, hy, hxy⟩ hns ha hb hk
      have exy : va = x ∧ vb = y := by simpa using hxy
      rw [← exy.1] at hx
      rw [← exy.2] at hy
      exact hel _ z E' i va vb s₂ m₂ rfl rfl hx hy hns ha hb (fun b o e => hk b o (base b o e)) (hot4 _ hk)
    · have e' := of_hideAll _ e
      exact hal b (List.mem_cons_of_mem _ (inr b o e')) o (keep₅ b o e')
  · exact stS b o (fun z => by rw [z, less_none] at e; cases e) (less_of e)
  · rcases List.mem_cons.mp hb with rfl | hb
    · cases q : s.heap.get? h₂.objs.size with
      | none => rfl
      | some o =>
        exfalso
        by_cases e4 : h₂.objs.size = 474
        · obtain ⟨ps, e⟩ := hot₂.tb.obj
          have := Heap.lt_size e
          rw [e4] at this
          exact Nat.lt_irrefl _ this
        · exact Nat.lt_irrefl _ (Heap.lt_size (keep₂ _ _ e4 (stz _ _ q)))
    · exact hw4 b hb
end
end Mine
namespace Mine
open PySem PySem.W PySem.Calls PyProof.Rows
def Ex.eqb (e f : Ex) : Bool := e.cmp f == .eq
theorem eqb_iff {e f : Ex} : e.eqb f = true ↔ e = f := by
  unfold Ex.eqb
  constructor
  · intro h; exact cmp_eq _ _ (by simpa using h)
  · rintro rfl; rw [cmp_refl]; rfl
theorem eqb_false {e f : Ex} (h : e ≠ f) : e.eqb f = false := by
  cases q : e.eqb f with
  | false => rfl
  | true => exact absurd (eqb_iff.mp q) h
theorem eqNI {prog : Program} {w : World} {A : Around} {E : Value → Shared → Prop} {s : Shared} {K : Frag} {x y C D f1 f2 : Addr} {ox oy : Obj} {od od' : Option Obj} {Q : Value → Shared → Prop} (hu : A.units < cLine) (X : K.In s.heap) (I : InstAt s.heap x ox C od) (J : InstAt s.heap y oy D od') (hn : notFirst K C (.ref D) = true)
    (hs1 : findIn K (.ref C) "__eq__" = some (some (.ref f1))) (hf1 : isFn K (.ref f1) = true) (hs2 : findIn K (.ref D) "__eq__" = some (some (.ref f2))) (hf2 : isFn K (.ref f2) = true) (hxy : x ≠ y)
    (h1 : ∀ Q' : Value → Shared → Prop, (∀ h' tk, s.heap.StaysIn h' → Q' .notImplemented { s with heap := h', toks := tk }) → wpAny (model prog w) A (call (.ref f1) [.ref x, .ref y] []) Q' E s)
    (h2 : ∀ h' tk, ∀ Q' : Value → Shared → Prop, s.heap.StaysIn h' → (∀ h'' tk', h'.StaysIn h'' → Q' .notImplemented { s with heap := h'', toks := tk' }) → wpAny (model prog w) A (call (.ref f2) [.ref y, .ref x] []) Q' E { s with heap := h', toks := tk })
    (h : ∀ h' tk, s.heap.StaysIn h' → Q (.bool false) { s with heap := h', toks := tk }) : wpAny (model prog w) A (richCompare .Eq (.ref x) (.ref y)) Q E s := by
  have t1 : wpAny (model prog w) A (tryCompare (.ref x) "__eq__" (.ref y)) (fun r s' => r = none ∧ ∃ h' tk, s.heap.StaysIn h' ∧ s' = { s with heap := h', toks := tk }) E s := by
    unfold tryCompare
    exact wpAny_bind (ifBound_K X I hs1 hf1 (h1 _ fun h' tk st => wpAny_pure ⟨rfl, h', tk, st, rfl⟩))
  have t2 : ∀ h' tk, s.heap.StaysIn h' → wpAny (model prog w) A (tryCompare (.ref y) "__eq__" (.ref x)) (fun r s' => r = none ∧ ∃ h' tk, s.heap.StaysIn h' ∧ s' = { s with heap := h', toks := tk }) E { s with heap := h', toks := tk } := by
    intro h' tk st
    have J' : InstAt h' y oy D od' := by
      obtain ⟨j1, j2, j3, j4⟩ := J
      refine ⟨st _ _ j1, j2, j3, ?_⟩
      cases hd : oy.dict <;> cases od' <;> rw [hd] at j4 <;> first | exact j4 | exact st _ _ j4
    unfold tryCompare
    exact wpAny_bind (ifBound_K (s := { s with heap := h', toks := tk }) (X.keeps st) J' hs2 hf2 (h2 h' tk _ st fun h'' tk' st' => wpAny_pure ⟨rfl, h'', tk', fun b o e => st' b o (st b o e), rfl⟩))
  have fin : ∀ h' tk, s.heap.StaysIn h' → wpAny (model prog w) A (isSame (.ref x) (.ref y)) (fun b s' => Q (.bool b) s') E { s with heap := h', toks := tk } := fun h' tk st =>
    wpAny_isSame_ref_other hxy (st _ _ I.at_) (st _ _ J.at_) (by rw [I.cls]; intro z; cases z) (h h' tk st)
  unfold richCompare
  simp only [oneThing_ref]
  refine wpAny_holding (wpAny_bind (wpAny_cRoomFor hu ?_))
  refine wpAny_bind (I.type.here (wpAny_bind (J.type.here ?_)))
  have rest : wpAny (model prog w) A (do
      if let some v ← tryCompare (.ref x) "__eq__" (.ref y) then return v
      if !false then
        if let some v ← tryCompare (.ref y) "__eq__" (.ref x) then return v
      rule "compare.eq-identity"; return .bool (← isSame (.ref x) (.ref y))) Q E s := by
    refine wpAny_bind (wpAny_mono t1 (fun r s' z => ?_) fun _ _ e => e)
    obtain ⟨rfl, h', tk, st, rfl⟩ := z
    simp only [Bool.not_false, if_true]
    refine wpAny_bind (wpAny_mono (t2 h' tk st) (fun r s' z => ?_) fun _ _ e => e)
    obtain ⟨rfl, h'', tk', st', rfl⟩ := z
    exact wpAny_bind (wpAny_rule (wpAny_bind (wpAny_mono (fin h'' tk' st') (fun b s' q => wpAny_pure q) fun _ _ e => e)))
  split
  · rename_i q
    have e : subIn K (.ref D) (.ref C) = some false := by
      rcases Bool.or_eq_true_iff.mp hn with e | e
      · rw [beq_iff_eq.mp e] at q; simp at q
      · exact beq_iff_eq.mp e
    refine wpAny_bind ((looks_subIn X e).here ?_)
    exact rest
  · refine wpAny_bind (wpAny_pure ?_)
    exact rest
local macro_rules | `(tactic| k_inst) => `(tactic| (refine' instBase ?F ?h1 ?h2; (case F => k_asm); (case h1 => assumption); (case h2 => assumption)))
local macro_rules | `(tactic| k_room) => `(tactic| ((try simp only [depth_under_make, depth_under_kw, depth_in1, depth_deeper, depth_caller]); omega))
local macro_rules | `(tactic| k_units) => `(tactic| ((try simp only [units_in1, units_deeper, Around.mark_units, units_caller]); omega))
local macro_rules | `(tactic| walk_at "exec For") => `(tactic| (k_here; refine Hold.mk ?_))
local macro_rules | `(tactic| walk_at "truthy str") => `(tactic| (k_here; (with_reducible show wpAny _ _ (PySem.truthy (Value.str (Leaf.nm _) _)) _ _ _); refine truthy_nm ?_; intro _))
local macro_rules | `(tactic| walk_at "call builtin:len") => `(tactic| (k_here; (with_reducible show wpAny _ _ (call (Value.builtin "len") [Value.ref _] []) _ _ _); refine' lenB ?k1 ?k2 ?k3 ?_; (case k1 => k_asm); (case k2 => assumption); (case k3 => assumption); intro t' k'))
local macro_rules | `(tactic| walk_at "call type:zip") => `(tactic| (k_here; refine Hold.mk ?_))
local macro_rules | `(tactic| walk_at "compareOp Lt ref") => `(tactic| (k_here; (with_reducible show wpAny _ _ (compareOp CmpOp.Lt (Value.ref _) (Value.ref _)) _ _ _); refine Hold.mk ?_))
local macro_rules | `(tactic| walk_at "exec For Name Call cons nil") => `(tactic| (k_here; refine Hold.mk ?_))
local macro_rules | `(tactic| walk_at "exec For Name Name cons nil") => `(tactic| (k_here; refine Hold.mk ?_))
local macro_rules | `(tactic| walk_at "exec For Name Attribute cons nil") => `(tactic| (k_here; refine Hold.mk ?_))
local macro_rules | `(tactic| walk_at "exec For Name Subscript cons nil") => `(tactic| (k_here; refine Hold.mk ?_))
local macro_rules | `(tactic| walk_at "exec For Tuple Call cons nil") => `(tactic| (k_here; refine Hold.mk ?_))
local macro_rules | `(tactic| walk_at "exec For Name Tuple cons nil") => `(tactic| (k_here; refine Hold.mk ?_))
local macro_rules | `(tactic| walk_at "exec For Name Call") => `(tactic| (k_here; refine Hold.mk ?_))
local macro_rules | `(tactic| walk_at "exec For Name Name") => `(tactic| (k_here; refine Hold.mk ?_))
local macro_rules | `(tactic| walk_at "exec For Tuple Call") => `(tactic| (k_here; refine Hold.mk ?_))
local macro_rules | `(tactic| walk_at "exec While Compare cons nil") => `(tactic| (k_here; refine Hold.mk ?_))
local macro_rules | `(tactic| walk_at "exec While BoolOp cons nil") => `(tactic| (k_here; refine Hold.mk ?_))
local macro_rules | `(tactic| walk_at "exec While Compare") => `(tactic| (k_here; refine Hold.mk ?_))
local macro_rules | `(tactic| walk_at "exec While BoolOp") => `(tactic| (k_here; refine Hold.mk ?_))
local macro_rules | `(tactic| k_inst) => `(tactic| (first | (refine' instBase ?F ?h1 ?h2; (case F => k_asm); (case h1 => assumption); (case h2 => assumption)) | (refine' instBL ?F ?N ?h1 ?h2; (case F => k_asm); (case N => k_asm); (case h1 => assumption); (case h2 => k_mem))))
local macro_rules | `(tactic| walk_at "wpAt") => `(tactic| (dsimp only; ks_step "execs cons"; refine ks_wpAt_execs_cons ?_))
local macro_rules | `(tactic| walk_at "wpAt") => `(tactic| (ks_step "execs cons"; refine ks_wpAt_execs_cons ?_))
local macro_rules | `(tactic| walk_at "wpAt") => `(tactic| (ks_step "exec Expr"; with_unfolding_all refine ks_wpAt_Expr_any ?_))
local macro_rules | `(tactic| walk_at "wpAt") => `(tactic| (ks_step "exec If"; with_unfolding_all refine ks_wpAt_If ?_))
local macro_rules | `(tactic| walk_at "wpAt") => `(tactic| (ks_step "eval Call"; with_unfolding_all refine ks_wpAt_MethodCall ?_))
local macro_rules | `(tactic| walk_at "wpAt") => `(tactic| (ks_step "attributeBase Call"; k_here; k_dflt (with_unfolding_all refine ksN (by k_asm) (by k_asm) (by k_asm) (by k_asm) (by k_is) (by rfl) (by rfl) (by k_inst) (by k_is) (by rfl) (ProgOk.file (by assumption)) (by k_is) (by k_is) (by k_is) (by k_is) (by decide) (by rfl) (by rfl) (by rfl) (by rfl) (ProgOk.sup (by assumption)) (by first | boot_by_name | rfl | kernel_rfl) ?_; intro so' h' F' N' l1; (try k_lt l1))))
local macro_rules | `(tactic| walk_at "call ref") => `(tactic| (k_here; k_dflt (with_reducible show wpAny _ _ (call (Value.ref _) [_] []) _ _ _); refine Hold.mk ?_))
set_option maxRecDepth 100000
set_option maxHeartbeats 4000000
variable {prog : Program} {w : World} {A : Around} {s : Shared} {p : Program} {loose : List Str} {mg mb : Str → Option Value} {Q E : Value → Shared → Prop}
theorem ni_sym {x y dy D : Addr} {od : Obj} (hD : D = 741 ∨ D = 561) (X : (Mine.frag.heap_1 w.params).In s.heap) (T : TopRead p loose mg mb s.heap) (hd : A.depth < recursionLimit) (hy : s.heap.get? y = some (instObj D dy)) (hdy : s.heap.get? dy = some od)
    (hQ : ∀ h' tk, s.heap.StaysIn h' → Q .notImplemented { s with heap := h', toks := tk }) : wpAny (model prog w) A (call (.ref 634) [.ref x, .ref y] []) Q E s := by
  refine useCall (enter (binds := [("self", .ref x), ("other", .ref y)]) X T.nolimit hd (by k_is) (by k_is) (BindsTo.of_eq rfl) (locs rfl) ?_)
  intro L h₁ F N hL
  rcases hD with rfl | rfl
  · k_steps
    exact hQ _ _ (Fr.keep (by k_asm))
  · k_steps
    exact hQ _ _ (Fr.keep (by k_asm))
theorem ni_var {x y dy D : Addr} {od : Obj} (hD : D = 637 ∨ D = 561) (X : (Mine.frag.heap_1 w.params).In s.heap) (T : TopRead p loose mg mb s.heap) (hd : A.depth < recursionLimit) (hy : s.heap.get? y = some (instObj D dy)) (hdy : s.heap.get? dy = some od)
    (hQ : ∀ h' tk, s.heap.StaysIn h' → Q .notImplemented { s with heap := h', toks := tk }) : wpAny (model prog w) A (call (.ref 731) [.ref x, .ref y] []) Q E s := by
  refine useCall (enter (binds := [("self", .ref x), ("other", .ref y)]) X T.nolimit hd (by k_is) (by k_is) (BindsTo.of_eq rfl) (locs rfl) ?_)
  intro L h₁ F N hL
  rcases hD with rfl | rfl
  · k_steps
    exact hQ _ _ (Fr.keep (by k_asm))
  · k_steps
    exact hQ _ _ (Fr.keep (by k_asm))
theorem ni_op {x y dy D : Addr} {od : Obj} (hD : D = 637 ∨ D = 741) (X : (Mine.frag.heap_1 w.params).In s.heap) (T : TopRead p loose mg mb s.heap) (hd : A.depth < recursionLimit) (hy : s.heap.get? y = some (instObj D dy)) (hdy : s.heap.get? dy = some od)
    (hQ : ∀ h' tk, s.heap.StaysIn h' → Q .notImplemented { s with heap := h', toks := tk }) : wpAny (model prog w) A (call (.ref 479) [.ref x, .ref y] []) Q E s := by
  refine useCall (enter (binds := [("self", .ref x), ("other", .ref y)]) X T.nolimit hd (by k_is) (by k_is) (BindsTo.of_eq rfl) (locs rfl) ?_)
  intro L h₁ F N hL
  rcases hD with rfl | rfl
  · k_steps
    exact hQ _ _ (Fr.keep (by k_asm))
  · k_steps
    exact hQ _ _ (Fr.keep (by k_asm))
end Mine
namespace Mine
open PySem PySem.W PySem.Calls PyProof.Rows
theorem nm_eqb (l m : Leaf) : (l.nm == m.nm) = (Ex.leaf l).eqb (.leaf m) := by cases l <;> cases m <;> decide +kernel
theorem instNe {h : Heap} {x y C D dx dy : Addr} (h1 : h.get? x = some (instObj C dx)) (h2 : h.get? y = some (instObj D dy)) (hn : C ≠ D) (e : x = y) : False := by
  subst e
  rw [h1] at h2
  have := congrArg Obj.cls (Option.some.inj h2)
  exact hn (by simpa using this)
theorem eqb_leafs {l m : Leaf} (h : l.isVar ≠ m.isVar) : (Ex.leaf l).eqb (.leaf m) = false := eqb_false fun e => by cases e; exact h rfl
local macro_rules | `(tactic| k_inst) => `(tactic| (refine' instBase ?F ?h1 ?h2; (case F => k_asm); (case h1 => assumption); (case h2 => assumption)))
local macro_rules | `(tactic| k_room) => `(tactic| ((try simp only [depth_under_make, depth_under_kw, depth_in1, depth_deeper, depth_caller]); omega))
local macro_rules | `(tactic| k_units) => `(tactic| ((try simp only [units_in1, units_deeper, Around.mark_units, units_caller]); omega))
local macro_rules | `(tactic| walk_at "exec For") => `(tactic| (k_here; refine Hold.mk ?_))
local macro_rules | `(tactic| walk_at "truthy str") => `(tactic| (k_here; (with_reducible show wpAny _ _ (PySem.truthy (Value.str (Leaf.nm _) _)) _ _ _); refine truthy_nm ?_; intro _))
local macro_rules | `(tactic| walk_at "call builtin:len") => `(tactic| (k_here; (with_reducible show wpAny _ _ (call (Value.builtin "len") [Value.ref _] []) _ _ _); refine' lenB ?k1 ?k2 ?k3 ?_; (case k1 => k_asm); (case k2 => assumption); (case k3 => assumption); intro t' k'))
local macro_rules | `(tactic| walk_at "call type:zip") => `(tactic| (k_here; refine Hold.mk ?_))
local macro_rules | `(tactic| walk_at "compareOp Lt ref") => `(tactic| (k_here; (with_reducible show wpAny _ _ (compareOp CmpOp.Lt (Value.ref _) (Value.ref _)) _ _ _); refine Hold.mk ?_))
local macro_rules | `(tactic| walk_at "exec For Name Call cons nil") => `(tactic| (k_here; refine Hold.mk ?_))
local macro_rules | `(tactic| walk_at "exec For Name Name cons nil") => `(tactic| (k_here; refine Hold.mk ?_))
local macro_rules | `(tactic| walk_at "exec For Name Attribute cons nil") => `(tactic| (k_here; refine Hold.mk ?_))
local macro_rules | `(tactic| walk_at "exec For Name Subscript cons nil") => `(tactic| (k_here; refine Hold.mk ?_))
local macro_rules | `(tactic| walk_at "exec For Tuple Call cons nil") => `(tactic| (k_here; refine Hold.mk ?_))
local macro_rules | `(tactic| walk_at "exec For Name Tuple cons nil") => `(tactic| (k_here; refine Hold.mk ?_))
local macro_rules | `(tactic| walk_at "exec For Name Call") => `(tactic| (k_here; refine Hold.mk ?_))
local macro_rules | `(tactic| walk_at "exec For Name Name") => `(tactic| (k_here; refine Hold.mk ?_))
local macro_rules | `(tactic| walk_at "exec For Tuple Call") => `(tactic| (k_here; refine Hold.mk ?_))
local macro_rules | `(tactic| walk_at "exec While Compare cons nil") => `(tactic| (k_here; refine Hold.mk ?_))
local macro_rules | `(tactic| walk_at "exec While BoolOp cons nil") => `(tactic| (k_here; refine Hold.mk ?_))
local macro_rules | `(tactic| walk_at "exec While Compare") => `(tactic| (k_here; refine Hold.mk ?_))
local macro_rules | `(tactic| walk_at "exec While BoolOp") => `(tactic| (k_here; refine Hold.mk ?_))
local macro_rules | `(tactic| k_inst) => `(tactic| (first | (refine' instBase ?F ?h1 ?h2; (case F => k_asm); (case h1 => assumption); (case h2 => assumption)) | (refine' instBL ?F ?N ?h1 ?h2; (case F => k_asm); (case N => k_asm); (case h1 => assumption); (case h2 => k_mem))))
local macro_rules | `(tactic| walk_at "wpAt") => `(tactic| (dsimp only; ks_step "execs cons"; refine ks_wpAt_execs_cons ?_))
local macro_rules | `(tactic| walk_at "wpAt") => `(tactic| (ks_step "execs cons"; refine ks_wpAt_execs_cons ?_))
local macro_rules | `(tactic| walk_at "wpAt") => `(tactic| (ks_step "exec Expr"; with_unfolding_all refine ks_wpAt_Expr_any ?_))
local macro_rules | `(tactic| walk_at "wpAt") => `(tactic| (ks_step "exec If"; with_unfolding_all refine ks_wpAt_If ?_))
local macro_rules | `(tactic| walk_at "wpAt") => `(tactic| (ks_step "eval Call"; with_unfolding_all refine ks_wpAt_MethodCall ?_))
local macro_rules | `(tactic| walk_at "wpAt") => `(tactic| (ks_step "attributeBase Call"; k_here; k_dflt (with_unfolding_all refine ksN (by k_asm) (by k_asm) (by k_asm) (by k_asm) (by k_is) (by rfl) (by rfl) (by k_inst) (by k_is) (by rfl) (ProgOk.file (by assumption)) (by k_is) (by k_is) (by k_is) (by k_is) (by decide) (by rfl) (by rfl) (by rfl) (by rfl) (ProgOk.sup (by assumption)) (by first | boot_by_name | rfl | kernel_rfl) ?_; intro so' h' F' N' l1; (try k_lt l1))))
local macro_rules | `(tactic| walk_at "call ref") => `(tactic| (k_here; k_dflt (with_reducible show wpAny _ _ (call (Value.ref _) [_] []) _ _ _); refine Hold.mk ?_))
set_option maxRecDepth 100000
set_option maxHeartbeats 4000000
variable {prog : Program} {w : World} {A : Around} {s : Shared} {p : Program} {loose : List Str} {mg mb : Str → Option Value} {Q E : Value → Shared → Prop}
theorem eq_leaf_leaf {a b : Addr} {l m : Leaf} (X : (Mine.frag.heap_1 w.params).In s.heap) (T : TopRead p loose mg mb s.heap) (hd : A.depth + 3 < recursionLimit) (hu : A.units + 20 < cLine)
    (ha : IsEx w.params (at_ s.heap) (.ref a) (.leaf l)) (hb : IsEx w.params (at_ s.heap) (.ref b) (.leaf m)) (hQ : ∀ h' tk, s.heap.StaysIn h' → Q (.bool ((Ex.leaf l).eqb (.leaf m))) { s with heap := h', toks := tk }) :
    wpAny (model prog w) A (compareOp .Eq (.ref a) (.ref b)) Q E s := by
  refine cmp_ofEq ?_
  cases ha with
  | sym hl h1 h2 =>
    cases hb with
    | sym hm q1 q2 =>
      refine cmpX (by omega) X (instAt h1 h2) (InstAt.type (instAt q1 q2)) (by k_is) (by k_is) (by k_is) ?_
      refine useCall (enter (binds := [("self", .ref a), ("other", .ref b)]) X T.nolimit (by omega) (by k_is) (by k_is) (BindsTo.of_eq rfl) (locs rfl) ?_)
      intro L h₁ F N hL
      k_steps
      · exact qb ((by assumption : (l.nm == m.nm) = true).symm.trans (nm_eqb l m)) (hQ _ _ (Fr.keep (by k_asm)))
      · exact qb (nm_eqb l m) (hQ _ _ (Fr.keep (by k_asm)))
    | var hm q1 q2 =>
      rw [eqb_leafs (by rw [hl, hm]; decide)] at hQ
      refine eqNI (by omega) X (instAt h1 h2) (instAt q1 q2) (by k_is) (by k_is) (by k_is) (by k_is) (by k_is) (fun z => ?_) (fun Q' k => ni_sym (.inl rfl) X T (by omega) q1 q2 k) (fun h' tk Q' st k => ni_var (.inl rfl) (X.keeps st) (T.keeps st) (by omega) (st _ _ h1) (st _ _ h2) k) hQ
      first | exact instNe h1 q1 (by decide) z | exact instNe h1 q1 (by decide) z.symm
  | var hl h1 h2 =>
    cases hb with
    | sym hm q1 q2 =>
      rw [eqb_leafs (by rw [hl, hm]; decide)] at hQ
      refine eqNI (by omega) X (instAt h1 h2) (instAt q1 q2) (by k_is) (by k_is) (by k_is) (by k_is) (by k_is) (fun z => ?_) (fun Q' k => ni_var (.inl rfl) X T (by omega) q1 q2 k) (fun h' tk Q' st k => ni_sym (.inl rfl) (X.keeps st) (T.keeps st) (by omega) (st _ _ h1) (st _ _ h2) k) hQ
      first | exact instNe h1 q1 (by decide) z | exact instNe h1 q1 (by decide) z.symm
    | var hm q1 q2 =>
      refine cmpX (by omega) X (instAt h1 h2) (InstAt.type (instAt q1 q2)) (by k_is) (by k_is) (by k_is) ?_
      refine useCall (enter (binds := [("self", .ref a), ("other", .ref b)]) X T.nolimit (by omega) (by k_is) (by k_is) (BindsTo.of_eq rfl) (locs rfl) ?_)
      intro L h₁ F N hL
      k_steps
      · exact qb ((by assumption : (l.nm == m.nm) = true).symm.trans (nm_eqb l m)) (hQ _ _ (Fr.keep (by k_asm)))
      · exact qb (nm_eqb l m) (hQ _ _ (Fr.keep (by k_asm)))
theorem eq_leaf_op {a b : Addr} {l : Leaf} {k : Bool} {es : List Ex} (X : (Mine.frag.heap_1 w.params).In s.heap) (T : TopRead p loose mg mb s.heap) (hd : A.depth + 3 < recursionLimit) (hu : A.units + 20 < cLine)
    (ha : IsEx w.params (at_ s.heap) (.ref a) (.leaf l)) (hb : IsEx w.params (at_ s.heap) (.ref b) (.op k es)) (hQ : ∀ h' tk, s.heap.StaysIn h' → Q (.bool false) { s with heap := h', toks := tk }) :
    wpAny (model prog w) A (compareOp .Eq (.ref a) (.ref b)) Q E s ∧ wpAny (model prog w) A (compareOp .Eq (.ref b) (.ref a)) Q E s := by
  cases hb with
  | op q1 q2 q3 q4 q5 q6 =>
    cases ha with
    | sym hl h1 h2 =>
      constructor
      · refine cmp_ofEq (eqNI (by omega) X (instAt h1 h2) (instAt q1 q2) (by k_is) (by k_is) (by k_is) (by k_is) (by k_is) (fun z => ?_) (fun Q' k => ni_sym (.inr rfl) X T (by omega) q1 q2 k) (fun h' tk Q' st k => ni_op (.inl rfl) (X.keeps st) (T.keeps st) (by omega) (st _ _ h1) (st _ _ h2) k) hQ)
        first | exact instNe h1 q1 (by decide) z | exact instNe h1 q1 (by decide) z.symm
      · refine cmp_ofEq (eqNI (by omega) X (instAt q1 q2) (instAt h1 h2) (by k_is) (by k_is) (by k_is) (by k_is) (by k_is) (fun z => ?_) (fun Q' k => ni_op (.inl rfl) X T (by omega) h1 h2 k) (fun h' tk Q' st k => ni_sym (.inr rfl) (X.keeps st) (T.keeps st) (by omega) (st _ _ q1) (st _ _ q2) k) hQ)
        first | exact instNe h1 q1 (by decide) z | exact instNe h1 q1 (by decide) z.symm
    | var hl h1 h2 =>
      constructor
      · refine cmp_ofEq (eqNI (by omega) X (instAt h1 h2) (instAt q1 q2) (by k_is) (by k_is) (by k_is) (by k_is) (by k_is) (fun z => ?_) (fun Q' k => ni_var (.inr rfl) X T (by omega) q1 q2 k) (fun h' tk Q' st k => ni_op (.inr rfl) (X.keeps st) (T.keeps st) (by omega) (st _ _ h1) (st _ _ h2) k) hQ)
        first | exact instNe h1 q1 (by decide) z | exact instNe h1 q1 (by decide) z.symm
      · refine cmp_ofEq (eqNI (by omega) X (instAt q1 q2) (instAt h1 h2) (by k_is) (by k_is) (by k_is) (by k_is) (by k_is) (fun z => ?_) (fun Q' k => ni_op (.inr rfl) X T (by omega) h1 h2 k) (fun h' tk Q' st k => ni_var (.inr rfl) (X.keeps st) (T.keeps st) (by omega) (st _ _ q1) (st _ _ q2) k) hQ)
        first | exact instNe h1 q1 (by decide) z | exact instNe h1 q1 (by decide) z.symm
theorem ni_opop {x y : Addr} {k k' : Bool} {es fs : List Ex} (hk : k ≠ k') (X : (Mine.frag.heap_1 w.params).In s.heap) (T : TopRead p loose mg mb s.heap) (hd : A.depth < recursionLimit) (ha : IsEx w.params (at_ s.heap) (.ref x) (.op k es)) (hb : IsEx w.params (at_ s.heap) (.ref y) (.op k' fs))
    (hQ : ∀ h' tk, s.heap.StaysIn h' → Q .notImplemented { s with heap := h', toks := tk }) : wpAny (model prog w) A (call (.ref 479) [.ref x, .ref y] []) Q E s := by
  refine useCall (enter (binds := [("self", .ref x), ("other", .ref y)]) X T.nolimit hd (by k_is) (by k_is) (BindsTo.of_eq rfl) (locs rfl) ?_)
  intro L h₁ F N hL
  cases ha with | op h1 h2 h3 h4 h5 h6 =>
  cases hb with | op q1 q2 q3 q4 q5 q6 =>
  have hne : (kdName k' != kdName k) = true := by cases k <;> cases k' <;> first | exact absurd rfl hk | decide +kernel
  k_steps
  exact hQ _ _ (Fr.keep (by k_asm))
end Mine
namespace Mine
open PySem PySem.W PySem.Calls PyProof.Rows
local macro_rules | `(tactic| k_inst) => `(tactic| (refine' instBase ?F ?h1 ?h2; (case F => k_asm); (case h1 => assumption); (case h2 => assumption)))
local macro_rules | `(tactic| k_room) => `(tactic| ((try simp only [depth_under_make, depth_under_kw, depth_in1, depth_deeper, depth_caller]); omega))
local macro_rules | `(tactic| k_units) => `(tactic| ((try simp only [units_in1, units_deeper, Around.mark_units, units_caller]); omega))
local macro_rules | `(tactic| walk_at "exec For") => `(tactic| (k_here; refine Hold.mk ?_))
local macro_rules | `(tactic| walk_at "truthy str") => `(tactic| (k_here; (with_reducible show wpAny _ _ (PySem.truthy (Value.str (Leaf.nm _) _)) _ _ _); refine truthy_nm ?_; intro _))
local macro_rules | `(tactic| walk_at "call builtin:len") => `(tactic| (k_here; (with_reducible show wpAny _ _ (call (Value.builtin "len") [Value.ref _] []) _ _ _); refine' lenB ?k1 ?k2 ?k3 ?_; (case k1 => k_asm); (case k2 => assumption); (case k3 => assumption); intro t' k'))
local macro_rules | `(tactic| walk_at "call type:zip") => `(tactic| (k_here; refine Hold.mk ?_))
local macro_rules | `(tactic| walk_at "compareOp Lt ref") => `(tactic| (k_here; (with_reducible show wpAny _ _ (compareOp CmpOp.Lt (Value.ref _) (Value.ref _)) _ _ _); refine Hold.mk ?_))
local macro_rules | `(tactic| walk_at "exec For Name Call cons nil") => `(tactic| (k_here; refine Hold.mk ?_))
local macro_rules | `(tactic| walk_at "exec For Name Name cons nil") => `(tactic| (k_here; refine Hold.mk ?_))
local macro_rules | `(tactic| walk_at "exec For Name Attribute cons nil") => `(tactic| (k_here; refine Hold.mk ?_))
local macro_rules | `(tactic| walk_at "exec For Name Subscript cons nil") => `(tactic| (k_here; refine Hold.mk ?_))
local macro_rules | `(tactic| walk_at "exec For Tuple Call cons nil") => `(tactic| (k_here; refine Hold.mk ?_))
local macro_rules | `(tactic| walk_at "exec For Name Tuple cons nil") => `(tactic| (k_here; refine Hold.mk ?_))
local macro_rules | `(tactic| walk_at "exec For Name Call") => `(tactic| (k_here; refine Hold.mk ?_))
local macro_rules | `(tactic| walk_at "exec For Name Name") => `(tactic| (k_here; refine Hold.mk ?_))
local macro_rules | `(tactic| walk_at "exec For Tuple Call") => `(tactic| (k_here; refine Hold.mk ?_))
local macro_rules | `(tactic| walk_at "exec While Compare cons nil") => `(tactic| (k_here; refine Hold.mk ?_))
local macro_rules | `(tactic| walk_at "exec While BoolOp cons nil") => `(tactic| (k_here; refine Hold.mk ?_))
local macro_rules | `(tactic| walk_at "exec While Compare") => `(tactic| (k_here; refine Hold.mk ?_))
local macro_rules | `(tactic| walk_at "exec While BoolOp") => `(tactic| (k_here; refine Hold.mk ?_))
local macro_rules | `(tactic| k_inst) => `(tactic| (first | (refine' instBase ?F ?h1 ?h2; (case F => k_asm); (case h1 => assumption); (case h2 => assumption)) | (refine' instBL ?F ?N ?h1 ?h2; (case F => k_asm); (case N => k_asm); (case h1 => assumption); (case h2 => k_mem))))
local macro_rules | `(tactic| walk_at "wpAt") => `(tactic| (dsimp only; ks_step "execs cons"; refine ks_wpAt_execs_cons ?_))
local macro_rules | `(tactic| walk_at "wpAt") => `(tactic| (ks_step "execs cons"; refine ks_wpAt_execs_cons ?_))
local macro_rules | `(tactic| walk_at "wpAt") => `(tactic| (ks_step "exec Expr"; with_unfolding_all refine ks_wpAt_Expr_any ?_))
local macro_rules | `(tactic| walk_at "wpAt") => `(tactic| (ks_step "exec If"; with_unfolding_all refine ks_wpAt_If ?_))
local macro_rules | `(tactic| walk_at "wpAt") => `(tactic| (ks_step "eval Call"; with_unfolding_all refine ks_wpAt_MethodCall ?_))
local macro_rules | `(tactic| walk_at "wpAt") => `(tactic| (ks_step "attributeBase Call"; k_here; k_dflt (with_unfolding_all refine ksN (by k_asm) (by k_asm) (by k_asm) (by k_asm) (by k_is) (by rfl) (by rfl) (by k_inst) (by k_is) (by rfl) (ProgOk.file (by assumption)) (by k_is) (by k_is) (by k_is) (by k_is) (by decide) (by rfl) (by rfl) (by rfl) (by rfl) (ProgOk.sup (by assumption)) (by first | boot_by_name | rfl | kernel_rfl) ?_; intro so' h' F' N' l1; (try k_lt l1))))
local macro_rules | `(tactic| walk_at "call ref") => `(tactic| (k_here; k_dflt (with_reducible show wpAny _ _ (call (Value.ref _) [_] []) _ _ _); refine Hold.mk ?_))
local macro_rules | `(tactic| walk_at "eval GeneratorExp") => `(tactic| (k_here; refine Hold.mk ?_))
local macro_rules | `(tactic| walk_at "call builtin:all") => `(tactic| (k_here; refine Hold.mk ?_))
set_option maxRecDepth 100000
set_option maxHeartbeats 4000000
def trE (es fs : List Ex) (i : Nat) : Bool := match es[i]?, fs[i]? with
  | some e, some f => e.eqb f
  | _, _ => true
theorem cmpL_eqs : ∀ (es fs : List Ex), es.length = fs.length → (cmpL es fs == .eq) = (List.range es.length).all (trE es fs)
  | [], [], _ => rfl
  | [], _ :: _, h => by simp at h
  | _ :: _, [], h => by simp at h
  | e :: es, f :: fs, h => by
    have h' : es.length = fs.length := by simpa using h
    have ih := cmpL_eqs es fs h'
    rw [cmpL, List.length_cons, List.range_succ_eq_map, List.all_cons, List.all_map]
    have e1 : trE (e :: es) (f :: fs) 0 = e.eqb f := rfl
    have e2 : (trE (e :: es) (f :: fs) ∘ Nat.succ) = trE es fs := by funext i; simp [trE]
    rw [e1, e2, ← ih]
    unfold Ex.eqb
    cases e.cmp f <;> rfl
theorem eqb_ops (k : Bool) {es fs : List Ex} (h : es.length = fs.length) : (Ex.op k es).eqb (.op k fs) = (List.range es.length).all (trE es fs) := by
  rw [← cmpL_eqs es fs h]
  unfold Ex.eqb
  rw [Ex.cmp, natcmp_eq'.mpr rfl, natcmp_eq'.mpr h]
  rfl
theorem eqb_lens (k : Bool) {es fs : List Ex} (h : es.length ≠ fs.length) : (Ex.op k es).eqb (.op k fs) = false := eqb_false fun e => by
  cases e; exact h rfl
theorem eqb_kinds {k k' : Bool} (es fs : List Ex) (h : k ≠ k') : (Ex.op k es).eqb (.op k' fs) = false := eqb_false fun e => by
  cases e; exact h rfl
/-- the contract of «==» -/
def EqC (w : World) (ea eb : Ex) (d u : Nat) : Prop := ∀ ⦃prog : Program⦄ ⦃A : Around⦄ ⦃s : Shared⦄ ⦃p : Program⦄ ⦃loose : List Str⦄ ⦃mg mb : Str → Option Value⦄ ⦃Q E : Value → Shared → Prop⦄ ⦃g : Heap⦄ ⦃va vb : Value⦄,
  (Mine.frag.heap_1 w.params).In g → TopRead p loose mg mb g → Bm mg g → g.StaysIn s.heap → g.get? 474 = none → Tb s.heap → A.handled = none → A.depth + d < recursionLimit → A.units + u < cLine → IsEx w.params (at_ g) va ea → IsEx w.params (at_ g) vb eb →
  (∀ h' tk g', (less s.heap 474).StaysIn h' → Tb h' → (Hot s.heap → s.heap.StaysIn h') → GK s.gens g' → Q (.bool (ea.eqb eb)) { s with heap := h', toks := tk, gens := g' }) → wpAny (model prog w) A (compareOp .Eq va vb) Q E s
variable {prog : Program} {w : World} {A : Around} {s : Shared} {p : Program} {loose : List Str} {mg mb : Str → Option Value} {Q E : Value → Shared → Prop}
theorem eq_op_op {k k' : Bool} {es fs : List Ex} {d u : Nat} (ih : ∀ e ∈ es, ∀ f ∈ fs, EqC w e f d u) : EqC w (.op k es) (.op k' fs) (d + 6) (u + 40) := by
  intro prog A s p loose mg mb Q E g va vb X T B hg hg4 t hh hd hu ha hb hQ
  have ha' := ha
  have hb' := hb
  cases ha with
  | op h1 h2 h3 h6 h4 h5 =>
    cases hb with
    | op q1 q2 q3 q6 q4 q5 =>
      rename_i a da la kda ara vsa na _ _ _ _ _ _ _ _ _ b db lb kdb arb vsb nb _ _ _ _ _ _ _ _ _
      have hgb := less_stays hg hg4
      have Xb := X.keeps hgb
      have Tb' := T.keeps hgb
      refine cmp_ofEq ?_
      by_cases hk : k = k'
      · subst hk
        obtain ⟨ps, hps⟩ := t.obj
        refine cmpX (by omega) (X.keeps hg) (instAt (hg _ _ h1) (hg _ _ h2)) (InstAt.type (instAt (hg _ _ q1) (hg _ _ q2))) (by k_is) (by k_is) (by k_is) ?_
        refine useCall (enterH (r := 474) (binds := [("self", .ref a), ("other", .ref b)]) Xb hps (T.nolimit.keeps hg) (by omega) (by k_is) (by k_is) (BindsTo.of_eq rfl) (locs rfl) ?_)
        intro L h₁ F N hL
        have h1' := hgb _ _ h1
        have h2' := hgb _ _ h2
        have h3' := hgb _ _ h3
        have q1' := hgb _ _ q1
        have q2' := hgb _ _ q2
        have q3' := hgb _ _ q3
        have hl1 := h5.length
        have hl2 := q5.length
        have hsn : ∀ {h' : Heap}, (less s.heap 474).StaysIn h' → h'.get? 474 = some ({ cls := .none, data := .fields ps } : Obj) → s.heap.StaysIn h' := fun st e4 b o e => by
          by_cases hb4 : b = 474
          · subst hb4; rw [hps] at e; cases e; exact e4
          · exact st b o (less_get e hb4)
        have stF := hsn F.keep (N _ (.head _)).1
        have hne : (kdName k != kdName k) = false := by simp
        k_steps
        · refine Hold.intro (genMakeE (l1 := la) (l2 := lb) (xs := vsa.toArray) (ys := vsb.toArray) (mg := mg) (tr := trE es fs) hh rfl (by with_unfolding_all rfl) (by decide) (by rfl) (by rfl) (by rfl) (by decide) rfl (by simp only [depth_deeper]; omega) rfl (Tb'.nolimit.keeps F.keep) (t.keeps stF) (Tb'.g.keeps F.keep) (B.keeps fun b o e => F.keep b o (hgb b o e)) (show mainGlobals ≠ 474 by decide) (fun bm hbm z => ?_) (by decide) ?_ ?_ ?_ (by intro _; with_unfolding_all rfl))
          · obtain ⟨bm', ob, b1, b2, b3, _⟩ := B
            rw [b1] at hbm; cases hbm
            rw [z, hg4] at b3; cases b3
          · k_steps
            refine Hold.intro (zipG (s₀ := { heap := h₁, gens := s.gens, drawn := s.drawn, toks := _, os := s.os }) (xs := vsa.toArray) (ys := vsb.toArray) ⟨_, F.keep _ _ h3', rfl, _, rfl⟩ ⟨_, F.keep _ _ q3', rfl, _, rfl⟩ ⟨_, _, rfl, fun _ _ e => e⟩ fun _ _ z => z)
          · intro cenv I E' i va vb s₂ m₂ hsc hgl hxs hys hns hma hmb st hot
            refine wpAny_Compare1 (wpAny_Name (wpAny_loadName_local (by rw [hsc]) (by show cenv.scope.names.lookup _ = _; rw [hsc]; rfl) hns hma (wpAny_Name (wpAny_loadName_local (by rw [hsc]) (by show cenv.scope.names.lookup _ = _; rw [hsc]; rfl) hns hmb ?_))))
            obtain ⟨e, he, hve⟩ := h5.get (i := i) (by simpa using hxs)
            obtain ⟨f, hf, hvf⟩ := q5.get (i := i) (by simpa using hys)
            have hgs : g.StaysIn s₂.heap := fun b o e => st b o (by
              refine less_get (F.keep b o (hgb b o e)) fun z => ?_
              rw [z, hg4] at e; cases e)
            refine ih e (List.mem_of_getElem? he) f (List.mem_of_getElem? hf) (g := g) X T B hgs hg4 hot.tb hh ?_ ?_ hve hvf ?_
            · show A.depth + 1 + 0 + 1 + d < recursionLimit
              omega
            · show (A.deeper _).in4.in1.units + 0 + 3 + u < cLine
              simp only [Around.in4, units_in1, units_deeper]
              omega
            · intro h' tk g' _ _ full gk
              exact ⟨by simp [trE, he, hf], h', tk, g', rfl, full hot, gk⟩
          · intro ga gi wr h₂ tk₂ g₂ R st₂ hot₂ full₂ gk hge hwr
            obtain ⟨ps₂, e₂⟩ := hot₂.tb.obj
            obtain ⟨F₂, N₂⟩ := chgBack (own := []) (rest := []) F N (fun _ h => by cases h) (fun _ h => by cases h) st₂ e₂
            simp only [List.nil_append] at N₂
            k_steps
            refine Hold.intro (allE R ?_)
            intro h₃ tk₃ g₃ k₃ go
            have c₃ : ∀ b o o', h₁.get? b = some o' → h₂.get? b = some o → h₃.get? b = some o := fun b o o' e' e => k₃ b o (fun hm => by rw [hwr b hm] at e'; cases e') e
            have F₃ : Fr (less s.heap 474) L h₃ (fun y => List.lookup y [(("self" : Str), Value.ref a), (("other" : Str), Value.ref b)].reverse) := by
              obtain ⟨oL, es', ep', hL', r⟩ := F₂.ns
              obtain ⟨oL', _, _, hL'', _⟩ := F.ns
              exact ⟨⟨oL, es', ep', c₃ _ _ _ hL'' hL', r⟩, fun b o e => c₃ b o o (F.keep b o e) (F₂.keep b o e), F₂.above⟩
            have N₃ : News (less s.heap 474) L h₃ [(474, ({ cls := .none, data := .fields ps₂ } : Obj))] := fun p hp => by
              rw [List.mem_singleton.mp hp]
              exact ⟨c₃ _ _ _ (N _ (.head _)).1 e₂, (N₂ _ (.head _)).2⟩
            have hot₃ : Hot h₃ := hot₂.at (fun o e => by
              obtain ⟨_, ⟨oc, vs, file, tf, flags, tg, inF, text, tt, op, q, _⟩, _⟩ := t
              exact c₃ _ _ _ (stF _ _ q) e) fun o e => c₃ _ _ _ (N _ (.head _)).1 e
            have full₃ : Hot s.heap → s.heap.StaysIn h₃ := fun ht b o e => c₃ b o o (stF b o e) (full₂ (ht.at (fun o e => stF _ _ e) fun o e => stF _ _ e) b o (stF b o e))
            have gk₃ : GK s.gens g₃ := GO.new gk hge go
            have hlen : es.length = fs.length := by
              have := (by assumption : (vsa.length : Int) = (vsb.length : Int))
              omega
            have hmin : min vsa.toArray.size vsb.toArray.size = es.length := by simp only [List.size_toArray]; omega
            clear F₂ N₂ F N
            k_steps
            · have hall : (Ex.op k es).eqb (.op k fs) = true := by
                rw [eqb_ops k hlen, ← hmin]; assumption
              rw [hall] at hQ
              exact hQ h₃ _ g₃ F₃.keep hot₃.tb full₃ gk₃
            · have hall : (Ex.op k es).eqb (.op k fs) = (List.range (min vsa.toArray.size vsb.toArray.size)).all (trE es fs) := by
                rw [eqb_ops k hlen, ← hmin]
              rw [hall] at hQ
              exact hQ h₃ _ g₃ F₃.keep hot₃.tb full₃ gk₃
        · have hlen : es.length ≠ fs.length := by
            rw [← hl1, ← hl2]
            intro z
            exact (by assumption : (vsa.length : Int) ≠ (vsb.length : Int)) (by rw [z])
          rw [eqb_lens k hlen] at hQ
          refine qb (b' := false) ?_ (hQ h₁ _ _ F.keep (t.keeps stF) (fun _ => stF) (GK.refl _))
          have := (by assumption : (vsa.length : Int) ≠ (vsb.length : Int))
          simpa using this
      · rw [eqb_kinds es fs hk] at hQ
        have Xs := X.keeps hg
        have Ts := T.keeps hg
        have ha2 := ha'.mono (S' := at_ s.heap) fun a o h => hg a o h
        have hb2 := hb'.mono (S' := at_ s.heap) fun a o h => hg a o h
        refine eqNI (by omega) Xs (instAt (hg _ _ h1) (hg _ _ h2)) (instAt (hg _ _ q1) (hg _ _ q2)) (by k_is) (by k_is) (by k_is) (by k_is) (by k_is) (fun z => ?_) (fun Q' c => ni_opop hk Xs Ts (by omega) ha2 hb2 c) (fun h' tk Q' st c => ni_opop (Ne.symm hk) (Xs.keeps st) (Ts.keeps st) (by omega) (hb2.mono fun a o h => st a o h) (ha2.mono fun a o h => st a o h) c) (fun h' tk st => hQ h' tk _ (fun b o e => st b o (less_of e)) (t.keeps st) (fun _ => st) (GK.refl _))
        subst z
        have h1 : g.get? a = some (instObj 561 da) := h1
        have q1 : g.get? a = some (instObj 561 db) := q1
        rw [h1] at q1
        have ed : da = db := by have := congrArg Obj.dict (Option.some.inj q1); simpa using this
        subst ed
        have h2 : g.get? da = some _ := h2
        have q2 : g.get? da = some _ := q2
        rw [h2] at q2
        have eo := congrArg Obj.data (Option.some.inj q2)
        simp [dictOf] at eo
        have en : kdName k = kdName k' := by simp_all
        cases k <;> cases k' <;> first | exact hk rfl | exact absurd en (by decide +kernel)
end Mine
namespace Mine
open PySem PySem.W PySem.Calls PyProof.Rows
theorem EqC.up {w : World} {ea eb : Ex} {d u d' u' : Nat} (h : EqC w ea eb d u) (hd : d ≤ d') (hu : u ≤ u') : EqC w ea eb d' u' := by
  intro prog A s p loose mg mb Q E g va vb X T B hg hg4 t hh h1 h2 ha hb hQ
  exact h X T B hg hg4 t hh (by omega) (by omega) ha hb hQ
theorem eq_ex (w : World) : ∀ n, ∀ ea eb : Ex, ea.ht < n → eb.ht < n → EqC w ea eb (6 * n) (40 * n)
  | 0, _, _, h, _ => absurd h (Nat.not_lt_zero _)
  | n + 1, ea, eb, ha, hb => by
    cases ea with
    | leaf l =>
      cases eb with
      | leaf m =>
        intro prog A s p loose mg mb Q E g va vb X T B hg hg4 t hh h1 h2 ha hb hQ
        obtain ⟨a, rfl⟩ := ha.isRef
        obtain ⟨b, rfl⟩ := hb.isRef
        exact eq_leaf_leaf (X.keeps hg) (T.keeps hg) (by omega) (by omega) (ha.mono fun a o h => hg a o h) (hb.mono fun a o h => hg a o h) fun h' tk st => hQ h' tk _ (fun b o e => st b o (less_of e)) (t.keeps st) (fun _ => st) (GK.refl _)
      | op k es =>
        intro prog A s p loose mg mb Q E g va vb X T B hg hg4 t hh h1 h2 ha hb hQ
        obtain ⟨a, rfl⟩ := ha.isRef
        obtain ⟨b, rfl⟩ := hb.isRef
        rw [eqb_false (e := .leaf l) (f := .op k es) (fun z => by cases z)] at hQ
        exact (eq_leaf_op (X.keeps hg) (T.keeps hg) (by omega) (by omega) (ha.mono fun a o h => hg a o h) (hb.mono fun a o h => hg a o h) fun h' tk st => hQ h' tk _ (fun b o e => st b o (less_of e)) (t.keeps st) (fun _ => st) (GK.refl _)).1
    | op k es =>
      cases eb with
      | leaf m =>
        intro prog A s p loose mg mb Q E g va vb X T B hg hg4 t hh h1 h2 ha hb hQ
        obtain ⟨a, rfl⟩ := ha.isRef
        obtain ⟨b, rfl⟩ := hb.isRef
        rw [eqb_false (e := .op k es) (f := .leaf m) (fun z => by cases z)] at hQ
        exact (eq_leaf_op (X.keeps hg) (T.keeps hg) (by omega) (by omega) (hb.mono fun a o h => hg a o h) (ha.mono fun a o h => hg a o h) fun h' tk st => hQ h' tk _ (fun b o e => st b o (less_of e)) (t.keeps st) (fun _ => st) (GK.refl _)).2
      | op k' fs =>
        rw [Ex.ht] at ha hb
        refine EqC.up (eq_op_op (d := 6 * n) (u := 40 * n) fun e he f hf => ?_) (by omega) (by omega)
        have e1 := ht_mem he
        have f1 := ht_mem hf
        exact eq_ex w n e f (by omega) (by omega)
end Mine
namespace Mine
open PySem PySem.W PySem.Calls PyProof.Rows
section
variable {prog : Program} {w : World} {A : Around} {E : Value → Shared → Prop} {s : Shared}
theorem starList {r n : Nat} {vs : List Value} {Q : List Value → Shared → Prop} (hr : s.heap.get? r = some (listOf vs.toArray n)) (hz : vs.length ≤ 100000) (h : ∀ h', s.heap.StaysIn h' → Q vs { s with heap := h' }) : StarOf (model prog w) A E (.ref r) Q s := by
  have hT' : s.TypeIs (.ref r) "list" := ⟨_, hr, rfl⟩
  have z : wpAny (model prog w) A (collect (.ref r)) Q E s := by
    have e : vs = vs.toArray.toList := by simp
    rw [e] at h
    exact wpAny_collect_seq r (.inl rfl) hr rfl rfl (fun h' hk => h h' hk) (by rw [List.size_toArray, sizeLine_eq]; omega)
  unfold StarOf notIterableAtAll
  exact wpAny_bind (wpAny_specialOf hT' PySem.F.slot_list_iter.lookup (wpAny_pure ⟨rfl, z⟩))
theorem methodCallStar {M : Model} {env : Env} {o e : Expr} {name : Str} {apos pos p : Pos} {kws : List Keyword} {Q : Value → Shared → Prop}
    (h : wpAny M A (eval o env) (fun ov s₁ => wpAny M A (getAttr ov name true) (fun f s₂ => wpAny M A (callWith pos f [] (backTo pos (starEach [.Starred e p] env)) (backToKw pos (keywordEach kws env))) Q E s₂) E s₁) E s)
    (he : eval (.Call (.Attribute o name apos) [.Starred e p] kws pos) env = (do
      let ov ← eval o env
      standAt apos.atName
      let (f, first) ← holding [ov] (do pure (← getAttr ov name true, []))
      callWith pos f first (backTo pos (starEach [.Starred e p] env)) (backToKw pos (keywordEach kws env))) := by rfl) :
    wpAny M A (eval (.Call (.Attribute o name apos) [.Starred e p] kws pos) env) Q E s := by
  rw [he]
  exact wpAny_bind (wpAny_mono h (fun ov s₁ h₁ => wpAny_bind (wpAny_standAt (wpAny_bind (wpAny_holding (wpAny_bind (wpAny_mono h₁ (fun f s₂ h₂ => wpAny_pure h₂) fun _ _ x => x)))))) fun _ _ x => x)
theorem callSK {M : Model} {P : Heap → Prop} {f : Value} {first : List Value} {pos : Pos} {k : Str} {x y : Sem Value} {Q : Value → Shared → Prop} (hk : ∀ h, P h → Looks M h (keeperOf f) .caller)
    (h : wpAny M A x (fun v s₁ => wpAny M A y (fun kv s₂ => StarOf M A E v (fun vs s₃ => P s₃.heap ∧ wpAny M A (call f (first ++ vs) [(k, kv)]) Q E s₃) s₂) E s₁) E s) :
    wpAny M A (callWith pos f first [(true, (do let v ← x; standAt pos; pure v))] [(some k, (do let v ← y; standAt pos; pure v))]) Q E s := by
  have ev : wpAny M A (evalArgs f true [(true, (do let v ← x; standAt pos; pure v))] [(some k, (do let v ← y; standAt pos; pure v))]) (fun a s₁ => P s₁.heap ∧ wpAny M A (call f (first ++ a.pos) a.kw) Q E s₁) E s := by
    unfold evalArgs
    refine wpAny_bind (wpAny_bind (wpAny_mono h (fun v s₁ h₁ => wpAny_bind (wpAny_standAt (wpAny_pure ?_))) fun _ _ x => x))
    refine wpAny_holding ?_
    show wpAny M A (evalAll _ >>= _) _ _ _
    refine wpAny_bind (wpAny_evalAll_cons (wpAny_bind (wpAny_mono h₁ (fun kv s₂ h₂ => wpAny_bind (wpAny_standAt (wpAny_pure (wpAny_evalAll_nil ?_)))) fun _ _ x => x)))
    unfold StarOf at h₂
    refine wpAny_bind (wpAny_bind (wpAny_mono h₂ (fun b s₃ h₃ => ?_) fun _ _ x => x))
    obtain ⟨rfl, h₃⟩ := h₃
    exact wpAny_holding (wpAny_mono h₃ (fun vs s₄ h₄ => wpAny_pure h₄) fun _ _ x => x)
  unfold callWith
  refine wpAny_bind (wpAny_holding (wpAny_mono ev (fun a s₁ h₁ => wpAny_bind (wpAny_standAt ?_)) fun _ _ x => x))
  refine wpAny_bind ((hk _ h₁.1).here ?_)
  have tail : ∀ {t : Sem Value}, wpAny M A t Q E s₁ → wpAny M A (t >>= fun r => holding [r] point >>= fun _ => pure r) Q E s₁ :=
    fun ht => wpAny_bind (wpAny_mono ht (fun r s₂ hr => wpAny_bind (wpAny_holding (wpAny_point (wpAny_pure hr)))) fun _ _ y => y)
  exact tail (wpAny_operateT h₁.2)
end
local macro_rules | `(tactic| walk_at "pad") => `(tactic| skip)
local macro_rules | `(tactic| k_inst) => `(tactic| (refine' instBase ?F ?h1 ?h2; (case F => k_asm); (case h1 => assumption); (case h2 => assumption)))
local macro_rules | `(tactic| k_room) => `(tactic| ((try simp only [depth_under_make, depth_under_kw, depth_in1, depth_deeper, depth_caller]); omega))
local macro_rules | `(tactic| k_units) => `(tactic| ((try simp only [units_in1, units_deeper, Around.mark_units, units_caller]); omega))
local macro_rules | `(tactic| walk_at "exec For") => `(tactic| (k_here; refine Hold.mk ?_))
local macro_rules | `(tactic| walk_at "truthy str") => `(tactic| (k_here; (with_reducible show wpAny _ _ (PySem.truthy (Value.str (Leaf.nm _) _)) _ _ _); refine truthy_nm ?_; intro _))
local macro_rules | `(tactic| walk_at "call builtin:len") => `(tactic| (k_here; (with_reducible show wpAny _ _ (call (Value.builtin "len") [Value.ref _] []) _ _ _); refine' lenB ?k1 ?k2 ?k3 ?_; (case k1 => k_asm); (case k2 => assumption); (case k3 => assumption); intro t' k'))
local macro_rules | `(tactic| walk_at "call type:zip") => `(tactic| (k_here; refine Hold.mk ?_))
local macro_rules | `(tactic| walk_at "compareOp Lt ref") => `(tactic| (k_here; (with_reducible show wpAny _ _ (compareOp CmpOp.Lt (Value.ref _) (Value.ref _)) _ _ _); refine Hold.mk ?_))
local macro_rules | `(tactic| walk_at "exec For Name Call cons nil") => `(tactic| (k_here; refine Hold.mk ?_))
local macro_rules | `(tactic| walk_at "exec For Name Name cons nil") => `(tactic| (k_here; refine Hold.mk ?_))
local macro_rules | `(tactic| walk_at "exec For Name Attribute cons nil") => `(tactic| (k_here; refine Hold.mk ?_))
local macro_rules | `(tactic| walk_at "exec For Name Subscript cons nil") => `(tactic| (k_here; refine Hold.mk ?_))
local macro_rules | `(tactic| walk_at "exec For Tuple Call cons nil") => `(tactic| (k_here; refine Hold.mk ?_))
local macro_rules | `(tactic| walk_at "exec For Name Tuple cons nil") => `(tactic| (k_here; refine Hold.mk ?_))
local macro_rules | `(tactic| walk_at "exec For Name Call") => `(tactic| (k_here; refine Hold.mk ?_))
local macro_rules | `(tactic| walk_at "exec For Name Name") => `(tactic| (k_here; refine Hold.mk ?_))
local macro_rules | `(tactic| walk_at "exec For Tuple Call") => `(tactic| (k_here; refine Hold.mk ?_))
local macro_rules | `(tactic| walk_at "exec While Compare cons nil") => `(tactic| (k_here; refine Hold.mk ?_))
local macro_rules | `(tactic| walk_at "exec While BoolOp cons nil") => `(tactic| (k_here; refine Hold.mk ?_))
local macro_rules | `(tactic| walk_at "exec While Compare") => `(tactic| (k_here; refine Hold.mk ?_))
local macro_rules | `(tactic| walk_at "exec While BoolOp") => `(tactic| (k_here; refine Hold.mk ?_))
local macro_rules | `(tactic| k_inst) => `(tactic| (first | (refine' instBase ?F ?h1 ?h2; (case F => k_asm); (case h1 => assumption); (case h2 => assumption)) | (refine' instBL ?F ?N ?h1 ?h2; (case F => k_asm); (case N => k_asm); (case h1 => assumption); (case h2 => k_mem))))
local macro_rules | `(tactic| walk_at "wpAt") => `(tactic| (dsimp only; ks_step "execs cons"; refine ks_wpAt_execs_cons ?_))
local macro_rules | `(tactic| walk_at "wpAt") => `(tactic| (ks_step "execs cons"; refine ks_wpAt_execs_cons ?_))
local macro_rules | `(tactic| walk_at "wpAt") => `(tactic| (ks_step "exec Expr"; with_unfolding_all refine ks_wpAt_Expr_any ?_))
local macro_rules | `(tactic| walk_at "wpAt") => `(tactic| (ks_step "exec If"; with_unfolding_all refine ks_wpAt_If ?_))
local macro_rules | `(tactic| walk_at "wpAt") => `(tactic| (ks_step "eval Call"; with_unfolding_all refine ks_wpAt_MethodCall ?_))
local macro_rules | `(tactic| walk_at "wpAt") => `(tactic| (ks_step "attributeBase Call"; k_here; k_dflt (with_unfolding_all refine ksN (by k_asm) (by k_asm) (by k_asm) (by k_asm) (by k_is) (by rfl) (by rfl) (by k_inst) (by k_is) (by rfl) (ProgOk.file (by assumption)) (by k_is) (by k_is) (by k_is) (by k_is) (by decide) (by rfl) (by rfl) (by rfl) (by rfl) (ProgOk.sup (by assumption)) (by first | boot_by_name | rfl | kernel_rfl) ?_; intro so' h' F' N' l1; (try k_lt l1))))
local macro_rules | `(tactic| walk_at "call ref") => `(tactic| (k_here; k_dflt (with_reducible show wpAny _ _ (call (Value.ref _) [_] []) _ _ _); refine Hold.mk ?_))
local macro_rules | `(tactic| walk_at "eval Call Attribute") => `(tactic| (k_here; refine Hold.mk ?_))
local macro_rules | `(tactic| walk_at "callWith ref") => `(tactic| (k_here; refine Hold.mk ?_))
set_option maxRecDepth 100000
set_option maxHeartbeats 4000000
variable {prog : Program} {w : World} {A : Around} {s : Shared} {p : Program} {loose : List Str} {mg mb : Str → Option Value} {Q E : Value → Shared → Prop}
theorem noneOf {g h : Heap} {a : Addr} (k : g.StaysIn h) (e : h.get? a = none) : g.get? a = none := by
  cases q : g.get? a with
  | none => rfl
  | some o => rw [k _ _ q] at e; cases e
/-- a kind called -/
theorem mk_c {S : Facts} {ka N : Nat} {k : Bool} {ps : List (Value × Ex)} {kw : List (Str × Value)} (P : ProgOk prog) (X : (Mine.frag.heap_1 w.params).In s.heap) (T : TopRead p loose mg mb s.heap)
    (hS : S.In s.heap) (hk : IsKind w.params S ka k) (hkw : kw = [] ∨ kw = [(("variable_name" : Str), Value.none)]) (hb : Bears w.params S ps) (hn : ps.length ≤ 8) (h2 : 2 ≤ ps.length) (hfl : (flat k (ps.map (·.2))).length ≤ 1000) (hf2 : 2 ≤ (flat k (ps.map (·.2))).length) (hht : ∀ q ∈ ps, q.2.ht < N)
    (hh : A.handled = none) (hdp : A.depth + 3 * N + 20 < recursionLimit) (hu : A.units + 20 * N + 100 < cLine)
    (hQ : ∀ v h' tk fs, s.heap.StaysIn h' → Fresh s.heap h' fs → IsEx w.params (S.more fs) v (mk k (ps.map (·.2))) → Q v { s with heap := h', toks := tk }) :
    wpAny (model prog w) A (call (.ref ka) (ps.map (·.1)) kw) Q E s :=
  opCall_c P X T hS hk hkw hb hn h2 hfl hf2 hht hh hdp hu fun v h' tk es fs st p so fr h => hQ v h' tk fs st fr (mk_of p so ▸ h)

theorem create_c {S : Facts} {x r n N : Nat} {k : Bool} {es : List Ex} {ps : List (Value × Ex)} (P : ProgOk prog) (X : (Mine.frag.heap_1 w.params).In s.heap) (T : TopRead p loose mg mb s.heap) (hS : S.In s.heap) (hx : IsEx w.params S (.ref x) (.op k es)) (hr : s.heap.get? r = some (listOf (ps.map (·.1)).toArray n))
    (hb : Bears w.params S ps) (hn : ps.length ≤ 8) (h2 : 2 ≤ ps.length) (hfl : (flat k (ps.map (·.2))).length ≤ 1000) (hf2 : 2 ≤ (flat k (ps.map (·.2))).length) (hht : ∀ q ∈ ps, q.2.ht < N)
    (hh : A.handled = none) (hdp : A.depth + 3 * N + 25 < recursionLimit) (hu : A.units + 20 * N + 120 < cLine)
    (hQ : ∀ v h' tk fs, s.heap.StaysIn h' → Fresh s.heap h' fs → IsEx w.params (S.more fs) v (mk k (ps.map (·.2))) → Q v { s with heap := h', toks := tk }) :
    wpAny (model prog w) A (call (.ref 794) [.ref x, .ref r] []) Q E s := by
  refine useCall (enter (binds := [("old_operation", .ref x), ("new_operands", .ref r), ("variable_name", .bool true)]) X T.nolimit (by omega) (by k_is) (by k_is) (kp_binds X (fun _ => rfl)) (locs rfl) ?_)
  intro L h₁ F N hL
  cases hx with | op g1 g2 g3 g4 h5 g6 =>
  have h5' := h5
  rename_i d l kd ar vs n' _ _ _ _ _ _ _ _ _
  cases h5 with | mk k1 k2 k3 k4 =>
  replace g1 := hS _ _ g1
  replace g2 := hS _ _ g2
  replace k1 := hS _ _ k1
  replace k2 := hS _ _ k2
  (try k_fold)
  k_steps
  refine methodCallStar ?_
  k_steps
  rename Fr _ _ _ _ => F'
  refine callSK (P := fun h => ∃ dx od, InstAt h kd (instObj 415 dx) 415 od) (fun h ⟨_, _, I⟩ => kco_keeper I rfl) ?_
  k_steps
  refine starList (F'.keep _ _ hr) (by rw [List.length_map]; omega) ?_
  intro h₂ st₂
  have st₃ : s.heap.StaysIn h₂ := fun b o e => st₂ b o (F'.keep b o e)
  refine ⟨⟨_, _, instAt (st₃ _ _ k1) (st₃ _ _ k2)⟩, ?_⟩
  rw [List.nil_append]
  refine mk_c (N := N) (ps := ps) (k := k) P (X.keeps st₃) (T.keeps st₃) (fun a o h => st₃ a o (hS a o h)) h5' (.inr rfl) hb hn h2 hfl hf2 hht hh (by simp only [depth_deeper]; omega) (by simp only [units_deeper]; omega) ?_
  intro v h₄ tk₄ fs st₄ fr hv
  k_steps
  exact hQ _ _ _ fs (fun b o e => st₄ b o (st₃ b o e)) (fun p hp => ⟨(fr p hp).1, noneOf st₃ (fr p hp).2⟩) hv
end Mine
namespace Mine
open PySem PySem.W PySem.Calls PyProof.Rows
/-- what a name stands for: an expression, or a row of them -/
inductive SubVal (P : Params) (S : Facts) : Value → List Ex → Prop
  | one {v : Value} {e : Ex} (h : IsEx P S v e) : SubVal P S v [e]
  | row {a : Addr} {n : Nat} {vs : List Value} {es : List Ex} (h : S a (listOf vs.toArray n)) (hs : IsExs P S vs es) (hn : vs.length ≤ 1000) : SubVal P S (.ref a) es
theorem SubVal.mono {P : Params} {S S' : Facts} {v : Value} {es : List Ex} (h : SubVal P S v es) (hs : S.sub S') : SubVal P S' v es := by
  cases h with
  | one h => exact .one (h.mono hs)
  | row a b c => exact .row (hs _ _ a) (b.mono hs) c
section
variable {prog : Program} {w : World} {A : Around} {E : Value → Shared → Prop} {s : Shared} {h₀ : Heap} {L sd : Addr} {m : Str → Option Value} {t1 t2 t : Tok} {vx vy : Value}
theorem sdIn {oS : Obj} {Q : Value → Shared → Prop} {x : Str} (F : Fr h₀ L s.heap m) (hd : h₀.get? sd = some oS) (ho : oS.IsDictOf (strKind prog w) [("x", vx), ("y", vy)]) (lo : (sd == sysModules) = false) (hx : x = "x" ∨ x = "y") (h : ∀ k, Q (.bool true) { s with toks := k }) :
    wpAny (model prog w) A (compareOp .In (.str x t) (.ref sd)) Q E s := by
  have d : s.heap.DictOf (strKind prog w) sd [("x", vx), ("y", vy)] := Heap.dictOf_iff.mpr ⟨_, F.keep _ _ hd, ho⟩
  rcases hx with rfl | rfl
  · refine wpAny_in_of (knd := strKind prog w) (strKind_is _ _ _ _) lo d.mapOf ?_
    have e : (valueAt [(("x" : Str), vx), ("y", vy)] "x").isSome = true := by simp [valueAt]
    rw [e]
    exact h _
  · refine wpAny_in_of (knd := strKind prog w) (strKind_is _ _ _ _) lo d.mapOf ?_
    have e : (valueAt [(("x" : Str), vx), ("y", vy)] "y").isSome = true := by simp [valueAt]
    rw [e]
    exact h _
theorem sdItem {oS : Obj} {value slice : PySem.Expr} {Q : Value → Shared → Prop} {x : Str} {v : Value} (F : Fr h₀ L s.heap m) (hd : h₀.get? sd = some oS) (ho : oS.IsDictOf (strKind prog w) [("x", vx), ("y", vy)]) (hx : (x = "x" ∧ v = vx) ∨ (x = "y" ∧ v = vy)) (h : ∀ k, Q v { s with toks := k })
    (hs : subscripted slice false (.ref sd) (.str x t) = operate [.ref sd, .str x t] (getItem (.ref sd) (.str x t)) := by with_unfolding_all rfl) : wpAny (model prog w) A (subscriptTail value slice (.ref sd) (.str x t)) Q E s := by
  have d : s.heap.DictOf (strKind prog w) sd [("x", vx), ("y", vy)] := Heap.dictOf_iff.mpr ⟨_, F.keep _ _ hd, ho⟩
  refine tail_any d.typeIs slot_dict_getitem.lookup (wpAny_getItem_of (v := v) (knd := strKind prog w) (strKind_is _ _ _ _) d.mapOf ?_ (h _)) hs
  rcases hx with ⟨rfl, rfl⟩ | ⟨rfl, rfl⟩
  · simp [valueAt]
  · simp [valueAt, show ¬ (("x" : Str) = "y") by decide]
end
local macro_rules | `(tactic| k_inst) => `(tactic| (refine' instBase ?F ?h1 ?h2; (case F => k_asm); (case h1 => assumption); (case h2 => assumption)))
local macro_rules | `(tactic| k_room) => `(tactic| ((try simp only [depth_under_make, depth_under_kw, depth_in1, depth_deeper, depth_caller]); omega))
local macro_rules | `(tactic| k_units) => `(tactic| ((try simp only [units_in1, units_deeper, Around.mark_units, units_caller]); omega))
local macro_rules | `(tactic| walk_at "exec For") => `(tactic| (k_here; refine Hold.mk ?_))
local macro_rules | `(tactic| walk_at "truthy str") => `(tactic| (k_here; (with_reducible show wpAny _ _ (PySem.truthy (Value.str (Leaf.nm _) _)) _ _ _); refine truthy_nm ?_; intro _))
local macro_rules | `(tactic| walk_at "call builtin:len") => `(tactic| (k_here; (with_reducible show wpAny _ _ (call (Value.builtin "len") [Value.ref _] []) _ _ _); refine' lenB ?k1 ?k2 ?k3 ?_; (case k1 => k_asm); (case k2 => assumption); (case k3 => assumption); intro t' k'))
local macro_rules | `(tactic| walk_at "call type:zip") => `(tactic| (k_here; refine Hold.mk ?_))
local macro_rules | `(tactic| walk_at "compareOp Lt ref") => `(tactic| (k_here; (with_reducible show wpAny _ _ (compareOp CmpOp.Lt (Value.ref _) (Value.ref _)) _ _ _); refine Hold.mk ?_))
local macro_rules | `(tactic| walk_at "exec For Name Call cons nil") => `(tactic| (k_here; refine Hold.mk ?_))
local macro_rules | `(tactic| walk_at "exec For Name Name cons nil") => `(tactic| (k_here; refine Hold.mk ?_))
local macro_rules | `(tactic| walk_at "exec For Name Attribute cons nil") => `(tactic| (k_here; refine Hold.mk ?_))
local macro_rules | `(tactic| walk_at "exec For Name Subscript cons nil") => `(tactic| (k_here; refine Hold.mk ?_))
local macro_rules | `(tactic| walk_at "exec For Tuple Call cons nil") => `(tactic| (k_here; refine Hold.mk ?_))
local macro_rules | `(tactic| walk_at "exec For Name Tuple cons nil") => `(tactic| (k_here; refine Hold.mk ?_))
local macro_rules | `(tactic| walk_at "exec For Name Call") => `(tactic| (k_here; refine Hold.mk ?_))
local macro_rules | `(tactic| walk_at "exec For Name Name") => `(tactic| (k_here; refine Hold.mk ?_))
local macro_rules | `(tactic| walk_at "exec For Tuple Call") => `(tactic| (k_here; refine Hold.mk ?_))
local macro_rules | `(tactic| walk_at "exec While Compare cons nil") => `(tactic| (k_here; refine Hold.mk ?_))
local macro_rules | `(tactic| walk_at "exec While BoolOp cons nil") => `(tactic| (k_here; refine Hold.mk ?_))
local macro_rules | `(tactic| walk_at "exec While Compare") => `(tactic| (k_here; refine Hold.mk ?_))
local macro_rules | `(tactic| walk_at "exec While BoolOp") => `(tactic| (k_here; refine Hold.mk ?_))
local macro_rules | `(tactic| k_inst) => `(tactic| (first | (refine' instBase ?F ?h1 ?h2; (case F => k_asm); (case h1 => assumption); (case h2 => assumption)) | (refine' instBL ?F ?N ?h1 ?h2; (case F => k_asm); (case N => k_asm); (case h1 => assumption); (case h2 => k_mem))))
local macro_rules | `(tactic| walk_at "wpAt") => `(tactic| (dsimp only; ks_step "execs cons"; refine ks_wpAt_execs_cons ?_))
local macro_rules | `(tactic| walk_at "wpAt") => `(tactic| (ks_step "execs cons"; refine ks_wpAt_execs_cons ?_))
local macro_rules | `(tactic| walk_at "wpAt") => `(tactic| (ks_step "exec Expr"; with_unfolding_all refine ks_wpAt_Expr_any ?_))
local macro_rules | `(tactic| walk_at "wpAt") => `(tactic| (ks_step "exec If"; with_unfolding_all refine ks_wpAt_If ?_))
local macro_rules | `(tactic| walk_at "wpAt") => `(tactic| (ks_step "eval Call"; with_unfolding_all refine ks_wpAt_MethodCall ?_))
local macro_rules | `(tactic| walk_at "wpAt") => `(tactic| (ks_step "attributeBase Call"; k_here; k_dflt (with_unfolding_all refine ksN (by k_asm) (by k_asm) (by k_asm) (by k_asm) (by k_is) (by rfl) (by rfl) (by k_inst) (by k_is) (by rfl) (ProgOk.file (by assumption)) (by k_is) (by k_is) (by k_is) (by k_is) (by decide) (by rfl) (by rfl) (by rfl) (by rfl) (ProgOk.sup (by assumption)) (by first | boot_by_name | rfl | kernel_rfl) ?_; intro so' h' F' N' l1; (try k_lt l1))))
local macro_rules | `(tactic| walk_at "call ref") => `(tactic| (k_here; k_dflt (with_reducible show wpAny _ _ (call (Value.ref _) [_] []) _ _ _); refine Hold.mk ?_))
local macro_rules | `(tactic| walk_at "compareOp In str ref") => `(tactic| (k_here; refine Hold.mk ?_))
local macro_rules | `(tactic| walk_at "subscriptTail") => `(tactic| (k_here; (with_reducible show wpAny _ _ (subscriptTail _ _ (Value.ref _) (Value.str _ _)) _ _ _); refine Hold.mk ?_))
local macro_rules | `(tactic| walk_at "subscriptTail Name Constant ref int") => `(tactic| (k_here; (with_reducible show wpAny _ _ (subscriptTail _ _ (Value.ref _) (Value.str _ _)) _ _ _); refine Hold.mk ?_))
local macro_rules | `(tactic| walk_at "subscriptTail Name BinOp ref int") => `(tactic| (k_here; (with_reducible show wpAny _ _ (subscriptTail _ _ (Value.ref _) (Value.str _ _)) _ _ _); refine Hold.mk ?_))
local macro_rules | `(tactic| walk_at "subscriptTail Name Name ref int") => `(tactic| (k_here; (with_reducible show wpAny _ _ (subscriptTail _ _ (Value.ref _) (Value.str _ _)) _ _ _); refine Hold.mk ?_))
local macro_rules | `(tactic| walk_at "subscriptTail Call Name cons nil Constant ref int") => `(tactic| (k_here; (with_reducible show wpAny _ _ (subscriptTail _ _ (Value.ref _) (Value.str _ _)) _ _ _); refine Hold.mk ?_))
local macro_rules | `(tactic| walk_at "subscriptTail Attribute Name Constant ref int") => `(tactic| (k_here; (with_reducible show wpAny _ _ (subscriptTail _ _ (Value.ref _) (Value.str _ _)) _ _ _); refine Hold.mk ?_))
local macro_rules | `(tactic| walk_at "subscriptTail Constant str BinOp str int") => `(tactic| (k_here; (with_reducible show wpAny _ _ (subscriptTail _ _ (Value.ref _) (Value.str _ _)) _ _ _); refine Hold.mk ?_))
local macro_rules | `(tactic| walk_at "subscriptTail Constant str Name str int") => `(tactic| (k_here; (with_reducible show wpAny _ _ (subscriptTail _ _ (Value.ref _) (Value.str _ _)) _ _ _); refine Hold.mk ?_))
local macro_rules | `(tactic| walk_at "subscriptTail Name Attribute ref str") => `(tactic| (k_here; (with_reducible show wpAny _ _ (subscriptTail _ _ (Value.ref _) (Value.str _ _)) _ _ _); refine Hold.mk ?_))
local macro_rules | `(tactic| walk_at "subscriptTail Name Subscript ref str") => `(tactic| (k_here; (with_reducible show wpAny _ _ (subscriptTail _ _ (Value.ref _) (Value.str _ _)) _ _ _); refine Hold.mk ?_))
set_option maxRecDepth 100000
set_option maxHeartbeats 4000000
/-- the contract of _substitute -/
def SubC (w : World) (σ : Leaf → List Ex) (N : Nat) (e : Ex) (d u : Nat) : Prop := ∀ ⦃prog : Program⦄ ⦃A : Around⦄ ⦃s : Shared⦄ ⦃p : Program⦄ ⦃loose : List Str⦄ ⦃mg mb : Str → Option Value⦄ ⦃Q E : Value → Shared → Prop⦄ ⦃S : Facts⦄ ⦃v vx vy : Value⦄ ⦃sd : Addr⦄,
  ProgOk prog → (Mine.frag.heap_1 w.params).In s.heap → TopRead p loose mg mb s.heap → A.handled = none → A.depth + d < recursionLimit → A.units + u < cLine → S.In s.heap → IsEx w.params S v e → OkS σ N e →
  (∃ o, S sd o ∧ o.IsDictOf (strKind prog w) [("x", vx), ("y", vy)]) → (sd == sysModules) = false → SubVal w.params S vx (σ .x) → SubVal w.params S vy (σ .y) →
  (∀ a v' h' tk fs, s.heap.StaysIn h' → Fresh s.heap h' fs → s.heap.get? a = none → (∀ p ∈ fs, p.1 ≠ a) → h'.get? a = some (tupOf [v', .bool (hv e)]) → SubVal w.params (S.more fs) v' (sb σ e) → (∀ k l, e = .op k l → ∃ e', sb σ e = [e'] ∧ IsEx w.params (S.more fs) v' e') → Q (.ref a) { s with heap := h', toks := tk }) →
  wpAny (model prog w) A (call (.ref 813) [v, .ref sd] []) Q E s
variable {prog : Program} {w : World} {A : Around} {s : Shared} {p : Program} {loose : List Str} {mg mb : Str → Option Value} {Q E : Value → Shared → Prop}
theorem sub_leaf {σ : Leaf → List Ex} {N : Nat} (l : Leaf) : SubC w σ N (.leaf l) 1 20 := by
  intro prog A s p loose mg mb Q E S v vx vy sd P X T hh hd hu hS hv' hok hsd hlo hsx hsy hQ
  obtain ⟨x, rfl⟩ := hv'.isRef
  refine useCall (enter (binds := [("expression", .ref x), ("substitution", .ref sd)]) X T.nolimit (by omega) (by k_is) (by k_is) (BindsTo.of_eq rfl) (locs rfl) ?_)
  intro L h₁ F N₁ hL
  obtain ⟨oS, hsd1, hso⟩ := hsd
  have hsd' := hS _ _ hsd1
  have hv2 := hv'
  cases hv' with
  | sym hl g1 g2 =>
    replace g1 := hS _ _ g1
    replace g2 := hS _ _ g2
    k_steps
    rename Fr _ _ _ _ => F'
    rename News _ _ _ _ => N'
    have z := N' _ (.head _)
    refine hQ _ (.ref x) _ _ [] F'.keep (fun _ h => by cases h) z.2.2 (fun _ h => by cases h) (by have e : hv (.leaf l) = false := hl; rw [e]; exact z.1) ?_ (fun _ _ h => by cases h)
    rw [sb, if_neg (by rw [hl]; decide)]
    exact .one (hv2.mono (S.sub_more []))
  | var hl g1 g2 =>
    replace g1 := hS _ _ g1
    replace g2 := hS _ _ g2
    have es : sb σ (.leaf l) = σ l := by rw [sb, if_pos hl]
    have eh : hv (.leaf l) = true := hl
    rw [es, eh] at hQ
    have nmx : (Leaf.x.nm == (Str.empty : Str)) = false := by decide +kernel
    have nmy : (Leaf.y.nm == (Str.empty : Str)) = false := by decide +kernel
    cases l with
    | a => cases hl
    | b => cases hl
    | c => cases hl
    | x =>
      k_steps
      refine Hold.intro (sdIn (by k_asm) hsd' hso hlo (.inl rfl) fun k => ?_)
      k_steps
      refine Hold.intro (sdItem (v := vx) (by k_asm) hsd' hso (.inl ⟨rfl, rfl⟩) fun k => ?_)
      k_steps
      rename Fr _ _ _ _ => F'
      rename News _ _ _ _ => N'
      have z := N' _ (.head _)
      exact hQ _ vx _ _ [] F'.keep (fun _ h => by cases h) z.2.2 (fun _ h => by cases h) z.1 (hsx.mono (S.sub_more [])) (fun _ _ h => by cases h)
    | y =>
      k_steps
      refine Hold.intro (sdIn (by k_asm) hsd' hso hlo (.inr rfl) fun k => ?_)
      k_steps
      refine Hold.intro (sdItem (v := vy) (by k_asm) hsd' hso (.inr ⟨rfl, rfl⟩) fun k => ?_)
      k_steps
      rename Fr _ _ _ _ => F'
      rename News _ _ _ _ => N'
      have z := N' _ (.head _)
      exact hQ _ vy _ _ [] F'.keep (fun _ h => by cases h) z.2.2 (fun _ h => by cases h) z.1 (hsy.mono (S.sub_more [])) (fun _ _ h => by cases h)
end Mine
namespace Mine
open PySem PySem.W PySem.Calls PyProof.Rows
theorem SubVal.look {P : Params} {S : Facts} {v : Value} {es : List Ex} (h : SubVal P S v es) :
    (∃ x C d od e, v = .ref x ∧ (C = 637 ∨ C = 741 ∨ C = 561) ∧ S x (instObj C d) ∧ S d od ∧ es = [e] ∧ IsEx P S (.ref x) e) ∨
    (∃ a n vs, v = .ref a ∧ S a (listOf vs.toArray n) ∧ IsExs P S vs es ∧ vs.length ≤ 1000) := by
  cases h with
  | one h =>
    have h' := h
    cases h with
    | sym _ a b => exact .inl ⟨_, _, _, _, _, rfl, .inl rfl, a, b, rfl, h'⟩
    | var _ a b => exact .inl ⟨_, _, _, _, _, rfl, .inr (.inl rfl), a, b, rfl, h'⟩
    | op a b _ _ _ _ => exact .inl ⟨_, _, _, _, _, rfl, .inr (.inr rfl), a, b, rfl, h'⟩
  | row a b c => exact .inr ⟨_, _, _, rfl, a, b, c⟩
theorem moreAt {S : Facts} {h₀ h : Heap} {L : Addr} {m : Str → Option Value} {fs news : List (Addr × Obj)} {a : Addr} {o : Obj} (hS : S.In h₀) (F : Fr h₀ L h m) (N : News h₀ L h news) (hsub : ∀ p ∈ fs, p ∈ news) (h1 : S.more fs a o) : h.get? a = some o := by
  rcases h1 with h1 | h1
  · exact F.keep _ _ (hS _ _ h1)
  · exact (N _ (hsub _ h1)).1
theorem instMore {S : Facts} {h₀ h : Heap} {L x C dx : Addr} {m : Str → Option Value} {fs news : List (Addr × Obj)} {od : Obj} (hS : S.In h₀) (F : Fr h₀ L h m) (N : News h₀ L h news) (hsub : ∀ p ∈ fs, p ∈ news) (h1 : S.more fs x (instObj C dx)) (h2 : S.more fs dx od) :
    InstAt h x (instObj C dx) C (some od) := ⟨moreAt hS F N hsub h1, rfl, rfl, moreAt hS F N hsub h2⟩
theorem kitBase {h₀ h : Heap} {L a : Addr} {m : Str → Option Value} {o : Obj} {T : String} (F : Fr h₀ L h m) (h1 : h₀.get? a = some o) (c : o.cls = .type T) : KitAt a T h := ⟨o, F.keep _ _ h1, c⟩
theorem kitMore {S : Facts} {h₀ h : Heap} {L a : Addr} {m : Str → Option Value} {fs news : List (Addr × Obj)} {o : Obj} {T : String} (hS : S.In h₀) (F : Fr h₀ L h m) (N : News h₀ L h news) (hsub : ∀ p ∈ fs, p ∈ news) (h1 : S.more fs a o) (c : o.cls = .type T) : KitAt a T h := ⟨o, moreAt hS F N hsub h1, c⟩
theorem allLt_get {d : Addr} (l : List (Addr × Obj)) (h : AllLt d l) : ∀ p ∈ l, p.1 < d := by
  induction l with
  | nil => intro p hp; cases hp
  | cons q r ih =>
    intro p hp
    cases hp with
    | head => exact h.1
    | tail _ hp => exact ih h.2 p hp
theorem mapAny {a b c d : Option Value} (y : Str) : (if y = ("any_replaced" : Str) then a else if y = ("new_operands" : Str) then b else if y = ("any_replaced" : Str) then c else d) = if y = ("new_operands" : Str) then b else if y = ("any_replaced" : Str) then a else d := by
  by_cases e1 : y = ("any_replaced" : Str)
  · subst e1; rfl
  · simp only [e1, if_false]
theorem mapThree {m m₀ : Str → Option Value} {a b c : Str} (h : ∀ y, y ≠ a → y ≠ b → y ≠ c → m y = m₀ y) : m = fun y => if y = c then m c else if y = b then m b else if y = a then m a else m₀ y := by
  funext y
  by_cases e3 : y = c
  · simp [e3]
  · by_cases e2 : y = b
    · subst e2; simp [e3]
    · by_cases e1 : y = a
      · subst e1; simp [e2, e3]
      · simp [e3, e2, e1, h y e1 e2 e3]
theorem newsAddL {h₀ h h' : Heap} {L : Addr} {m : Str → Option Value} {fs news : List (Addr × Obj)} (F : Fr h₀ L h m) (N : News h₀ L h news) (st : h.StaysIn h') (hf : Fresh h h' fs) : News h₀ L h' (fs ++ news) ∧ ∀ p ∈ fs, ∀ q ∈ news, p.1 ≠ q.1 := by
  refine ⟨fun p hp => ?_, fun p hp q hq e => ?_⟩
  · rcases List.mem_append.mp hp with hp | hp
    · obtain ⟨h1, h2⟩ := hf p hp
      refine ⟨h1, fun e => ?_, ?_⟩
      · obtain ⟨oL, es, ep, hL, _⟩ := F.ns
        rw [e, hL] at h2; cases h2
      · cases q : h₀.get? p.1 with
        | none => rfl
        | some o' => have := F.keep _ _ q; rw [h2] at this; cases this
    · exact newsStay N st _ hp
  · have := (N q hq).1
    rw [← e, (hf p hp).2] at this; cases this
local macro_rules | `(tactic| k_inst) => `(tactic| (refine' instBase ?F ?h1 ?h2; (case F => k_asm); (case h1 => assumption); (case h2 => assumption)))
local macro_rules | `(tactic| k_room) => `(tactic| ((try simp only [depth_under_make, depth_under_kw, depth_in1, depth_deeper, depth_caller]); omega))
local macro_rules | `(tactic| k_units) => `(tactic| ((try simp only [units_in1, units_deeper, Around.mark_units, units_caller]); omega))
local macro_rules | `(tactic| walk_at "exec For") => `(tactic| (k_here; refine Hold.mk ?_))
local macro_rules | `(tactic| walk_at "truthy str") => `(tactic| (k_here; (with_reducible show wpAny _ _ (PySem.truthy (Value.str (Leaf.nm _) _)) _ _ _); refine truthy_nm ?_; intro _))
local macro_rules | `(tactic| walk_at "call builtin:len") => `(tactic| (k_here; (with_reducible show wpAny _ _ (call (Value.builtin "len") [Value.ref _] []) _ _ _); refine' lenB ?k1 ?k2 ?k3 ?_; (case k1 => k_asm); (case k2 => assumption); (case k3 => assumption); intro t' k'))
local macro_rules | `(tactic| walk_at "call type:zip") => `(tactic| (k_here; refine Hold.mk ?_))
local macro_rules | `(tactic| walk_at "compareOp Lt ref") => `(tactic| (k_here; (with_reducible show wpAny _ _ (compareOp CmpOp.Lt (Value.ref _) (Value.ref _)) _ _ _); refine Hold.mk ?_))
local macro_rules | `(tactic| walk_at "exec For Name Call cons nil") => `(tactic| (k_here; refine Hold.mk ?_))
local macro_rules | `(tactic| walk_at "exec For Name Name cons nil") => `(tactic| (k_here; refine Hold.mk ?_))
local macro_rules | `(tactic| walk_at "exec For Name Attribute cons nil") => `(tactic| (k_here; refine Hold.mk ?_))
local macro_rules | `(tactic| walk_at "exec For Name Subscript cons nil") => `(tactic| (k_here; refine Hold.mk ?_))
local macro_rules | `(tactic| walk_at "exec For Tuple Call cons nil") => `(tactic| (k_here; refine Hold.mk ?_))
local macro_rules | `(tactic| walk_at "exec For Name Tuple cons nil") => `(tactic| (k_here; refine Hold.mk ?_))
local macro_rules | `(tactic| walk_at "exec For Name Call") => `(tactic| (k_here; refine Hold.mk ?_))
local macro_rules | `(tactic| walk_at "exec For Name Name") => `(tactic| (k_here; refine Hold.mk ?_))
local macro_rules | `(tactic| walk_at "exec For Tuple Call") => `(tactic| (k_here; refine Hold.mk ?_))
local macro_rules | `(tactic| walk_at "exec While Compare cons nil") => `(tactic| (k_here; refine Hold.mk ?_))
local macro_rules | `(tactic| walk_at "exec While BoolOp cons nil") => `(tactic| (k_here; refine Hold.mk ?_))
local macro_rules | `(tactic| walk_at "exec While Compare") => `(tactic| (k_here; refine Hold.mk ?_))
local macro_rules | `(tactic| walk_at "exec While BoolOp") => `(tactic| (k_here; refine Hold.mk ?_))
local macro_rules | `(tactic| k_inst) => `(tactic| (first | (refine' instBase ?F ?h1 ?h2; (case F => k_asm); (case h1 => assumption); (case h2 => assumption)) | (refine' instBL ?F ?N ?h1 ?h2; (case F => k_asm); (case N => k_asm); (case h1 => assumption); (case h2 => k_mem))))
local macro_rules | `(tactic| walk_at "wpAt") => `(tactic| (dsimp only; ks_step "execs cons"; refine ks_wpAt_execs_cons ?_))
local macro_rules | `(tactic| walk_at "wpAt") => `(tactic| (ks_step "execs cons"; refine ks_wpAt_execs_cons ?_))
local macro_rules | `(tactic| walk_at "wpAt") => `(tactic| (ks_step "exec Expr"; with_unfolding_all refine ks_wpAt_Expr_any ?_))
local macro_rules | `(tactic| walk_at "wpAt") => `(tactic| (ks_step "exec If"; with_unfolding_all refine ks_wpAt_If ?_))
local macro_rules | `(tactic| walk_at "wpAt") => `(tactic| (ks_step "eval Call"; with_unfolding_all refine ks_wpAt_MethodCall ?_))
local macro_rules | `(tactic| walk_at "wpAt") => `(tactic| (ks_step "attributeBase Call"; k_here; k_dflt (with_unfolding_all refine ksN (by k_asm) (by k_asm) (by k_asm) (by k_asm) (by k_is) (by rfl) (by rfl) (by k_inst) (by k_is) (by rfl) (ProgOk.file (by assumption)) (by k_is) (by k_is) (by k_is) (by k_is) (by decide) (by rfl) (by rfl) (by rfl) (by rfl) (ProgOk.sup (by assumption)) (by first | boot_by_name | rfl | kernel_rfl) ?_; intro so' h' F' N' l1; (try k_lt l1))))
local macro_rules | `(tactic| walk_at "call ref") => `(tactic| (k_here; k_dflt (with_reducible show wpAny _ _ (call (Value.ref _) [_] []) _ _ _); refine Hold.mk ?_))
local macro_rules | `(tactic| walk_at "call ref") => `(tactic| (k_here; (first | (with_reducible show wpAny _ _ (call (Value.ref 801) _ _) _ _ _) | (with_reducible show wpAny _ _ (call (Value.ref 813) _ _) _ _ _) | (with_reducible show wpAny _ _ (call (Value.ref 794) _ _) _ _ _)); refine Hold.mk ?_))
local macro_rules | `(tactic| walk_at "assign Tuple") => `(tactic| (k_here; refine Hold.mk ?_))
local macro_rules | `(tactic| kit_at) => `(tactic| first | (refine' kitAt_N ?N ?m ?c; (case N => k_asm); (case m => k_mem); (case c => first | with_reducible rfl | rfl)) | (refine' kitMore ?S ?F ?N ?hs ?h1 ?c; (case h1 => assumption); (case S => assumption); (case F => k_asm); (case N => k_asm); (case hs => intro p hp; simp [hp]); (case c => rfl)))
local macro_rules | `(tactic| walk_at "call builtin:list.append") => `(tactic| (k_here; refine Hold.mk ?_))
local macro_rules | `(tactic| walk_at "call builtin:list.extend") => `(tactic| (k_here; refine Hold.mk ?_))
local macro_rules | `(tactic| k_inst) => `(tactic| first | (refine' instBase ?F ?h1 ?h2; (case F => k_asm); (case h1 => assumption); (case h2 => assumption)) | (refine' instBL ?F ?N ?h1 ?h2; (case F => k_asm); (case N => k_asm); (case h1 => assumption); (case h2 => k_mem)) | (refine' instMore ?S ?F ?N ?hs ?h1 ?h2; (case h1 => assumption); (case h2 => assumption); (case S => assumption); (case F => k_asm); (case N => k_asm); (case hs => intro p hp; simp [hp])))
set_option maxRecDepth 100000
set_option maxHeartbeats 4000000
variable {prog : Program} {w : World} {A : Around} {s : Shared} {p : Program} {loose : List Str} {mg mb : Str → Option Value} {Q E : Value → Shared → Prop}
theorem opiter_c {x d l kd ar : Addr} {k : Bool} {t1 t2 t3 t4 t5 t6 t7 t8 t9 : Tok} (X : (Mine.frag.heap_1 w.params).In s.heap) (T : TopRead p loose mg mb s.heap) (hd : A.depth < recursionLimit) (g1 : s.heap.get? x = some (instObj 561 d))
    (g2 : s.heap.get? d = some (dictOf [en w.params "variable_name" t1 .none, en w.params "head" t2 (.ref kd), en w.params "name" t3 (.str (kdName k) t4), en w.params "arity" t5 (.ref ar), en w.params "associative" t6 (.bool true), en w.params "commutative" t7 (.bool true), en w.params "one_identity" t8 (.bool false), en w.params "operands" t9 (.ref l)] 8))
    (hQ : ∀ h' tk, s.heap.StaysIn h' → Q (.ref l) { s with heap := h', toks := tk }) : wpAny (model prog w) A (call (.ref 801) [.ref x] []) Q E s := by
  refine useCall (enter (binds := [("operation", .ref x)]) X T.nolimit hd (by k_is) (by k_is) (BindsTo.of_eq rfl) (locs rfl) ?_)
  intro L h₁ F N hL
  (try k_fold)
  k_steps
  exact hQ _ _ (Fr.keep (by k_asm))
theorem sub_op {σ : Leaf → List Ex} {N : Nat} {k : Bool} {es : List Ex} {d u : Nat} (ih : ∀ e ∈ es, SubC w σ N e d u) : SubC w σ N (.op k es) (d + 3 * N + 30) (u + 20 * N + 140) := by
  intro prog A s p loose mg mb Q E S v vx vy sd P X T hh hd hu hS hv' hok hsd hlo hsx hsy hQ
  obtain ⟨x, rfl⟩ := hv'.isRef
  cases hok with | op _ _ hoks h8 h2 hf hf2 hN =>
  refine useCall (enter (binds := [("expression", .ref x), ("substitution", .ref sd)]) X T.nolimit (by omega) (by k_is) (by k_is) (BindsTo.of_eq rfl) (locs rfl) ?_)
  intro L h₁ F N₁ hL
  obtain ⟨oS, hsd1, hso⟩ := id hsd
  have hsd' := hS _ _ hsd1
  have hv2 := hv'
  cases hv' with | op g1 g2 g3 g4 g5 g6 =>
  rename_i dx l kd ar vs nl _ _ _ _ _ _ _ _ _
  have g1' := hS _ _ g1
  have g2' := hS _ _ g2
  have g3' := hS _ _ g3
  (try k_fold)
  k_steps
  rename Fr _ _ _ _ => F'
  rename News _ _ _ _ => N'
  rename_i dl _ _ _
  refine Hold.intro ?_
  refine forList (h₀ := s.heap) (L := L) (l := l) (items := vs.toArray) (fun i m news => ∃ (qs : List (Value × Ex)) (n' : Nat) (fs : List (Addr × Obj)), news = (dl, listOf (qs.map (·.1)).toArray n') :: fs ∧ (∀ p ∈ fs, p.1 ≠ dl) ∧ Bears w.params (S.more fs) qs ∧ qs.map (·.2) = sbL σ (es.take i) ∧
      ∀ y, y ≠ ("operand" : Str) → y ≠ ("result" : Str) → y ≠ ("replaced" : Str) → m y = (if y = ("new_operands" : Str) then some (.ref dl) else if y = ("any_replaced" : Str) then some (.bool (hvL (es.take i))) else List.lookup y [(("expression" : Str), Value.ref x), (("substitution" : Str), Value.ref sd)].reverse)) ?_ ?_ ?_ ?_ hh (by with_unfolding_all rfl) (by with_unfolding_all rfl)
  · k_steps
    refine Hold.intro (opiter_c (X.keeps F'.keep) (T.keeps F'.keep) (by simp only [depth_deeper]; omega) (F'.keep _ _ g1') (F'.keep _ _ g2') ?_)
    intro h₂ tk₂ st₂
    exact ⟨rfl, _, _, _, _, rfl, frStay F' st₂, newsStay N' st₂, [], 0, [], rfl, (fun _ h => by cases h), (fun _ h => by cases h), rfl, fun _ _ _ _ => rfl⟩
  · rintro i m news h ⟨qs, n', fs, rfl, _⟩ F N
    exact ⟨_, F.keep _ _ g3', rfl, _, rfl⟩
  · rintro i v m news it o h tk hvi ⟨qs, n', fs, rfl, hfd, hbs, hqs, hm⟩ hne hitr F N₂
    rw [mapThree hm] at F
    obtain ⟨e, he, hve⟩ := g6.get (i := i) (by simpa using hvi)
    have hmem := List.mem_of_getElem? he
    (try k_fold)
    k_steps
    refine Hold.intro (ih e hmem P (X.keeps F.keep) (T.keeps F.keep) hh (by simp only [depth_deeper]; omega) (by simp only [units_deeper]; omega) (fun a o h => F.keep a o (hS a o h)) hve (hoks e hmem) hsd hlo hsx hsy ?_)
    intro ta v' h₂ tk₂ fs' st₂ fr₂ hta0 htan hta hsv hsv0
    clear hsv0
    obtain ⟨F₃, N₃, nt₃⟩ := newsAdd F N₂ st₂ hta0 hta
    obtain ⟨N₄, nf₄⟩ := newsAddL F N₂ st₂ fr₂
    have hdt : ta ≠ dl := (nt₃ (dl, _) (.tail _ (.head _))).symm
    have hit : it ≠ dl := (hne _ (.head _)).symm
    have hta2 : ta ≠ it := (nt₃ (it, _) (.head _)).symm
    have N₆ : News s.heap L h₂ ((ta, tupOf [v', .bool (hv e)]) :: (it, o) :: (dl, listOf (qs.map (·.1)).toArray n') :: (fs' ++ fs)) := fun p hp => by
      rcases List.mem_cons.mp hp with rfl | hp
      · exact N₃ _ (.head _)
      · refine N₄ p ?_
        simp only [List.mem_cons, List.mem_append] at hp ⊢
        rcases hp with h | h | h | h <;> simp [h]
    have hfd' : ∀ p ∈ fs' ++ fs, p.1 ≠ dl := fun p hp => by
      rcases List.mem_append.mp hp with h | h
      · exact nf₄ p h (dl, _) (.tail _ (.head _))
      · exact hfd p h
    have hfi : ∀ p ∈ fs' ++ fs, p.1 ≠ it := fun p hp => by
      rcases List.mem_append.mp hp with h | h
      · exact nf₄ p h (it, _) (.head _)
      · exact hne p (.tail _ h)
    have hlen : qs.length + (sb σ e).length ≤ 8 := by
      have e1 := congrArg List.length hqs
      have e2 := sbL_take_len σ es (i + 1)
      rw [sbL_take σ he, List.length_append, ← e1, List.length_map] at e2
      omega
    have fin : ∀ {h'' : Heap} {tk'' n'' : Nat} {b : Bool} {zs : List (Value × Ex)} {m'' : Str → Option Value} {news'' : List (Addr × Obj)}, Fr s.heap L h'' m'' → News s.heap L h'' news'' → (∀ p ∈ (it, o) :: (dl, listOf (qs.map (·.1) ++ zs.map (·.1)).toArray n'') :: (fs' ++ fs), p ∈ news'') → Bears w.params (S.more fs') zs → zs.map (·.2) = sb σ e → b = (hvL (es.take i) || hv e) →
        (∀ y, y ≠ ("operand" : Str) → y ≠ ("result" : Str) → y ≠ ("replaced" : Str) → m'' y = (if y = ("new_operands" : Str) then some (.ref dl) else if y = ("any_replaced" : Str) then some (.bool b) else List.lookup y [(("expression" : Str), Value.ref x), (("substitution" : Str), Value.ref sd)].reverse)) →
        ∃ m' news' h' tk', ({ s with heap := h'', toks := tk'' } : Shared) = { s with heap := h', toks := tk' } ∧ Fr s.heap L h' m' ∧ News s.heap L h' ((it, o) :: news') ∧ (∀ p ∈ news', p.1 ≠ it) ∧ ∃ (qs : List (Value × Ex)) (n' : Nat) (fs : List (Addr × Obj)), news' = (dl, listOf (qs.map (·.1)).toArray n') :: fs ∧ (∀ p ∈ fs, p.1 ≠ dl) ∧ Bears w.params (S.more fs) qs ∧ qs.map (·.2) = sbL σ (es.take (i + 1)) ∧
          ∀ y, y ≠ ("operand" : Str) → y ≠ ("result" : Str) → y ≠ ("replaced" : Str) → m' y = (if y = ("new_operands" : Str) then some (.ref dl) else if y = ("any_replaced" : Str) then some (.bool (hvL (es.take (i + 1)))) else List.lookup y [(("expression" : Str), Value.ref x), (("substitution" : Str), Value.ref sd)].reverse) := by
      rintro h'' tk'' n'' b zs m'' news'' F'' N'' hsub hz1 hz2 rfl hm''
      refine ⟨m'', (dl, listOf (qs.map (·.1) ++ zs.map (·.1)).toArray n'') :: (fs' ++ fs), h'', tk'', rfl, F'', fun p hp => N'' p (hsub p hp), ?_, qs ++ zs, n'', fs' ++ fs, by rw [List.map_append], hfd', ?_, ?_, ?_⟩
      · intro p hp
        rcases List.mem_cons.mp hp with rfl | hp
        · exact hit.symm
        · exact hfi p hp
      · intro z hz
        rcases List.mem_append.mp hz with hz | hz
        · exact (hbs z hz).mono fun a o h => h.imp id fun h => List.mem_append_right _ h
        · exact (hz1 z hz).mono fun a o h => h.imp id fun h => List.mem_append_left _ h
      · rw [List.map_append, hqs, hz2, sbL_take σ he]
      · rw [hvL_take he]; exact hm''
    clear N₂ N₃ N₄ F
    k_steps
    refine Hold.intro (assignTwo (v1 := v') (v2 := .bool (hv e)) hh F₃ N₆ (.head _) (by with_unfolding_all rfl) (by with_unfolding_all rfl) (by with_unfolding_all rfl) ?_)
    intro h₅ tk₅ F₅ N₅
    clear F₃ N₆
    rcases hsv.look with ⟨r, C, dr, odr, e', rfl, hC, c1, c2, hse, hre⟩ | ⟨r, nr, vr, rfl, c1, hre, hlr⟩
    · cases hve2 : hv e with
      | true =>
        rw [hve2] at F₅ fin
        rcases hC with rfl | rfl | rfl
        · k_steps
          rename Fr _ _ _ _ => F₆
          rename News _ _ _ _ => N₇
          rename _ ∧ _ ∧ _ ∧ AllLt _ _ => lD
          refine Hold.intro (appB (own := [_, _, _]) (rest := fs' ++ fs) F₆ N₇ (List.forall_mem_cons.mpr ⟨Nat.ne_of_gt lD.2.2.1, List.forall_mem_cons.mpr ⟨hdt, List.forall_mem_cons.mpr ⟨hit, List.forall_mem_nil _⟩⟩⟩) hfd' (by rw [List.length_map]; omega) ?_)
          intro h₇ n₇ F₇ N₇
          k_steps
          exact fin (n'' := n₇) (b := true) (zs := [(.ref r, e')]) (by k_asm) (by k_asm) (by intro p hp; simp only [List.mem_cons, List.mem_append, List.map_cons, List.map_nil, List.cons_append, List.nil_append] at hp ⊢; rcases hp with h | h | h | h <;> simp [h]) (fun q hq => by rw [List.mem_singleton.mp hq]; exact hre) hse.symm (by simp) (fun y h1 h2 h3 => by first | (simp only [h1, h2, h3, if_false]; done) | (simp only [h1, h2, h3, if_false]; exact mapAny y))
        · k_steps
          rename Fr _ _ _ _ => F₆
          rename News _ _ _ _ => N₇
          rename _ ∧ _ ∧ _ ∧ AllLt _ _ => lD
          refine Hold.intro (appB (own := [_, _, _]) (rest := fs' ++ fs) F₆ N₇ (List.forall_mem_cons.mpr ⟨Nat.ne_of_gt lD.2.2.1, List.forall_mem_cons.mpr ⟨hdt, List.forall_mem_cons.mpr ⟨hit, List.forall_mem_nil _⟩⟩⟩) hfd' (by rw [List.length_map]; omega) ?_)
          intro h₇ n₇ F₇ N₇
          k_steps
          exact fin (n'' := n₇) (b := true) (zs := [(.ref r, e')]) (by k_asm) (by k_asm) (by intro p hp; simp only [List.mem_cons, List.mem_append, List.map_cons, List.map_nil, List.cons_append, List.nil_append] at hp ⊢; rcases hp with h | h | h | h <;> simp [h]) (fun q hq => by rw [List.mem_singleton.mp hq]; exact hre) hse.symm (by simp) (fun y h1 h2 h3 => by first | (simp only [h1, h2, h3, if_false]; done) | (simp only [h1, h2, h3, if_false]; exact mapAny y))
        · k_steps
          rename Fr _ _ _ _ => F₆
          rename News _ _ _ _ => N₇
          rename _ ∧ _ ∧ _ ∧ AllLt _ _ => lD
          refine Hold.intro (appB (own := [_, _, _]) (rest := fs' ++ fs) F₆ N₇ (List.forall_mem_cons.mpr ⟨Nat.ne_of_gt lD.2.2.1, List.forall_mem_cons.mpr ⟨hdt, List.forall_mem_cons.mpr ⟨hit, List.forall_mem_nil _⟩⟩⟩) hfd' (by rw [List.length_map]; omega) ?_)
          intro h₇ n₇ F₇ N₇
          k_steps
          exact fin (n'' := n₇) (b := true) (zs := [(.ref r, e')]) (by k_asm) (by k_asm) (by intro p hp; simp only [List.mem_cons, List.mem_append, List.map_cons, List.map_nil, List.cons_append, List.nil_append] at hp ⊢; rcases hp with h | h | h | h <;> simp [h]) (fun q hq => by rw [List.mem_singleton.mp hq]; exact hre) hse.symm (by simp) (fun y h1 h2 h3 => by first | (simp only [h1, h2, h3, if_false]; done) | (simp only [h1, h2, h3, if_false]; exact mapAny y))
      | false =>
        rw [hve2] at F₅ fin
        rcases hC with rfl | rfl | rfl
        · k_steps
          rename Fr _ _ _ _ => F₆
          rename News _ _ _ _ => N₇
          rename _ ∧ _ ∧ _ ∧ AllLt _ _ => lD
          refine Hold.intro (appB (own := [_, _, _]) (rest := fs' ++ fs) F₆ N₇ (List.forall_mem_cons.mpr ⟨Nat.ne_of_gt lD.2.2.1, List.forall_mem_cons.mpr ⟨hdt, List.forall_mem_cons.mpr ⟨hit, List.forall_mem_nil _⟩⟩⟩) hfd' (by rw [List.length_map]; omega) ?_)
          intro h₇ n₇ F₇ N₇
          k_steps
          exact fin (n'' := n₇) (b := hvL (es.take i)) (zs := [(.ref r, e')]) (by k_asm) (by k_asm) (by intro p hp; simp only [List.mem_cons, List.mem_append, List.map_cons, List.map_nil, List.cons_append, List.nil_append] at hp ⊢; rcases hp with h | h | h | h <;> simp [h]) (fun q hq => by rw [List.mem_singleton.mp hq]; exact hre) hse.symm (by simp) (fun y h1 h2 h3 => by first | (simp only [h1, h2, h3, if_false]; done) | (simp only [h1, h2, h3, if_false]; exact mapAny y))
        · k_steps
          rename Fr _ _ _ _ => F₆
          rename News _ _ _ _ => N₇
          rename _ ∧ _ ∧ _ ∧ AllLt _ _ => lD
          refine Hold.intro (appB (own := [_, _, _]) (rest := fs' ++ fs) F₆ N₇ (List.forall_mem_cons.mpr ⟨Nat.ne_of_gt lD.2.2.1, List.forall_mem_cons.mpr ⟨hdt, List.forall_mem_cons.mpr ⟨hit, List.forall_mem_nil _⟩⟩⟩) hfd' (by rw [List.length_map]; omega) ?_)
          intro h₇ n₇ F₇ N₇
          k_steps
          exact fin (n'' := n₇) (b := hvL (es.take i)) (zs := [(.ref r, e')]) (by k_asm) (by k_asm) (by intro p hp; simp only [List.mem_cons, List.mem_append, List.map_cons, List.map_nil, List.cons_append, List.nil_append] at hp ⊢; rcases hp with h | h | h | h <;> simp [h]) (fun q hq => by rw [List.mem_singleton.mp hq]; exact hre) hse.symm (by simp) (fun y h1 h2 h3 => by first | (simp only [h1, h2, h3, if_false]; done) | (simp only [h1, h2, h3, if_false]; exact mapAny y))
        · k_steps
          rename Fr _ _ _ _ => F₆
          rename News _ _ _ _ => N₇
          rename _ ∧ _ ∧ _ ∧ AllLt _ _ => lD
          refine Hold.intro (appB (own := [_, _, _]) (rest := fs' ++ fs) F₆ N₇ (List.forall_mem_cons.mpr ⟨Nat.ne_of_gt lD.2.2.1, List.forall_mem_cons.mpr ⟨hdt, List.forall_mem_cons.mpr ⟨hit, List.forall_mem_nil _⟩⟩⟩) hfd' (by rw [List.length_map]; omega) ?_)
          intro h₇ n₇ F₇ N₇
          k_steps
          exact fin (n'' := n₇) (b := hvL (es.take i)) (zs := [(.ref r, e')]) (by k_asm) (by k_asm) (by intro p hp; simp only [List.mem_cons, List.mem_append, List.map_cons, List.map_nil, List.cons_append, List.nil_append] at hp ⊢; rcases hp with h | h | h | h <;> simp [h]) (fun q hq => by rw [List.mem_singleton.mp hq]; exact hre) hse.symm (by simp) (fun y h1 h2 h3 => by first | (simp only [h1, h2, h3, if_false]; done) | (simp only [h1, h2, h3, if_false]; exact mapAny y))
    · cases hve2 : hv e with
      | true =>
        rw [hve2] at F₅ fin
        k_steps
        rename Fr _ _ _ _ => F₆
        rename News _ _ _ _ => N₇
        rename _ ∧ _ ∧ _ ∧ AllLt _ _ => lD
        refine Hold.intro (extB (own := [_, _, _]) (rest := fs' ++ fs) F₆ N₇ (List.forall_mem_cons.mpr ⟨Nat.ne_of_gt lD.2.2.1, List.forall_mem_cons.mpr ⟨hdt, List.forall_mem_cons.mpr ⟨hit, List.forall_mem_nil _⟩⟩⟩) hfd' (moreAt hS (by k_asm) (by k_asm : News _ _ _ _) (by intro p hp; simp [hp]) c1) (by rw [List.length_map]; omega) ?_)
        intro h₇ n₇ F₇ N₇
        k_steps
        exact fin (n'' := n₇) (b := true) (zs := vr.zip (sb σ e)) (by k_asm) (by k_asm) (by rw [List.map_fst_zip (by rw [hre.length]; exact Nat.le_refl _)]; intro p hp; simp only [List.mem_cons, List.mem_append, List.cons_append, List.nil_append] at hp ⊢; rcases hp with h | h | h | h <;> simp [h]) hre.bears (List.map_snd_zip (by rw [hre.length]; exact Nat.le_refl _)) (by simp) (fun y h1 h2 h3 => by first | (simp only [h1, h2, h3, if_false]; done) | (simp only [h1, h2, h3, if_false]; exact mapAny y))
      | false =>
        rw [hve2] at F₅ fin
        k_steps
        rename Fr _ _ _ _ => F₆
        rename News _ _ _ _ => N₇
        rename _ ∧ _ ∧ _ ∧ AllLt _ _ => lD
        refine Hold.intro (extB (own := [_, _, _]) (rest := fs' ++ fs) F₆ N₇ (List.forall_mem_cons.mpr ⟨Nat.ne_of_gt lD.2.2.1, List.forall_mem_cons.mpr ⟨hdt, List.forall_mem_cons.mpr ⟨hit, List.forall_mem_nil _⟩⟩⟩) hfd' (moreAt hS (by k_asm) (by k_asm : News _ _ _ _) (by intro p hp; simp [hp]) c1) (by rw [List.length_map]; omega) ?_)
        intro h₇ n₇ F₇ N₇
        k_steps
        exact fin (n'' := n₇) (b := hvL (es.take i)) (zs := vr.zip (sb σ e)) (by k_asm) (by k_asm) (by rw [List.map_fst_zip (by rw [hre.length]; exact Nat.le_refl _)]; intro p hp; simp only [List.mem_cons, List.mem_append, List.cons_append, List.nil_append] at hp ⊢; rcases hp with h | h | h | h <;> simp [h]) hre.bears (List.map_snd_zip (by rw [hre.length]; exact Nat.le_refl _)) (by simp) (fun y h1 h2 h3 => by first | (simp only [h1, h2, h3, if_false]; done) | (simp only [h1, h2, h3, if_false]; exact mapAny y))
  · rintro m news h tk ⟨qs, n', fs, rfl, hfd, hbs, hqs, hm⟩ F N₂
    rw [mapThree hm] at F
    have hfull : es.take vs.toArray.size = es := List.take_of_length_le (by rw [List.size_toArray, g6.length]; exact Nat.le_refl _)
    rw [hfull] at hqs F
    cases hve : hvL es with
    | true =>
      rw [hve] at F
      k_steps
      rename Fr _ _ _ _ => F'
      rename News _ _ _ _ => N'
      have hin : (S.more fs).In _ := fun a o h => moreAt hS F' N' (fun p hp => .tail _ hp) h
      have hql : qs.length = (sbL σ es).length := by rw [← hqs, List.length_map]
      refine Hold.intro (create_c (S := S.more fs) (x := x) (r := dl) (n := n') (N := N) (k := k) (es := es) (ps := qs) P (X.keeps F'.keep) (T.keeps F'.keep) hin (hv2.mono (S.sub_more fs)) (N' _ (.head _)).1 hbs (by omega) (by omega) (by rw [hqs]; exact hf) (by rw [hqs]; exact hf2) (fun q hq => hN _ (hqs ▸ List.mem_map_of_mem hq)) hh (by simp only [depth_deeper]; omega) (by simp only [units_deeper]; omega) ?_)
      intro v h₄ tk₄ fs₄ st₄ fr₄ hvx
      obtain ⟨N₄, _⟩ := newsAddL F' N' st₄ fr₄
      have F₄ := frStay F' st₄
      have N₅ : News s.heap L h₄ ((dl, listOf (qs.map (·.1)).toArray n') :: (fs₄ ++ fs)) := fun p hp => N₄ p (by
        simp only [List.mem_cons, List.mem_append] at hp ⊢
        rcases hp with h | h | h <;> simp [h])
      clear N' F' N₄ hin
      k_steps
      rename Fr _ _ _ _ => F₆
      rename News _ _ _ _ => N₆
      have z := N₆ _ (.head _)
      refine hQ _ v _ _ (fs₄ ++ fs) F₆.keep (fun p hp => ?_) z.2.2 (fun p hp => ?_) (by have e : hv (.op k es) = true := hve; rw [e]; exact z.1) ?_ (fun _ _ _ => ?_)
      · have q := N₆ p (.tail _ (.tail _ hp))
        exact ⟨q.1, q.2.2⟩
      · exact Nat.ne_of_lt (by rename_i l1; exact allLt_get _ l1.2 p hp)
      · rw [sb, if_pos hve, ← hqs]
        exact .one (hvx.mono fun a o h => by
          rcases h with (h | h) | h
          · exact .inl h
          · exact .inr (List.mem_append_right _ h)
          · exact .inr (List.mem_append_left _ h))
      · rw [sb, if_pos hve, ← hqs]
        exact ⟨_, rfl, (hvx.mono fun a o h => by
          rcases h with (h | h) | h
          · exact .inl h
          · exact .inr (List.mem_append_right _ h)
          · exact .inr (List.mem_append_left _ h))⟩
    | false =>
      rw [hve] at F
      k_steps
      rename Fr _ _ _ _ => F₆
      rename News _ _ _ _ => N₆
      have z := N₆ _ (.head _)
      refine hQ _ (.ref x) _ _ [] F₆.keep (fun _ h => by cases h) z.2.2 (fun _ h => by cases h) (by have e : hv (.op k es) = false := hve; rw [e]; exact z.1) ?_ (fun _ _ _ => ?_)
      · rw [sb, if_neg (by rw [hve]; decide)]
        exact .one (hv2.mono (S.sub_more []))
      · rw [sb, if_neg (by rw [hve]; decide)]
        exact ⟨_, rfl, hv2.mono (S.sub_more [])⟩
end Mine
namespace Mine
open PySem PySem.W PySem.Calls PyProof.Rows
local macro_rules | `(tactic| k_inst) => `(tactic| (refine' instBase ?F ?h1 ?h2; (case F => k_asm); (case h1 => assumption); (case h2 => assumption)))
local macro_rules | `(tactic| k_room) => `(tactic| ((try simp only [depth_under_make, depth_under_kw, depth_in1, depth_deeper, depth_caller]); omega))
local macro_rules | `(tactic| k_units) => `(tactic| ((try simp only [units_in1, units_deeper, Around.mark_units, units_caller]); omega))
local macro_rules | `(tactic| walk_at "exec For") => `(tactic| (k_here; refine Hold.mk ?_))
local macro_rules | `(tactic| walk_at "truthy str") => `(tactic| (k_here; (with_reducible show wpAny _ _ (PySem.truthy (Value.str (Leaf.nm _) _)) _ _ _); refine truthy_nm ?_; intro _))
local macro_rules | `(tactic| walk_at "call builtin:len") => `(tactic| (k_here; (with_reducible show wpAny _ _ (call (Value.builtin "len") [Value.ref _] []) _ _ _); refine' lenB ?k1 ?k2 ?k3 ?_; (case k1 => k_asm); (case k2 => assumption); (case k3 => assumption); intro t' k'))
local macro_rules | `(tactic| walk_at "call type:zip") => `(tactic| (k_here; refine Hold.mk ?_))
local macro_rules | `(tactic| walk_at "compareOp Lt ref") => `(tactic| (k_here; (with_reducible show wpAny _ _ (compareOp CmpOp.Lt (Value.ref _) (Value.ref _)) _ _ _); refine Hold.mk ?_))
local macro_rules | `(tactic| walk_at "exec For Name Call cons nil") => `(tactic| (k_here; refine Hold.mk ?_))
local macro_rules | `(tactic| walk_at "exec For Name Name cons nil") => `(tactic| (k_here; refine Hold.mk ?_))
local macro_rules | `(tactic| walk_at "exec For Name Attribute cons nil") => `(tactic| (k_here; refine Hold.mk ?_))
local macro_rules | `(tactic| walk_at "exec For Name Subscript cons nil") => `(tactic| (k_here; refine Hold.mk ?_))
local macro_rules | `(tactic| walk_at "exec For Tuple Call cons nil") => `(tactic| (k_here; refine Hold.mk ?_))
local macro_rules | `(tactic| walk_at "exec For Name Tuple cons nil") => `(tactic| (k_here; refine Hold.mk ?_))
local macro_rules | `(tactic| walk_at "exec For Name Call") => `(tactic| (k_here; refine Hold.mk ?_))
local macro_rules | `(tactic| walk_at "exec For Name Name") => `(tactic| (k_here; refine Hold.mk ?_))
local macro_rules | `(tactic| walk_at "exec For Tuple Call") => `(tactic| (k_here; refine Hold.mk ?_))
local macro_rules | `(tactic| walk_at "exec While Compare cons nil") => `(tactic| (k_here; refine Hold.mk ?_))
local macro_rules | `(tactic| walk_at "exec While BoolOp cons nil") => `(tactic| (k_here; refine Hold.mk ?_))
local macro_rules | `(tactic| walk_at "exec While Compare") => `(tactic| (k_here; refine Hold.mk ?_))
local macro_rules | `(tactic| walk_at "exec While BoolOp") => `(tactic| (k_here; refine Hold.mk ?_))
local macro_rules | `(tactic| k_inst) => `(tactic| (first | (refine' instBase ?F ?h1 ?h2; (case F => k_asm); (case h1 => assumption); (case h2 => assumption)) | (refine' instBL ?F ?N ?h1 ?h2; (case F => k_asm); (case N => k_asm); (case h1 => assumption); (case h2 => k_mem))))
local macro_rules | `(tactic| walk_at "wpAt") => `(tactic| (dsimp only; ks_step "execs cons"; refine ks_wpAt_execs_cons ?_))
local macro_rules | `(tactic| walk_at "wpAt") => `(tactic| (ks_step "execs cons"; refine ks_wpAt_execs_cons ?_))
local macro_rules | `(tactic| walk_at "wpAt") => `(tactic| (ks_step "exec Expr"; with_unfolding_all refine ks_wpAt_Expr_any ?_))
local macro_rules | `(tactic| walk_at "wpAt") => `(tactic| (ks_step "exec If"; with_unfolding_all refine ks_wpAt_If ?_))
local macro_rules | `(tactic| walk_at "wpAt") => `(tactic| (ks_step "eval Call"; with_unfolding_all refine ks_wpAt_MethodCall ?_))
local macro_rules | `(tactic| walk_at "wpAt") => `(tactic| (ks_step "attributeBase Call"; k_here; k_dflt (with_unfolding_all refine ksN (by k_asm) (by k_asm) (by k_asm) (by k_asm) (by k_is) (by rfl) (by rfl) (by k_inst) (by k_is) (by rfl) (ProgOk.file (by assumption)) (by k_is) (by k_is) (by k_is) (by k_is) (by decide) (by rfl) (by rfl) (by rfl) (by rfl) (ProgOk.sup (by assumption)) (by first | boot_by_name | rfl | kernel_rfl) ?_; intro so' h' F' N' l1; (try k_lt l1))))
local macro_rules | `(tactic| walk_at "call ref") => `(tactic| (k_here; k_dflt (with_reducible show wpAny _ _ (call (Value.ref _) [_] []) _ _ _); refine Hold.mk ?_))
local macro_rules | `(tactic| walk_at "call ref") => `(tactic| (k_here; (with_reducible show wpAny _ _ (call (Value.ref 813) _ _) _ _ _); refine Hold.mk ?_))
local macro_rules | `(tactic| k_inst) => `(tactic| first | (refine' instBase ?F ?h1 ?h2; (case F => k_asm); (case h1 => assumption); (case h2 => assumption)) | (refine' instBL ?F ?N ?h1 ?h2; (case F => k_asm); (case N => k_asm); (case h1 => assumption); (case h2 => k_mem)))
set_option maxRecDepth 100000
set_option maxHeartbeats 4000000
theorem SubC.up {w : World} {σ : Leaf → List Ex} {N : Nat} {e : Ex} {d u d' u' : Nat} (h : SubC w σ N e d u) (hd : d ≤ d') (hu : u ≤ u') : SubC w σ N e d' u' := by
  intro prog A s p loose mg mb Q E S v vx vy sd P X T hh h1 h2 hS hv' hok hsd hlo hsx hsy hQ
  exact h P X T hh (by omega) (by omega) hS hv' hok hsd hlo hsx hsy hQ
theorem sub_ex (w : World) (σ : Leaf → List Ex) (N : Nat) : ∀ n, ∀ e : Ex, e.ht < n → SubC w σ N e (n * (3 * N + 31)) (n * (20 * N + 160))
  | 0, _, h => absurd h (Nat.not_lt_zero _)
  | n + 1, e, h => by
    cases e with
    | leaf l => exact (sub_leaf l).up (by rw [Nat.succ_mul n (3 * N + 31)]; omega) (by rw [Nat.succ_mul n (20 * N + 160)]; omega)
    | op k es =>
      rw [Ex.ht] at h
      refine SubC.up (sub_op (d := n * (3 * N + 31)) (u := n * (20 * N + 160)) fun e he => ?_) (by rw [Nat.succ_mul n (3 * N + 31)]; omega) (by rw [Nat.succ_mul n (20 * N + 160)]; omega)
      have := ht_mem he
      exact sub_ex w σ N n e (by omega)
variable {prog : Program} {w : World} {A : Around} {s : Shared} {p : Program} {loose : List Str} {mg mb : Str → Option Value} {Q E : Value → Shared → Prop}
theorem substitute_c {σ : Leaf → List Ex} {N n : Nat} {k : Bool} {es : List Ex} {S : Facts} {v vx vy : Value} {sd : Addr} (hn : (Ex.op k es).ht < n) (P : ProgOk prog) (X : (Mine.frag.heap_1 w.params).In s.heap) (T : TopRead p loose mg mb s.heap) (hh : A.handled = none)
    (hd : A.depth + n * (3 * N + 31) + 1 < recursionLimit) (hu : A.units + n * (20 * N + 160) + 10 < cLine) (hS : S.In s.heap) (hv' : IsEx w.params S v (.op k es)) (hok : OkS σ N (.op k es))
    (hsd : ∃ o, S sd o ∧ o.IsDictOf (strKind prog w) [("x", vx), ("y", vy)]) (hlo : (sd == sysModules) = false) (hsx : SubVal w.params S vx (σ .x)) (hsy : SubVal w.params S vy (σ .y))
    (hQ : ∀ v' h' tk fs e', s.heap.StaysIn h' → Fresh s.heap h' fs → sb σ (.op k es) = [e'] → IsEx w.params (S.more fs) v' e' → Q v' { s with heap := h', toks := tk }) :
    wpAny (model prog w) A (call (.ref 808) [v, .ref sd] []) Q E s := by
  obtain ⟨x, rfl⟩ := hv'.isRef
  refine useCall (enter (binds := [("expression", .ref x), ("substitution", .ref sd)]) X T.nolimit (by omega) (by k_is) (by k_is) (BindsTo.of_eq rfl) (locs rfl) ?_)
  intro L h₁ F N₁ hL
  have hv2 := hv'
  cases hv' with | op g1 g2 g3 g4 g5 g6 =>
  have g1' := hS _ _ g1
  have g2' := hS _ _ g2
  (try k_fold)
  k_steps
  rename Fr _ _ _ _ => F'
  rename News _ _ _ _ => N'
  refine Hold.intro (sub_ex w σ N n _ hn P (X.keeps F'.keep) (T.keeps F'.keep) hh (by simp only [depth_deeper]; omega) (by simp only [units_deeper]; omega) (fun a o h => F'.keep a o (hS a o h)) hv2 hok hsd hlo hsx hsy ?_)
  intro ta v' h₂ tk₂ fs' st₂ fr₂ hta0 htan hta hsv hso
  obtain ⟨e', hse, hsi⟩ := hso _ _ rfl
  clear hso
  obtain ⟨F₃, N₃, _⟩ := newsAdd F' N' st₂ hta0 hta
  have keep' := F'.keep
  clear F' N'
  k_steps
  exact hQ v' _ _ fs' e' (Fr.keep (by k_asm)) (fun p hp => ⟨(fr₂ p hp).1, noneOf keep' (fr₂ p hp).2⟩) hse hsi
end Mine
namespace Mine
open PySem PySem.W PySem.Calls PyProof.Rows
local macro_rules | `(tactic| k_inst) => `(tactic| (refine' instBase ?F ?h1 ?h2; (case F => k_asm); (case h1 => assumption); (case h2 => assumption)))
local macro_rules | `(tactic| k_room) => `(tactic| ((try simp only [depth_under_make, depth_under_kw, depth_in1, depth_deeper, depth_caller]); omega))
local macro_rules | `(tactic| k_units) => `(tactic| ((try simp only [units_in1, units_deeper, Around.mark_units, units_caller]); omega))
local macro_rules | `(tactic| walk_at "exec For") => `(tactic| (k_here; refine Hold.mk ?_))
local macro_rules | `(tactic| walk_at "truthy str") => `(tactic| (k_here; (with_reducible show wpAny _ _ (PySem.truthy (Value.str (Leaf.nm _) _)) _ _ _); refine truthy_nm ?_; intro _))
local macro_rules | `(tactic| walk_at "call builtin:len") => `(tactic| (k_here; (with_reducible show wpAny _ _ (call (Value.builtin "len") [Value.ref _] []) _ _ _); refine' lenB ?k1 ?k2 ?k3 ?_; (case k1 => k_asm); (case k2 => assumption); (case k3 => assumption); intro t' k'))
local macro_rules | `(tactic| walk_at "call type:zip") => `(tactic| (k_here; refine Hold.mk ?_))
local macro_rules | `(tactic| walk_at "compareOp Lt ref") => `(tactic| (k_here; (with_reducible show wpAny _ _ (compareOp CmpOp.Lt (Value.ref _) (Value.ref _)) _ _ _); refine Hold.mk ?_))
local macro_rules | `(tactic| walk_at "exec For Name Call cons nil") => `(tactic| (k_here; refine Hold.mk ?_))
local macro_rules | `(tactic| walk_at "exec For Name Name cons nil") => `(tactic| (k_here; refine Hold.mk ?_))
local macro_rules | `(tactic| walk_at "exec For Name Attribute cons nil") => `(tactic| (k_here; refine Hold.mk ?_))
local macro_rules | `(tactic| walk_at "exec For Name Subscript cons nil") => `(tactic| (k_here; refine Hold.mk ?_))
local macro_rules | `(tactic| walk_at "exec For Tuple Call cons nil") => `(tactic| (k_here; refine Hold.mk ?_))
local macro_rules | `(tactic| walk_at "exec For Name Tuple cons nil") => `(tactic| (k_here; refine Hold.mk ?_))
local macro_rules | `(tactic| walk_at "exec For Name Call") => `(tactic| (k_here; refine Hold.mk ?_))
local macro_rules | `(tactic| walk_at "exec For Name Name") => `(tactic| (k_here; refine Hold.mk ?_))
local macro_rules | `(tactic| walk_at "exec For Tuple Call") => `(tactic| (k_here; refine Hold.mk ?_))
local macro_rules | `(tactic| walk_at "exec While Compare cons nil") => `(tactic| (k_here; refine Hold.mk ?_))
local macro_rules | `(tactic| walk_at "exec While BoolOp cons nil") => `(tactic| (k_here; refine Hold.mk ?_))
local macro_rules | `(tactic| walk_at "exec While Compare") => `(tactic| (k_here; refine Hold.mk ?_))
local macro_rules | `(tactic| walk_at "exec While BoolOp") => `(tactic| (k_here; refine Hold.mk ?_))
local macro_rules | `(tactic| k_inst) => `(tactic| (first | (refine' instBase ?F ?h1 ?h2; (case F => k_asm); (case h1 => assumption); (case h2 => assumption)) | (refine' instBL ?F ?N ?h1 ?h2; (case F => k_asm); (case N => k_asm); (case h1 => assumption); (case h2 => k_mem))))
local macro_rules | `(tactic| walk_at "wpAt") => `(tactic| (dsimp only; ks_step "execs cons"; refine ks_wpAt_execs_cons ?_))
local macro_rules | `(tactic| walk_at "wpAt") => `(tactic| (ks_step "execs cons"; refine ks_wpAt_execs_cons ?_))
local macro_rules | `(tactic| walk_at "wpAt") => `(tactic| (ks_step "exec Expr"; with_unfolding_all refine ks_wpAt_Expr_any ?_))
local macro_rules | `(tactic| walk_at "wpAt") => `(tactic| (ks_step "exec If"; with_unfolding_all refine ks_wpAt_If ?_))
local macro_rules | `(tactic| walk_at "wpAt") => `(tactic| (ks_step "eval Call"; with_unfolding_all refine ks_wpAt_MethodCall ?_))
local macro_rules | `(tactic| walk_at "wpAt") => `(tactic| (ks_step "attributeBase Call"; k_here; k_dflt (with_unfolding_all refine ksN (by k_asm) (by k_asm) (by k_asm) (by k_asm) (by k_is) (by rfl) (by rfl) (by k_inst) (by k_is) (by rfl) (ProgOk.file (by assumption)) (by k_is) (by k_is) (by k_is) (by k_is) (by decide) (by rfl) (by rfl) (by rfl) (by rfl) (ProgOk.sup (by assumption)) (by first | boot_by_name | rfl | kernel_rfl) ?_; intro so' h' F' N' l1; (try k_lt l1))))
local macro_rules | `(tactic| walk_at "call ref") => `(tactic| (k_here; k_dflt (with_reducible show wpAny _ _ (call (Value.ref _) [_] []) _ _ _); refine Hold.mk ?_))
local macro_rules | `(tactic| walk_at "getMethod type:tuple") => `(tactic| (k_here; refine' method_type ?F ?X ?m (by decide +kernel) ?e ?h ?_; (case F => k_asm); (case X => k_asm); (case m => exact meta_tuple); (case e => k_dflt k_is); (case h => k_handed)))
local macro_rules | `(tactic| walk_at "call builtin:tuple.__new__") => `(tactic| (k_here; refine Hold.mk ?_))
set_option maxRecDepth 100000
set_option maxHeartbeats 1000000
variable {prog : Program} {w : World} {A : Around} {s : Shared} {p : Program} {loose : List Str} {mg mb : Str → Option Value} {Q E : Value → Shared → Prop}
theorem tupNew {T : Addr} {t : Tok} (X : (Mine.frag.heap_1 w.params).In s.heap) (hT : s.heap.get? T = some (tupOf [.int 2 t, .bool false]))
    (h : ∀ x ad h', s.heap.StaysIn h' → s.heap.get? x = none → s.heap.get? ad = none → h'.get? x = some (arObj ad t) → h'.get? ad = some (dictOf [] 0) → Q (.ref x) { s with heap := h' }) :
    wpAny (model prog w) A (call (.builtin "tuple.__new__") [.ref 380, .ref T] []) Q E s := by
  have L0 : Looks (model prog w) s.heap (checkBuiltinCall "tuple.__new__" ⟨[.ref 380, .ref T], []⟩) () := Looks.of_peek X (by kernel_rfl)
  have L1 : Looks (model prog w) s.heap (isType (.ref 380)) true := Looks.of_peek X (by kernel_rfl)
  have L2 : Looks (model prog w) s.heap (isSubtype (.ref 380) (.type "tuple")) true := Looks.of_peek X (by kernel_rfl)
  have L3 : Looks (model prog w) s.heap (Bind.madeHere "tuple.__new__" (.ref 380)) () := Looks.of_peek X (by kernel_rfl)
  have L4 : Looks (model prog w) s.heap (typeLookup (.ref 380) "__init__") (some (.builtin "object.__init__")) := Looks.of_peek X (by kernel_rfl)
  have L5 : Looks (model prog w) s.heap (classHasDel 380) false := Looks.of_peek X (by kernel_rfl)
  obtain ⟨hh, g, d, tk, os⟩ := s
  refine wpAny_call (codeAny_call_builtin PySem.F.plain_tuple_new PySem.F.entry_tuple_new (L0.at ?_))
  unfold Builtin.«tuple.__new__»
  dsimp only
  refine wpAny_bind (L1.at ?_)
  refine wpAny_bind (L2.at ?_)
  show wpAny _ _ (Bind.madeHere "tuple.__new__" (.ref 380) >>= _) _ _ _
  refine wpAny_bind (L3.at ?_)
  refine wpAny_bind (L4.at ?_)
  refine wpAny_bind (wpAny_pure ?_)
  refine wpAny_bind (wpAny_pure ?_)
  show wpAny _ _ (collect (.ref T) >>= _) _ _ _
  refine wpAny_bind (wpAny_collect_seq (s := ⟨hh, g, d, tk, os⟩) T (.inr rfl) hT rfl rfl (fun h' hk => ?_) (by size_fits))
  refine wpAny_bind (wpAny_pure (wpAny_bind (wpAny_alloc ?_)))
  show wpAny _ _ (newObjAsIs _ _ _ >>= _) _ _ _
  unfold newObjAsIs
  refine wpAny_bind (wpAny_bind (wpAny_alloc ?_))
  have kk : ∀ b o, hh.get? b = some o → ((h'.push { cls := .type "dict", data := .dict #[] }).push (arObj h'.objs.size t)).get? b = some o := fun b o e => Heap.get?_push_of_some _ (Heap.get?_push_of_some _ (hk b o e))
  refine wpAny_bind ((L5.keeps kk).here ?_)
  refine wpAny_pure (wpAny_pure ?_)
  refine h _ h'.objs.size _ kk (noneOf hk (Heap.get?_none_of_le ?_)) (noneOf hk (Heap.get?_none_of_le (Nat.le_refl _))) (Heap.get?_push_size _ rfl) (Heap.get?_push_of_some _ (Heap.get?_push_size _ rfl))
  rw [Heap.size_push]; exact Nat.le_succ _

theorem arNew {t : Tok} (X : (Mine.frag.heap_1 w.params).In s.heap) (T : TopRead p loose mg mb s.heap) (hd : A.depth < recursionLimit)
    (hQ : ∀ x ad h' tk, s.heap.StaysIn h' → s.heap.get? x = none → s.heap.get? ad = none → h'.get? x = some (arObj ad t) → h'.get? ad = some (dictOf [] 0) → Q (.ref x) { s with heap := h', toks := tk }) :
    wpAny (model prog w) A (call (.ref 330) [.ref 380, .int 2 t, .bool false] []) Q E s := by
  refine useCall (enter (binds := [("_cls", .ref 380), ("min_count", .int 2 t), ("fixed_size", .bool false)]) X T.nolimit hd (by k_is) (by k_is) (BindsTo.of_eq rfl) (locs rfl) ?_)
  intro L h₁ F N hL
  k_steps
  rename Fr _ _ _ _ => F'
  rename News _ _ _ _ => N'
  refine Hold.intro (tupNew (by k_in) (N' _ (.head _)).1 ?_)
  intro x ad h' st hx0 had0 hx had
  have F₂ := frStay F' st
  have N₂ := newsStay N' st
  have keep' := F'.keep
  clear F' N'
  k_steps
  exact hQ x ad _ _ (Fr.keep (by k_asm)) (noneOf keep' hx0) (noneOf keep' had0) hx had
open Builtin in
theorem arity_c {t : Tok} (X : (Mine.frag.heap_1 w.params).In s.heap) (T : TopRead p loose mg mb s.heap) (hd : A.depth + 2 < recursionLimit)
    (hQ : ∀ x ad h' tk, s.heap.StaysIn h' → s.heap.get? x = none → s.heap.get? ad = none → h'.get? x = some (arObj ad t) → h'.get? ad = some (dictOf [] 0) → Q (.ref x) { s with heap := h', toks := tk }) :
    wpAny (model prog w) A (call (.ref 380) [.int 2 t, .bool false] []) Q E s := by
  have L0 : Looks (model prog w) s.heap (specialOf (.ref 380) "__call__") (some (.builtin "type.__call__")) := Looks.of_peek X (by kernel_rfl)
  have L1 : Looks (model prog w) s.heap (isInstance (.ref 380) (.type "type")) true := Looks.of_peek X (by kernel_rfl)
  have L2 : Looks (model prog w) s.heap (Bind.madeBy (.ref 380)) none := Looks.of_peek X (by kernel_rfl)
  have hm : mroIn (Mine.frag.heap_1 w.params) 380 (.ref 380) = some true := by k_is
  have hmt : mroIn (Mine.frag.heap_1 w.params) 380 (.type "tuple") = some true := by k_is
  have hmo : mroIn (Mine.frag.heap_1 w.params) 380 (.type "object") = some true := by k_is
  obtain ⟨cd, hc, hne⟩ := Option.bind_eq_some_iff.mp hm
  have Lm : Looks (model prog w) s.heap (mroOf (.ref 380)) cd.mro := (looks_clsIn X hc).andThen .now
  have hne' : cd.mro.isEmpty = false := by
    cases q : cd.mro.isEmpty with
    | false => rfl
    | true => rw [if_pos q] at hne; cases hne
  have Ls := looks_mroIn (M := model prog w) X hm
  have Li : Looks (model prog w) s.heap (typeLookup (.ref 380) "__init__") (some (.builtin "object.__init__")) := Looks.of_peek X (by kernel_rfl)
  have hC : ∃ oc, s.heap.get? 380 = some oc ∧ oc.data = .cls cd := by
    unfold clsIn at hc
    split at hc
    · rename_i ho
      cases hc
      exact ⟨_, X _ _ ho, rfl⟩
    · cases hc
  obtain ⟨oc, hC, hcd⟩ := hC
  have hread : readsIn (Mine.frag.heap_1 w.params) 380 (.type "type") = true := by k_is
  have hfc : findCls (Mine.frag.heap_1 w.params) (.ref 380) (.type "type") "__new__" = some (.get (.builtin "staticmethod.__get__") (.ref 381) .none (.ref 380)) := by k_is
  have hrec : recIn (Mine.frag.heap_1 w.params) 381 "staticmethod" = some [.ref 330] := by k_is
  refine useCall ?_
  obtain ⟨hh, g, d, tk, os⟩ := s
  obtain ⟨oc1, oc2, oc3, oc4⟩ := oc
  dsimp only at hcd
  subst hcd
  refine codeAny_of_tree ?_
  show wpAny _ _ (callAny (.ref 380) _) _ _ _
  refine nd_load hC ?_
  show wpAny _ _ (callAny.viaDunder (.ref 380) _) _ _ _
  unfold callAny.viaDunder
  refine wpAny_bind (L0.at ?_)
  dsimp only
  rw [tc_bind]
  refine wpAny_bind (wpAny_pure (wpAny_bind (wpAny_pure ?_)))
  refine wpAny_pure (a := Fin.again (.call (.builtin "type.__call__") ⟨.ref 380 :: [.int 2 t, .bool false], []⟩)) (And.intro rfl ?_)
  refine codeAny_call_builtin_at (Code.quiet_builtin _ (by decide +kernel)) entry_typeCall (check_slot tc_kind tc_split L1 (tc_args _ _ _) ?_)
  unfold Builtin.«type.__call__»
  show wpAny _ _ (mroOf (.ref 380) >>= _) _ _ _
  refine wpAny_bind (Lm.at ?_)
  simp only [hne', Bool.false_eq_true, if_false]
  refine wpAny_bind (L2.at ?_)
  dsimp only
  refine wpAny_bind (cls_bind X hread hfc (wpAny_call (sm_get (s := ⟨hh, g, d, tk + 1, os⟩) X hrec (handed_on (by rfl) ?_))))
  refine wpAny_bind (wpAny_holding ?_)
  refine arNew (s := ⟨hh, g, d, tk + 1, os⟩) X T (by rw [depth_under_kw]; omega) ?_
  intro x ad h' tk' st hx0 had0 hx had
  have I : InstAt h' x (arObj ad t) 380 (some (dictOf [] 0)) := ⟨hx, rfl, rfl, had⟩
  have Lt := I.type (M := model prog w)
  have Lx : Looks (model prog w) h' (isInstance (.ref x) (.ref 380)) true := Lt.andThen (Ls.keeps st)
  refine wpAny_bind (Lx.at ?_)
  simp only [Bool.not_true, Bool.false_eq_true, if_false]
  refine wpAny_bind (wpAny_holding ?_)
  unfold callSpecial? specialOf
  refine wpAny_bind (wpAny_bind (Lt.at ((Li.keeps st).at ?_)))
  refine wpAny_holding ?_
  rw [oi_bind]
  refine wpAny_bind (wpAny_pure (wpAny_bind ?_))
  have Lo : Looks (model prog w) h' (isInstance (.ref x) (.type "object")) true := Lt.andThen ((looks_mroIn (M := model prog w) X hmo).keeps st)
  have L2' := L2.keeps st
  have Li' := Li.keeps st
  have oargs : argsOk "object.__init__" ⟨[.ref x, .int 2 t, .bool false], []⟩ := by unfold argsOk; kernel_rfl
  show wpAny _ _ (call (.builtin "object.__init__") [.ref x, .int 2 t, .bool false] []) _ _ _
  refine wpAny_call (codeAny_call_builtin oi_plain entry_oi (@check_slot (model prog w) _ _ _ "object.__init__" "object" "__init__" (.ref x) [.int 2 t, .bool false] [] _ oi_kind oi_split Lo oargs ?_))
  unfold Builtin.«object.__init__»
  show wpAny _ _ (typeOf (.ref x) >>= _) _ _ _
  refine wpAny_bind (Lt.at ?_)
  refine wpAny_bind (Li'.at ?_)
  refine wpAny_bind (L2'.at ?_)
  show wpAny _ _ (ret .none) _ _ _
  refine wpAny_pure ?_
  exact wpAny_pure (wpAny_pure (hQ x ad h' tk' st hx0 had0 hx had))
end Mine
namespace Mine
open PySem PySem.W PySem.Calls PyProof.Rows
local macro_rules | `(tactic| k_inst) => `(tactic| (refine' instBase ?F ?h1 ?h2; (case F => k_asm); (case h1 => assumption); (case h2 => assumption)))
local macro_rules | `(tactic| k_room) => `(tactic| ((try simp only [depth_under_make, depth_under_kw, depth_in1, depth_deeper, depth_caller]); omega))
local macro_rules | `(tactic| k_units) => `(tactic| ((try simp only [units_in1, units_deeper, Around.mark_units, units_caller]); omega))
local macro_rules | `(tactic| walk_at "exec For") => `(tactic| (k_here; refine Hold.mk ?_))
local macro_rules | `(tactic| walk_at "truthy str") => `(tactic| (k_here; (with_reducible show wpAny _ _ (PySem.truthy (Value.str (Leaf.nm _) _)) _ _ _); refine truthy_nm ?_; intro _))
local macro_rules | `(tactic| walk_at "call builtin:len") => `(tactic| (k_here; (with_reducible show wpAny _ _ (call (Value.builtin "len") [Value.ref _] []) _ _ _); refine' lenB ?k1 ?k2 ?k3 ?_; (case k1 => k_asm); (case k2 => assumption); (case k3 => assumption); intro t' k'))
local macro_rules | `(tactic| walk_at "call type:zip") => `(tactic| (k_here; refine Hold.mk ?_))
local macro_rules | `(tactic| walk_at "compareOp Lt ref") => `(tactic| (k_here; (with_reducible show wpAny _ _ (compareOp CmpOp.Lt (Value.ref _) (Value.ref _)) _ _ _); refine Hold.mk ?_))
local macro_rules | `(tactic| walk_at "exec For Name Call cons nil") => `(tactic| (k_here; refine Hold.mk ?_))
local macro_rules | `(tactic| walk_at "exec For Name Name cons nil") => `(tactic| (k_here; refine Hold.mk ?_))
local macro_rules | `(tactic| walk_at "exec For Name Attribute cons nil") => `(tactic| (k_here; refine Hold.mk ?_))
local macro_rules | `(tactic| walk_at "exec For Name Subscript cons nil") => `(tactic| (k_here; refine Hold.mk ?_))
local macro_rules | `(tactic| walk_at "exec For Tuple Call cons nil") => `(tactic| (k_here; refine Hold.mk ?_))
local macro_rules | `(tactic| walk_at "exec For Name Tuple cons nil") => `(tactic| (k_here; refine Hold.mk ?_))
local macro_rules | `(tactic| walk_at "exec For Name Call") => `(tactic| (k_here; refine Hold.mk ?_))
local macro_rules | `(tactic| walk_at "exec For Name Name") => `(tactic| (k_here; refine Hold.mk ?_))
local macro_rules | `(tactic| walk_at "exec For Tuple Call") => `(tactic| (k_here; refine Hold.mk ?_))
local macro_rules | `(tactic| walk_at "exec While Compare cons nil") => `(tactic| (k_here; refine Hold.mk ?_))
local macro_rules | `(tactic| walk_at "exec While BoolOp cons nil") => `(tactic| (k_here; refine Hold.mk ?_))
local macro_rules | `(tactic| walk_at "exec While Compare") => `(tactic| (k_here; refine Hold.mk ?_))
local macro_rules | `(tactic| walk_at "exec While BoolOp") => `(tactic| (k_here; refine Hold.mk ?_))
local macro_rules | `(tactic| k_inst) => `(tactic| (first | (refine' instBase ?F ?h1 ?h2; (case F => k_asm); (case h1 => assumption); (case h2 => assumption)) | (refine' instBL ?F ?N ?h1 ?h2; (case F => k_asm); (case N => k_asm); (case h1 => assumption); (case h2 => k_mem))))
local macro_rules | `(tactic| walk_at "wpAt") => `(tactic| (dsimp only; ks_step "execs cons"; refine ks_wpAt_execs_cons ?_))
local macro_rules | `(tactic| walk_at "wpAt") => `(tactic| (ks_step "execs cons"; refine ks_wpAt_execs_cons ?_))
local macro_rules | `(tactic| walk_at "wpAt") => `(tactic| (ks_step "exec Expr"; with_unfolding_all refine ks_wpAt_Expr_any ?_))
local macro_rules | `(tactic| walk_at "wpAt") => `(tactic| (ks_step "exec If"; with_unfolding_all refine ks_wpAt_If ?_))
local macro_rules | `(tactic| walk_at "wpAt") => `(tactic| (ks_step "eval Call"; with_unfolding_all refine ks_wpAt_MethodCall ?_))
local macro_rules | `(tactic| walk_at "wpAt") => `(tactic| (ks_step "attributeBase Call"; k_here; k_dflt (with_unfolding_all refine ksN (by k_asm) (by k_asm) (by k_asm) (by k_asm) (by k_is) (by rfl) (by rfl) (by k_inst) (by k_is) (by rfl) (ProgOk.file (by assumption)) (by k_is) (by k_is) (by k_is) (by k_is) (by decide) (by rfl) (by rfl) (by rfl) (by rfl) (ProgOk.sup (by assumption)) (by first | boot_by_name | rfl | kernel_rfl) ?_; intro so' h' F' N' l1; (try k_lt l1))))
local macro_rules | `(tactic| walk_at "call ref") => `(tactic| (k_here; k_dflt (with_reducible show wpAny _ _ (call (Value.ref _) [_] []) _ _ _); refine Hold.mk ?_))
set_option maxRecDepth 100000
set_option maxHeartbeats 1000000
variable {prog : Program} {w : World} {A : Around} {s : Shared} {p : Program} {loose : List Str} {mg mb : Str → Option Value} {Q E : Value → Shared → Prop}
theorem arGet {x ad : Addr} {t u : Tok} (X : (Mine.frag.heap_1 w.params).In s.heap) (hx : s.heap.get? x = some (arObj ad t)) (hd : s.heap.get? ad = some (dictOf [] 0)) (h : Q (.bool false) s) : wpAny (model prog w) A (getItem (.ref x) (.int 1 u)) Q E s := by
  have I : InstAt s.heap x (arObj ad t) 380 (some (dictOf [] 0)) := ⟨hx, rfl, rfl, hd⟩
  have Lt := I.type (M := model prog w)
  have L1 : Looks (model prog w) s.heap (isSubtype (.ref 380) (.type "collections.deque")) false := Looks.of_peek X (by kernel_rfl)
  have L2 : Looks (model prog w) s.heap (typeLookup (.ref 380) "__getitem__") (some (.builtin "tuple.__getitem__")) := Looks.of_peek X (by kernel_rfl)
  unfold getItem sequenceKey callSpecial? specialOf
  refine wpAny_holding (wpAny_bind (wpAny_bind (Lt.here ?_)))
  dsimp only
  refine wpAny_bind (wpAny_bind (L1.here ?_))
  refine wpAny_pure ?_
  refine wpAny_pure ?_
  refine wpAny_bind (wpAny_bind (wpAny_bind (Lt.here (L2.here ?_))))
  dsimp only
  refine wpAny_holding ?_
  rw [PySem.F.slot_tuple_getitem.bind]
  refine wpAny_bind (wpAny_pure (wpAny_bind ?_))
  refine tgi_ar X hx hd (.inr ⟨rfl, rfl⟩) ?_
  exact wpAny_pure (wpAny_pure h)
theorem arItem {value slice : PySem.Expr} {x ad : Addr} {t u : Tok} (X : (Mine.frag.heap_1 w.params).In s.heap) (hx : s.heap.get? x = some (arObj ad t)) (hd : s.heap.get? ad = some (dictOf [] 0)) (h : Q (.bool false) s)
    (hs : subscripted slice false (.ref x) (.int 1 u) = operate [.ref x, .int 1 u] (getItem (.ref x) (.int 1 u)) := by with_unfolding_all rfl) : wpAny (model prog w) A (subscriptTail value slice (.ref x) (.int 1 u)) Q E s := by
  have I : InstAt s.heap x (arObj ad t) 380 (some (dictOf [] 0)) := ⟨hx, rfl, rfl, hd⟩
  have Lt := I.type (M := model prog w)
  have L2 : Looks (model prog w) s.heap (typeLookup (.ref 380) "__getitem__") (some (.builtin "tuple.__getitem__")) := Looks.of_peek X (by kernel_rfl)
  unfold subscriptTail
  refine wpAny_bind ?_
  rw [getitemInPython_of_ne (by intro z; cases z)]
  unfold specialOf
  refine wpAny_bind (wpAny_bind (Lt.here (L2.here ?_)))
  have fin : wpAny (model prog w) A (subscripted slice false (.ref x) (.int 1 u)) (fun r s₃ => wpAny (model prog w) A (letTemporaryGo value (.ref x) r >>= fun _ => pure r) Q E s₃) E s := by
    rw [hs]
    exact wpAny_operating (wpAny_mono (arGet X hx hd h) (fun r s₃ h₃ => wpAny_bind (wpAny_letTemporaryGo (wpAny_pure h₃))) fun _ _ x => x)
  first
    | exact wpAny_pure (wpAny_bind fin)
    | exact wpAny_bind (wpAny_pure (wpAny_bind fin))
    | exact wpAny_bind fin

local macro_rules | `(tactic| walk_at "subscriptTail") => `(tactic| (k_here; (with_reducible show wpAny _ _ (subscriptTail _ _ (Value.ref _) (Value.int _ _)) _ _ _); refine Hold.mk ?_))
local macro_rules | `(tactic| walk_at "subscriptTail Name Constant ref int") => `(tactic| (k_here; (with_reducible show wpAny _ _ (subscriptTail _ _ (Value.ref _) (Value.int _ _)) _ _ _); refine Hold.mk ?_))
local macro_rules | `(tactic| walk_at "subscriptTail Name BinOp ref int") => `(tactic| (k_here; (with_reducible show wpAny _ _ (subscriptTail _ _ (Value.ref _) (Value.int _ _)) _ _ _); refine Hold.mk ?_))
local macro_rules | `(tactic| walk_at "subscriptTail Name Name ref int") => `(tactic| (k_here; (with_reducible show wpAny _ _ (subscriptTail _ _ (Value.ref _) (Value.int _ _)) _ _ _); refine Hold.mk ?_))
local macro_rules | `(tactic| walk_at "subscriptTail Call Name cons nil Constant ref int") => `(tactic| (k_here; (with_reducible show wpAny _ _ (subscriptTail _ _ (Value.ref _) (Value.int _ _)) _ _ _); refine Hold.mk ?_))
local macro_rules | `(tactic| walk_at "subscriptTail Attribute Name Constant ref int") => `(tactic| (k_here; (with_reducible show wpAny _ _ (subscriptTail _ _ (Value.ref _) (Value.int _ _)) _ _ _); refine Hold.mk ?_))
local macro_rules | `(tactic| walk_at "subscriptTail Constant str BinOp str int") => `(tactic| (k_here; (with_reducible show wpAny _ _ (subscriptTail _ _ (Value.ref _) (Value.int _ _)) _ _ _); refine Hold.mk ?_))
local macro_rules | `(tactic| walk_at "subscriptTail Constant str Name str int") => `(tactic| (k_here; (with_reducible show wpAny _ _ (subscriptTail _ _ (Value.ref _) (Value.int _ _)) _ _ _); refine Hold.mk ?_))
local macro_rules | `(tactic| walk_at "subscriptTail Name Attribute ref str") => `(tactic| (k_here; (with_reducible show wpAny _ _ (subscriptTail _ _ (Value.ref _) (Value.int _ _)) _ _ _); refine Hold.mk ?_))
local macro_rules | `(tactic| walk_at "subscriptTail Name Subscript ref str") => `(tactic| (k_here; (with_reducible show wpAny _ _ (subscriptTail _ _ (Value.ref _) (Value.int _ _)) _ _ _); refine Hold.mk ?_))
local macro_rules | `(tactic| walk_at "call ref") => `(tactic| (k_here; (with_reducible show wpAny _ _ (call (Value.ref 415) _ _) _ _ _); refine Hold.mk ?_))
theorem metaInit_c {g : Heap} {x d ar ad : Addr} {k : Bool} {ta t1 t2 : Tok} {R : Result → Shared → Prop} (X : (Mine.frag.heap_1 w.params).In g) (T : TopRead p loose mg mb g) (hg : g.StaysIn s.heap) (hgr : g.get? d = none) (hx : s.heap.get? x = some (instObj 415 d)) (hxd : x ≠ d) (hd : s.heap.get? d = some (dictOf [] 0)) (har : g.get? ar = some (arObj ad ta)) (had : g.get? ad = some (dictOf [] 0)) (hdp : A.depth + 1 < recursionLimit) (hu : A.units + 10 < cLine)
    (hQ : ∀ t1 t2 t3 t4 t5 t6 t7 t8 h' tk, (less s.heap d).StaysIn h' → h'.get? d = some (dictOf [en w.params "name" t1 (.str (kdName k) t2), en w.params "arity" t3 (.ref ar), en w.params "class_name" t4 (.str (kdCls k) t5), en w.params "associative" t6 (.bool true), en w.params "commutative" t7 (.bool true), en w.params "one_identity" t8 (.bool false)] 6) → R (.ok (.ret .none)) { s with heap := h', toks := tk }) :
    codeAny (model prog w) A (.call (.ref 397) ⟨[.ref x, .str (kdName k) t1, .ref ar, .str (kdCls k) t2, .bool true, .bool true, .bool false], []⟩) R s := by
  have hgb := less_stays hg hgr
  have Xb := X.keeps hgb
  have Tb := T.keeps hgb
  refine enterH (r := d) (binds := [("cls", .ref x), ("name", .str (kdName k) t1), ("arity", .ref ar), ("class_name", .str (kdCls k) t2), ("associative", .bool true), ("commutative", .bool true), ("one_identity", .bool false)]) Xb hd (T.nolimit.keeps hg) (by omega) (by k_is) (by k_is) (BindsTo.of_eq rfl) (locs rfl) ?_
  intro L h₁ F N hL
  have hx' : (less s.heap d).get? x = some (instObj 415 d) := less_get hx hxd
  have har' := hgb _ _ har
  have had' := hgb _ _ had
  (try k_fold)
  k_steps
  rename Fr _ _ _ _ => F'
  refine Hold.intro (arItem (Xb.keeps F'.keep) (F'.keep _ _ har') (F'.keep _ _ had') ?_)
  k_steps
  exact hQ _ _ _ _ _ _ _ _ _ _ (Fr.keep (by k_asm)) ((by k_asm : News _ _ _ _) _ (.head _)).1
theorem kind_c {k : Bool} {ar ad : Addr} {ta t1 t2 : Tok} (X : (Mine.frag.heap_1 w.params).In s.heap) (T : TopRead p loose mg mb s.heap) (har : s.heap.get? ar = some (arObj ad ta)) (had : s.heap.get? ad = some (dictOf [] 0)) (hdp : A.depth + 5 < recursionLimit) (hu : A.units + 30 < cLine)
    (hQ : ∀ x h' tk fs, s.heap.StaysIn h' → Fresh s.heap h' fs → (∀ S : Facts, S ar (arObj ad ta) → S ad (dictOf [] 0) → IsKind w.params (S.more fs) x k) → Q (.ref x) { s with heap := h', toks := tk }) :
    wpAny (model prog w) A (call (.ref 455) [.str (kdName k) t1, .ref ar, .str (kdCls k) t2] [("associative", .bool true), ("commutative", .bool true)]) Q E s := by
  refine useCall (enter (binds := [("name", .str (kdName k) t1), ("arity", .ref ar), ("class_name", .str (kdCls k) t2), ("associative", .bool true), ("commutative", .bool true), ("one_identity", .bool false)]) X T.nolimit (by omega) (by k_is) (by k_is) (kp_binds X (fun _ => by rfl)) (locs rfl) ?_)
  intro L h₁ F N hL
  cases k
  · simp only [kdName, kdCls] at *
    k_steps
    rename Fr _ _ _ _ => F'
    refine Hold.intro (makeC (fI := 397) (X.keeps F'.keep) (by k_is) (by k_is) (by k_is) ?_)
    intro x d h₂ st hd0 hx0 hxd hx hd'
    refine metaInit_c (k := false) (g := _) (ad := ad) (ta := ta) (X.keeps F'.keep) (T.keeps F'.keep) st hd0 hx hxd hd' (F'.keep _ _ har) (F'.keep _ _ had) (by rw [depth_under_kw]; simp only [depth_deeper]; omega) (by rw [units_under_kw]; simp only [units_deeper]; omega) ?_
    intro t1 t2 t3 t4 t5 t6 t7 t8 h₃ tk₃ st₃ hd₃
    have low : s.heap.StaysIn h₃ := fun b o e => st₃ b o (less_stays st hd0 b o (F'.keep b o e))
    refine ⟨rfl, hQ x h₃ tk₃ [(x, instObj 415 d), (d, dictOf [en w.params "name" t1 (.str (kdName false) t2), en w.params "arity" t3 (.ref ar), en w.params "class_name" t4 (.str (kdCls false) t5), en w.params "associative" t6 (.bool true), en w.params "commutative" t7 (.bool true), en w.params "one_identity" t8 (.bool false)] 6)] low (fun p hp => ?_) fun S h1 h2 => .mk (.inr (.head _)) (.inr (.tail _ (.head _))) (.inl h1) (.inl h2)⟩
    rcases List.mem_cons.mp hp with rfl | hp
    · exact ⟨st₃ _ _ (less_get hx hxd), noneOf F'.keep hx0⟩
    · rw [List.mem_singleton.mp hp]; exact ⟨hd₃, noneOf F'.keep hd0⟩
  · simp only [kdName, kdCls] at *
    k_steps
    rename Fr _ _ _ _ => F'
    refine Hold.intro (makeC (fI := 397) (X.keeps F'.keep) (by k_is) (by k_is) (by k_is) ?_)
    intro x d h₂ st hd0 hx0 hxd hx hd'
    refine metaInit_c (k := true) (g := _) (ad := ad) (ta := ta) (X.keeps F'.keep) (T.keeps F'.keep) st hd0 hx hxd hd' (F'.keep _ _ har) (F'.keep _ _ had) (by rw [depth_under_kw]; simp only [depth_deeper]; omega) (by rw [units_under_kw]; simp only [units_deeper]; omega) ?_
    intro t1 t2 t3 t4 t5 t6 t7 t8 h₃ tk₃ st₃ hd₃
    have low : s.heap.StaysIn h₃ := fun b o e => st₃ b o (less_stays st hd0 b o (F'.keep b o e))
    refine ⟨rfl, hQ x h₃ tk₃ [(x, instObj 415 d), (d, dictOf [en w.params "name" t1 (.str (kdName true) t2), en w.params "arity" t3 (.ref ar), en w.params "class_name" t4 (.str (kdCls true) t5), en w.params "associative" t6 (.bool true), en w.params "commutative" t7 (.bool true), en w.params "one_identity" t8 (.bool false)] 6)] low (fun p hp => ?_) fun S h1 h2 => .mk (.inr (.head _)) (.inr (.tail _ (.head _))) (.inl h1) (.inl h2)⟩
    rcases List.mem_cons.mp hp with rfl | hp
    · exact ⟨st₃ _ _ (less_get hx hxd), noneOf F'.keep hx0⟩
    · rw [List.mem_singleton.mp hp]; exact ⟨hd₃, noneOf F'.keep hd0⟩
end Mine
namespace Mine
open PySem PySem.W PySem.Calls PyProof.Rows
local macro_rules | `(tactic| k_inst) => `(tactic| (refine' instBase ?F ?h1 ?h2; (case F => k_asm); (case h1 => assumption); (case h2 => assumption)))
local macro_rules | `(tactic| k_room) => `(tactic| ((try simp only [depth_under_make, depth_under_kw, depth_in1, depth_deeper, depth_caller]); omega))
local macro_rules | `(tactic| k_units) => `(tactic| ((try simp only [units_in1, units_deeper, Around.mark_units, units_caller]); omega))
local macro_rules | `(tactic| walk_at "exec For") => `(tactic| (k_here; refine Hold.mk ?_))
local macro_rules | `(tactic| walk_at "truthy str") => `(tactic| (k_here; (with_reducible show wpAny _ _ (PySem.truthy (Value.str (Leaf.nm _) _)) _ _ _); refine truthy_nm ?_; intro _))
local macro_rules | `(tactic| walk_at "call builtin:len") => `(tactic| (k_here; (with_reducible show wpAny _ _ (call (Value.builtin "len") [Value.ref _] []) _ _ _); refine' lenB ?k1 ?k2 ?k3 ?_; (case k1 => k_asm); (case k2 => assumption); (case k3 => assumption); intro t' k'))
local macro_rules | `(tactic| walk_at "call type:zip") => `(tactic| (k_here; refine Hold.mk ?_))
local macro_rules | `(tactic| walk_at "compareOp Lt ref") => `(tactic| (k_here; (with_reducible show wpAny _ _ (compareOp CmpOp.Lt (Value.ref _) (Value.ref _)) _ _ _); refine Hold.mk ?_))
local macro_rules | `(tactic| walk_at "exec For Name Call cons nil") => `(tactic| (k_here; refine Hold.mk ?_))
local macro_rules | `(tactic| walk_at "exec For Name Name cons nil") => `(tactic| (k_here; refine Hold.mk ?_))
local macro_rules | `(tactic| walk_at "exec For Name Attribute cons nil") => `(tactic| (k_here; refine Hold.mk ?_))
local macro_rules | `(tactic| walk_at "exec For Name Subscript cons nil") => `(tactic| (k_here; refine Hold.mk ?_))
local macro_rules | `(tactic| walk_at "exec For Tuple Call cons nil") => `(tactic| (k_here; refine Hold.mk ?_))
local macro_rules | `(tactic| walk_at "exec For Name Tuple cons nil") => `(tactic| (k_here; refine Hold.mk ?_))
local macro_rules | `(tactic| walk_at "exec For Name Call") => `(tactic| (k_here; refine Hold.mk ?_))
local macro_rules | `(tactic| walk_at "exec For Name Name") => `(tactic| (k_here; refine Hold.mk ?_))
local macro_rules | `(tactic| walk_at "exec For Tuple Call") => `(tactic| (k_here; refine Hold.mk ?_))
local macro_rules | `(tactic| walk_at "exec While Compare cons nil") => `(tactic| (k_here; refine Hold.mk ?_))
local macro_rules | `(tactic| walk_at "exec While BoolOp cons nil") => `(tactic| (k_here; refine Hold.mk ?_))
local macro_rules | `(tactic| walk_at "exec While Compare") => `(tactic| (k_here; refine Hold.mk ?_))
local macro_rules | `(tactic| walk_at "exec While BoolOp") => `(tactic| (k_here; refine Hold.mk ?_))
local macro_rules | `(tactic| k_inst) => `(tactic| (first | (refine' instBase ?F ?h1 ?h2; (case F => k_asm); (case h1 => assumption); (case h2 => assumption)) | (refine' instBL ?F ?N ?h1 ?h2; (case F => k_asm); (case N => k_asm); (case h1 => assumption); (case h2 => k_mem))))
local macro_rules | `(tactic| walk_at "wpAt") => `(tactic| (dsimp only; ks_step "execs cons"; refine ks_wpAt_execs_cons ?_))
local macro_rules | `(tactic| walk_at "wpAt") => `(tactic| (ks_step "execs cons"; refine ks_wpAt_execs_cons ?_))
local macro_rules | `(tactic| walk_at "wpAt") => `(tactic| (ks_step "exec Expr"; with_unfolding_all refine ks_wpAt_Expr_any ?_))
local macro_rules | `(tactic| walk_at "wpAt") => `(tactic| (ks_step "exec If"; with_unfolding_all refine ks_wpAt_If ?_))
local macro_rules | `(tactic| walk_at "wpAt") => `(tactic| (ks_step "eval Call"; with_unfolding_all refine ks_wpAt_MethodCall ?_))
local macro_rules | `(tactic| walk_at "wpAt") => `(tactic| (ks_step "attributeBase Call"; k_here; k_dflt (with_unfolding_all refine ksN (by k_asm) (by k_asm) (by k_asm) (by k_asm) (by k_is) (by rfl) (by rfl) (by k_inst) (by k_is) (by rfl) (ProgOk.file (by assumption)) (by k_is) (by k_is) (by k_is) (by k_is) (by decide) (by rfl) (by rfl) (by rfl) (by rfl) (ProgOk.sup (by assumption)) (by first | boot_by_name | rfl | kernel_rfl) ?_; intro so' h' F' N' l1; (try k_lt l1))))
local macro_rules | `(tactic| walk_at "call ref") => `(tactic| (k_here; k_dflt (with_reducible show wpAny _ _ (call (Value.ref _) [_] []) _ _ _); refine Hold.mk ?_))
local macro_rules | `(tactic| walk_at "call ref") => `(tactic| (k_here; (first | (with_reducible show wpAny _ _ (call (Value.ref 741) _ _) _ _ _) | (with_reducible show wpAny _ _ (call (Value.ref 685) _ _) _ _ _)); refine Hold.mk ?_))
set_option maxRecDepth 100000
set_option maxHeartbeats 1000000
variable {prog : Program} {w : World} {A : Around} {s : Shared} {p : Program} {loose : List Str} {mg mb : Str → Option Value} {Q E : Value → Shared → Prop}
theorem symbol_f {l : Leaf} {t0 : Tok} (hl : l.isVar = false) (P : ProgOk prog) (X : (Mine.frag.heap_1 w.params).In s.heap) (T : TopRead p loose mg mb s.heap) (hd : A.depth + 3 < recursionLimit)
    (hQ : ∀ v h' tk fs, s.heap.StaysIn h' → Fresh s.heap h' fs → (∀ S, IsEx w.params (Facts.more S fs) v (.leaf l)) → Q v { s with heap := h', toks := tk }) : wpAny (model prog w) A (call (.ref 637) [.str l.nm t0] []) Q E s := by
  refine makeC (fI := 592) X (by k_is) (by k_is) (by k_is) ?_
  intro x d h' st hd0 hx0 hxd hx hd'
  refine symInit_c P X T st hd0 hx hxd hd' (by rw [depth_under_kw]; omega) ?_
  intro t1 t2 t3 h'' tk st' hd''
  have hx2 := st' _ _ (less_get hx hxd)
  refine ⟨rfl, hQ _ _ _ [(x, instObj 637 d), (d, dictOf [en w.params "variable_name" t1 .none, en w.params "name" t2 (.str l.nm t3)] 2)] (fun b o e => st' _ _ (less_stays st hd0 b o e)) (fun p hp => ?_) fun S => .sym hl (.inr (.head _)) (.inr (.tail _ (.head _)))⟩
  rcases List.mem_cons.mp hp with rfl | hp
  · exact ⟨hx2, hx0⟩
  · rw [List.mem_singleton.mp hp]; exact ⟨hd'', hd0⟩
theorem wild_c {l : Leaf} {ti tn : Tok} (hl : l.isVar = true) (P : ProgOk prog) (X : (Mine.frag.heap_1 w.params).In s.heap) (T : TopRead p loose mg mb s.heap) (hd : A.depth + 3 < recursionLimit)
    (hQ : ∀ v h' tk fs, s.heap.StaysIn h' → Fresh s.heap h' fs → (∀ S, IsEx w.params (Facts.more S fs) v (.leaf l)) → Q v { s with heap := h', toks := tk }) : wpAny (model prog w) A (call (.ref 741) [] [("min_count", .int 1 ti), ("fixed_size", .bool true), ("variable_name", .str l.nm tn)]) Q E s := by
  refine makeC (fI := 656) X (by k_is) (by k_is) (by k_is) ?_
  intro x d h' st hd0 hx0 hxd hx hd'
  refine varInit_c P X T st hd0 hx hxd hd' (by rw [depth_under_kw]; omega) ?_
  intro t1 t2 t3 t4 t5 t6 h'' tk st' hd''
  have hx2 := st' _ _ (less_get hx hxd)
  refine ⟨rfl, hQ _ _ _ [(x, instObj 741 d), (d, dictOf [en w.params "variable_name" t1 (.str l.nm t2), en w.params "min_count" t3 (.int 1 t4), en w.params "fixed_size" t5 (.bool true), en w.params "optional" t6 .none] 4)] (fun b o e => st' _ _ (less_stays st hd0 b o e)) (fun p hp => ?_) fun S => .var hl (.inr (.head _)) (.inr (.tail _ (.head _)))⟩
  rcases List.mem_cons.mp hp with rfl | hp
  · exact ⟨hx2, hx0⟩
  · rw [List.mem_singleton.mp hp]; exact ⟨hd'', hd0⟩
theorem dot_c {l : Leaf} {tn : Tok} (hl : l.isVar = true) (P : ProgOk prog) (X : (Mine.frag.heap_1 w.params).In s.heap) (T : TopRead p loose mg mb s.heap) (hd : A.depth + 5 < recursionLimit)
    (hQ : ∀ v h' tk fs, s.heap.StaysIn h' → Fresh s.heap h' fs → (∀ S, IsEx w.params (Facts.more S fs) v (.leaf l)) → Q v { s with heap := h', toks := tk }) : wpAny (model prog w) A (call (.ref 786) [.str l.nm tn] []) Q E s := by
  refine useCall (enter (binds := [("name", .str l.nm tn)]) X T.nolimit (by omega) (by k_is) (by k_is) (BindsTo.of_eq rfl) (locs rfl) ?_)
  intro L h₁ F N hL
  k_steps
  rename Fr _ _ _ _ => F'
  refine Hold.intro ?_
  refine useCall (enter (binds := [("name", .str l.nm tn)]) (X.keeps F'.keep) (T.nolimit.keeps F'.keep) (by simp only [depth_deeper]; omega) (by k_is) (by k_is) (kp_binds (X.keeps F'.keep) (fun _ => by rfl)) (locs rfl) ?_)
  intro L₂ h₂ F₂ N₂ hL₂
  have X₂ := X.keeps F'.keep
  have T₂ := T.keeps F'.keep
  clear X T
  have st₀ := F'.keep
  clear F'
  k_steps
  rename Fr _ _ _ _ => F₃
  refine Hold.intro (wild_c hl P (X₂.keeps F₃.keep) (T₂.keeps F₃.keep) (by simp only [depth_deeper]; omega) ?_)
  intro v h₃ tk₃ fs st₃ fr hv
  exact hQ v h₃ tk₃ fs (fun b o e => st₃ b o (F₃.keep b o (st₀ b o e))) (fun p hp => ⟨(fr p hp).1, noneOf (fun b o e => F₃.keep b o (st₀ b o e)) (fr p hp).2⟩) hv
end Mine
namespace Mine
open PySem PySem.W PySem.Calls PyProof.Rows PySem.Spec
open LCg
abbrev tupN (its : Array Value) (n : Nat) : Obj := { cls := .type "tuple", data := .seq its n }
section
variable {prog : Program} {w : World} {A : Around} {E : Value → Shared → Prop} {s : Shared} {h₀ : Heap} {L : Addr} {m : Str → Option Value} {env : Env}
/-- what an element of a comprehension leaves -/
def EltAt (h₀ : Heap) (L : Addr) (m : Str → Option Value) (s : Shared) (I : Addr) (oI : Obj) (C : Addr) (oC : Obj) (D : Addr) (ys : List Value) (J : List Value → List (Addr × Obj) → Prop) (y : Value) (s₂ : Shared) : Prop :=
  ∃ h' tk' news', s₂ = { s with heap := h', toks := tk' } ∧ Fr h₀ L h' m ∧ News h₀ L h' ((I, oI) :: (C, oC) :: (D, lst ys) :: news') ∧ Off3 I C D news' ∧ J (ys ++ [y]) news'
/-- the turns of a comprehension, by what holds behind each -/
theorem restOf {elt : Expr} {x : Str} {scope : Scope} {cl : List (Str × Addr)} {S : List (Addr × Obj) → Prop} {P : Nat → Value → Prop} {Fin : List Value → List (Addr × Obj) → Prop} {n : Nat} (J : List Value → List (Addr × Obj) → Prop)
    (hS : ∀ ys news, J ys news → S news)
    (turn : ∀ v ys news I oI C oC D m₂ h tk, P ys.length v → ys.length < n → J ys news → NsObj oC m₂ → m₂ x = some v → Fr h₀ L h m → News h₀ L h ((I, oI) :: (C, oC) :: (D, lst ys) :: news) → Off3 I C D news → I ≠ C → I ≠ D → C ≠ D →
      wpAny (model prog w) A (eval elt (compEnvC scope cl C env)) (EltAt h₀ L m { s with heap := h, toks := tk } I oI C oC D ys J) noE { s with heap := h, toks := tk })
    (done : ∀ ys news, ys.length = n → J ys news → Fin ys news) :
    ∀ (k : Nat) (ys : List Value) (news : List (Addr × Obj)), ys.length + k = n → J ys news → CompRest prog w A h₀ L m env elt x scope cl s S P Fin k ys.length ys news
  | 0, ys, news, hk, hJ => CompRest.zero (done ys news (by omega) hJ)
  | k + 1, ys, news, hk, hJ => CompRest.succ fun v I oI C oC D m₂ h tk E' hP hC hx F N off hne => by
    refine wpAny_mono (turn v ys news I oI C oC D m₂ h tk hP (by omega) hJ hC hx F N off hne.1 hne.2.1 hne.2.2) (fun y s₂ hy => ?_) fun _ _ e => e.elim
    obtain ⟨h', tk', news', rfl, F', N', off', hJ'⟩ := hy
    have r := restOf J hS turn done k (ys ++ [y]) news' (by rw [List.length_append, List.length_singleton]; omega) hJ'
    rw [List.length_append, List.length_singleton] at r
    exact ⟨h', tk', news', rfl, F', N', off', hS _ _ hJ', r⟩

/-- the source of a comprehension is told: a list that stays -/
def SrcJ (h₀ : Heap) (L : Addr) (m : Str → Option Value) (s : Shared) (its : Array Value) (J : List Value → List (Addr × Obj) → Prop) (xv : Value) (s₁ : Shared) : Prop :=
  ∃ ax news h tk, xv = .ref ax ∧ s₁ = { s with heap := h, toks := tk } ∧ Fr h₀ L h m ∧ News h₀ L h news ∧ (∀ ys n', J ys n' → SrcAt h₀ ax its n') ∧ J [] news
theorem compL {elt iter : Expr} {x : Str} {px : Pos} {scope : Scope} {cl : List (Str × Addr)} {pos : Pos} {Q : Value → Shared → Prop} (its : Array Value) (J : List Value → List (Addr × Obj) → Prop) (F₀ : Fr h₀ L s.heap m) (hh : A.handled = none)
    (hsz : its.size ≤ sizeLine)
    (hclos : closureFor scope env = pure cl) (hcell : ∀ y ∈ scope.names, y.2 ≠ .cell) (hkind : scope.kind = .function)
    (hnames : ∀ y ∈ scope.names, y.2 = .local → scope.names.lookup y.1 = some .local) (hx : scope.names.lookup x = some .local)
    (hiter : wpAny (model prog w) A (eval iter env) (SrcJ h₀ L m s its J) E s)
    (turn : ∀ v ys news I oI C oC D m₂ h tk, its[ys.length]? = some v → J ys news → NsObj oC m₂ → m₂ x = some v → Fr h₀ L h m → News h₀ L h ((I, oI) :: (C, oC) :: (D, lst ys) :: news) → Off3 I C D news → I ≠ C → I ≠ D → C ≠ D →
      wpAny (model prog w) A (eval elt (compEnvC scope cl C env)) (EltAt h₀ L m { s with heap := h, toks := tk } I oI C oC D ys J) noE { s with heap := h, toks := tk })
    (done : ∀ D h tk ys news, ys.length = its.size → J ys news → Fr h₀ L h m → News h₀ L h ((D, lst ys) :: news) → Off1 D news → Q (.ref D) { s with heap := h, toks := tk })
    (hs : ∀ x, foldedSetIterable iter env x = pure x := by intro _; rfl) :
    wpAny (model prog w) A (eval (.ListComp elt [⟨.Name x px, iter, [], 0⟩] scope pos) env) Q E s := by
  refine ListComp_U F₀ hclos hcell hkind hnames hx (wpAny_mono hiter (fun xv s₁ h₁ => ?_) fun _ _ e => e) hs
  obtain ⟨ax, news, h, tk, rfl, rfl, F, N, hJS, hJ⟩ := h₁
  refine .inl ⟨ax, its, news, rfl, hh, F, N, hJS _ _ hJ, hsz, fun s₂ ⟨g, e⟩ => ?_⟩
  subst e
  exact restOf (s := { s with heap := g, toks := tk }) J (fun ys n' j => hJS ys n' j) (fun v ys news I oI C oC D m₂ h' tk' hP hlt hJ hC hx F' N' off a b c => turn v ys news I oI C oC D m₂ h' tk' hP hJ hC hx F' N' off a b c)
    (fun ys news hl hJ D h' tk' F' N' o1 => done D h' tk' ys news hl hJ F' N' o1) its.size [] news (by simp) hJ
/-- the source is a tuple that stays -/
def TupAtN (h₀ : Heap) (ax : Addr) (its : Array Value) (news : List (Addr × Obj)) : Prop := (∃ n, h₀.get? ax = some (tupN its n)) ∨ ∃ n, (ax, tupN its n) ∈ news
theorem TupAtN.tup {h : Heap} {ax : Addr} {its : Array Value} {news : List (Addr × Obj)} (x : TupAtN h₀ ax its news) (k : ∀ b o, h₀.get? b = some o → h.get? b = some o) (N : News h₀ L h news) : h.IsTuple ax its := by
  rcases x with ⟨n, e⟩ | ⟨n, hm⟩
  · exact ⟨_, k _ _ e, rfl, n, rfl⟩
  · exact ⟨_, (N _ hm).1, rfl, n, rfl⟩
theorem tup_st {ax I : Addr} {its : Array Value} : ∀ i (h h' : Heap) (o : Obj) (nw : List (Addr × Obj)), (h.IsTupleIter I ax i ∧ h.IsTuple ax its) → h.get? I = some o → h'.get? I = some o → (∀ b o, h₀.get? b = some o → h'.get? b = some o) → News h₀ L h' nw → TupAtN h₀ ax its nw → (h'.IsTupleIter I ax i ∧ h'.IsTuple ax its) :=
  fun i h h' o nw st e e' k N S => ⟨by obtain ⟨o', q, r⟩ := st.1; rw [e] at q; cases q; exact ⟨o, e', r⟩, S.tup k N⟩
def SrcT (h₀ : Heap) (L : Addr) (m : Str → Option Value) (s : Shared) (its : Array Value) (J : List Value → List (Addr × Obj) → Prop) (xv : Value) (s₁ : Shared) : Prop :=
  ∃ ax news h tk, xv = .ref ax ∧ s₁ = { s with heap := h, toks := tk } ∧ Fr h₀ L h m ∧ News h₀ L h news ∧ (∀ ys n', J ys n' → TupAtN h₀ ax its n') ∧ J [] news
theorem compT {elt iter : Expr} {x : Str} {px : Pos} {scope : Scope} {cl : List (Str × Addr)} {pos : Pos} {Q : Value → Shared → Prop} (its : Array Value) (J : List Value → List (Addr × Obj) → Prop) (_F₀ : Fr h₀ L s.heap m) (hh : A.handled = none)
    (hsz : its.size ≤ sizeLine)
    (hclos : closureFor scope env = pure cl) (hcell : ∀ y ∈ scope.names, y.2 ≠ .cell) (hkind : scope.kind = .function)
    (hnames : ∀ y ∈ scope.names, y.2 = .local → scope.names.lookup y.1 = some .local) (hx : scope.names.lookup x = some .local)
    (hiter : wpAny (model prog w) A (eval iter env) (SrcT h₀ L m s its J) E s)
    (turn : ∀ v ys news I oI C oC D m₂ h tk, its[ys.length]? = some v → J ys news → NsObj oC m₂ → m₂ x = some v → Fr h₀ L h m → News h₀ L h ((I, oI) :: (C, oC) :: (D, lst ys) :: news) → Off3 I C D news → I ≠ C → I ≠ D → C ≠ D →
      wpAny (model prog w) A (eval elt (compEnvC scope cl C env)) (EltAt h₀ L m { s with heap := h, toks := tk } I oI C oC D ys J) noE { s with heap := h, toks := tk })
    (done : ∀ D h tk ys news, ys.length = its.size → J ys news → Fr h₀ L h m → News h₀ L h ((D, lst ys) :: news) → Off1 D news → Q (.ref D) { s with heap := h, toks := tk })
    (hs : ∀ x, foldedSetIterable iter env x = pure x := by intro _; rfl) :
    wpAny (model prog w) A (eval (.ListComp elt [⟨.Name x px, iter, [], 0⟩] scope pos) env) Q E s := by
  rw [eval_ListComp]
  refine wpAny_comprehension_free (use := none) rfl hs hclos hkind hnames (wpAny_mono hiter (fun xv s₁ h₁ => ?_) fun _ _ e => e)
  obtain ⟨ax, news, h, tk, rfl, rfl, F, N, hJS, hJ⟩ := h₁
  have hl := (hJS _ _ hJ).tup F.keep N
  have hlt : ax < h.objs.size := by obtain ⟨_, e, _⟩ := hl; exact Heap.lt_size e
  refine wpAny_pyIter_tuple hl ?_
  have up : ∀ b o, h.get? b = some o → (h.push { cls := .type "tuple_iterator", data := .fields #[.ref ax, .int 0 0] }).get? b = some o := fun b o e => Heap.get?_push_of_some _ e
  refine block_U (S := TupAtN h₀ ax its) (Fin := fun ys news => ys.length = its.size ∧ J ys news) (Walks.tuple hh h.objs.size ax (Nat.ne_of_lt hlt) its) hsz (fun i h st => by obtain ⟨o, e, _⟩ := st.1; exact ⟨o, e⟩) tup_st hcell hkind hx ⟨⟨_, Heap.get?_push_size _ rfl, rfl, rfl⟩, hl.push _⟩ (fun b hb => ?_)
    (F.keeps up) (N.grown up) (Nat.ne_of_lt F.ns.lt) (next_is_new F) (fun p hp => Nat.ne_of_lt (Heap.lt_size (N p hp).1)) (hJS _ _ hJ) ?_ ?_
  · show b < (h.push _).objs.size
    rw [Heap.size_push]
    rcases List.mem_cons.mp hb with rfl | hb
    · exact Nat.lt_succ_self _
    · rw [List.mem_singleton.mp hb]; exact Nat.lt_succ_of_lt hlt
  · exact restOf (s := { s with heap := h.push _, toks := tk }) J (fun ys n' j => hJS ys n' j) (fun v ys news I oI C oC D m₂ h' tk' hP hlt hJ hC hx F' N' off a b c => turn v ys news I oI C oC D m₂ h' tk' hP hJ hC hx F' N' off a b c)
      (fun ys news hl hJ => ⟨hl, hJ⟩) its.size [] news (by simp) hJ
  · intro D C h tk m' ys news' F' N' o1 hn hC₀ hD₀ hCL hDL hCD offC fin
    refine ⟨m', hn, fun h'' hs'' => done D h'' tk ys news' fin.1 fin.2 (F'.change hs'' hCL hC₀) (fun p hp => ?_) o1⟩
    refine ⟨hs''.extBut _ _ ?_ (N' p hp).1, (N' p hp).2⟩
    rcases List.mem_cons.mp hp with rfl | hp
    · exact Ne.symm hCD
    · exact offC p hp
end
end Mine
namespace Mine
open PySem PySem.W PySem.Calls PyProof.Rows PySem.Spec
open LCg
section
variable {prog : Program} {w : World} {A : Around} {E : Value → Shared → Prop} {s : Shared} {h₀ : Heap} {L : Addr} {m : Str → Option Value} {env : Env}
abbrev cellObj : Obj := { cls := .type "cell", data := .cell none }
/-- the frame of a comprehension with one cell -/
theorem envCell {scope : Scope} {cl : List (Str × Addr)} {x : Str} {globals : Addr} {qual : Str} {Q : Env → Shared → Prop}
    (hcs : ∀ n, cellsFrom n scope.names cl = (x, n) :: cl) (hps : ∀ h : Heap, pushCells h scope.names = h.push cellObj)
    (h : Q { scope, locals := s.heap.objs.size, globals, cells := (x, s.heap.objs.size + 1) :: cl, qual, func := none, code := env.code, frame := env.frame, builtins := env.builtins }
      { s with heap := (s.heap.push { cls := .type "dict", data := .dict #[] }).push cellObj }) :
    wpAny (model prog w) A (newFunctionEnv scope globals cl [] qual none .none (some env)) Q E s := by
  simp only [newFunctionEnv, Option.isSome_some, if_true]
  refine wpAny_bind (wpAny_alloc ?_)
  refine wpAny_bind (wpAny_layCells _ (fun name kind cells => by cases hkc : kind == NameKind.cell <;> simp [hkc]) _ _ _ _ ?_)
  rw [show ({ s with heap := s.heap.push { cls := .type "dict", data := .dict #[] } } : Shared).heap.objs.size = s.heap.objs.size + 1 from Heap.size_push .., hcs, hps]
  refine wpAny_bind ?_
  rw [List.forIn_nil]
  exact wpAny_pure (wpAny_pure h)
def Off4 (I C K D : Addr) (l : List (Addr × Obj)) : Prop := ∀ p ∈ l, p.1 ≠ I ∧ p.1 ≠ C ∧ p.1 ≠ K ∧ p.1 ≠ D
/-- what an element of such a comprehension leaves -/
def EltC (h₀ : Heap) (L : Addr) (m : Str → Option Value) (s : Shared) (I : Addr) (oI : Obj) (C : Addr) (oC : Obj) (K : Addr) (oK : Obj) (D : Addr) (ys : List Value) (J : List Value → List (Addr × Obj) → Prop) (y : Value) (s₂ : Shared) : Prop :=
  ∃ h' tk' news', s₂ = { s with heap := h', toks := tk' } ∧ Fr h₀ L h' m ∧ News h₀ L h' ((I, oI) :: (C, oC) :: (K, oK) :: (D, lst ys) :: news') ∧ Off4 I C K D news' ∧ J (ys ++ [y]) news'
theorem blockC {elt iter : Expr} {x : Str} {px : Pos} {scope : Scope} {cl : List (Str × Addr)} {pos : Pos} {s₂ : Shared} {I : Addr} {fp : List Addr} {n : Nat} {P : Nat → Value → Prop} {St : Nat → Heap → Prop} {news : List (Addr × Obj)}
    {RR : Value → Addr → Result → Shared → Prop} (J : List Value → List (Addr × Obj) → Prop)
    (W : Walks prog w A I fp [I] n P St) (hsz : n ≤ sizeLine) (hIo : ∀ i h, St i h → ∃ o, h.get? I = some o)
    (hSt : ∀ i h h' o, St i h → h.get? I = some o → h'.get? I = some o → St i h')
    (hcs : ∀ n, cellsFrom n scope.names cl = (x, n) :: cl) (hps : ∀ h : Heap, pushCells h scope.names = h.push cellObj) (hkind : scope.kind = .function)
    (hx : ∀ C K, (compEnvC scope ((x, K) :: cl) C env).kindOf x = some .cell) (hst : St 0 s₂.heap) (hfp : ∀ b ∈ fp, b < s₂.heap.objs.size)
    (F : Fr h₀ L s₂.heap m) (N : News h₀ L s₂.heap news) (hIL : L ≠ I) (hI₀ : h₀.get? I = none) (off : ∀ p ∈ news, p.1 ≠ I) (hJ : J [] news)
    (turn : ∀ v ys news I oI C oC K oK D h tk, P ys.length v → ys.length < n → J ys news → oK.data = .cell (some v) → Fr h₀ L h m → News h₀ L h ((I, oI) :: (C, oC) :: (K, oK) :: (D, lst ys) :: news) → Off4 I C K D news →
      wpAny (model prog w) A (eval elt (compEnvC scope ((x, K) :: cl) C env)) (EltC h₀ L m { s₂ with heap := h, toks := tk } I oI C oC K oK D ys J) noE { s₂ with heap := h, toks := tk })
    (hRR : ∀ D C h tk m' ys news', ys.length = n → J ys news' → Fr h₀ L h m → News h₀ L h ((D, lst ys) :: news') → (∀ p ∈ news', p.1 ≠ D) → h.Ns C m' → h₀.get? C = none → C ≠ L → C ≠ D → (∀ p ∈ news', p.1 ≠ C) → RR (.ref D) C (.ok .next) { s₂ with heap := h, toks := tk }) :
    wpAny (model prog w) A (newList []) (fun acc s₃ => wpAny (model prog w) A (newFunctionEnv scope env.globals cl [] env.qual none .none (some env)) (fun cenv s₄ =>
      codeAny (model prog w) A (.compStart (.ListComp elt [⟨.Name x px, iter, [], 0⟩] scope pos) 0 (.ref I) acc { cenv with scope := relabel scope env }) (RR acc cenv.locals) s₄) E s₃) E s₂ := by
  refine wpAny_newObj_type (envCell hcs hps ?_)
  dsimp only
  have hIlt : I < s₂.heap.objs.size := hfp I (W.sub I (List.mem_singleton.mpr rfl))
  have hLlt : L < s₂.heap.objs.size := F.ns.lt
  generalize hD : s₂.heap.objs.size = D at *
  have hH2 : (s₂.heap.push { cls := .type "list", dict := none, data := .seq ([] : List Value).toArray }).objs.size = D + 1 := by rw [Heap.size_push, hD]
  rw [hH2]
  generalize hH : ((s₂.heap.push { cls := .type "list", dict := none, data := .seq ([] : List Value).toArray }).push { cls := .type "dict", data := .dict #[] }).push cellObj = H
  have old : ∀ b o, s₂.heap.get? b = some o → H.get? b = some o := fun b o e => by
    rw [← hH]; exact Heap.get?_push_of_some _ (Heap.get?_push_of_some _ (Heap.get?_push_of_some _ e))
  have gD : H.get? D = some (lst []) := by
    rw [← hH, ← hD]; exact Heap.get?_push_of_some _ (Heap.get?_push_of_some _ (Heap.get?_push_size _ rfl))
  have gK : H.get? (D + 1 + 1) = some cellObj := by
    have : ((s₂.heap.push { cls := .type "list", dict := none, data := .seq ([] : List Value).toArray }).push { cls := .type "dict", data := .dict #[] }).objs.size = D + 1 + 1 := by rw [Heap.size_push, hH2]
    rw [← hH, ← this]; exact Heap.get?_push_size _ rfl
  have nC : H.Ns (D + 1) (fun _ => none) := by
    have := Heap.Ns.new (s₂.heap.push { cls := .type "list", dict := none, data := .seq ([] : List Value).toArray }) (.type "dict")
    rw [hH2] at this
    exact this.keeps fun b o e => by rw [← hH]; exact Heap.get?_push_of_some _ e
  have lt : ∀ b o, s₂.heap.get? b = some o → b < D := fun b o e => hD ▸ Heap.lt_size e
  have fresh₀ : ∀ a, D ≤ a → h₀.get? a = none := fun a ha => by
    cases e : h₀.get? a with
    | none => rfl
    | some o' => exact absurd (lt _ _ (F.keep a o' e)) (Nat.not_lt.mpr ha)
  have hD₀ := fresh₀ D (Nat.le_refl _)
  have hC₀ := fresh₀ (D + 1) (Nat.le_succ _)
  have hK₀ := fresh₀ (D + 1 + 1) (Nat.le_succ_of_le (Nat.le_succ _))
  have DL : D ≠ L := Nat.ne_of_gt hLlt
  have CL : D + 1 ≠ L := Nat.ne_of_gt (Nat.lt_succ_of_lt hLlt)
  have KL : D + 1 + 1 ≠ L := Nat.ne_of_gt (Nat.lt_succ_of_lt (Nat.lt_succ_of_lt hLlt))
  have DI : D ≠ I := Nat.ne_of_gt hIlt
  have CI : D + 1 ≠ I := Nat.ne_of_gt (Nat.lt_succ_of_lt hIlt)
  have KI : D + 1 + 1 ≠ I := Nat.ne_of_gt (Nat.lt_succ_of_lt (Nat.lt_succ_of_lt hIlt))
  have CD : D + 1 ≠ D := Nat.succ_ne_self _
  have KD : D + 1 + 1 ≠ D := Nat.ne_of_gt (Nat.lt_succ_of_lt (Nat.lt_succ_self _))
  have KC : D + 1 + 1 ≠ D + 1 := Nat.succ_ne_self _
  have off₀ : Off4 I (D + 1) (D + 1 + 1) D news := fun p hp => by
    have q := lt _ _ (N p hp).1
    exact ⟨off p hp, Nat.ne_of_lt (Nat.lt_succ_of_lt q), Nat.ne_of_lt (Nat.lt_succ_of_lt (Nat.lt_succ_of_lt q)), Nat.ne_of_lt q⟩
  have hst₁ : St 0 H := W.frame _ _ _ hst fun b _ o e => old b o e
  have hfl : ∀ b ∈ fp, b < D := hfp
  have loop : codeAny (model prog w) A (.compLoop (.ListComp elt [⟨.Name x px, iter, [], 0⟩] scope pos) 0 (.ref I) (.ref D) (compEnvC scope ((x, D + 1 + 1) :: cl) (D + 1) env))
        (RR (.ref D) (D + 1)) { s₂ with heap := H } := by
    refine codeAny_compLoop_tests
      (fun k s' => ∃ h' tk i ys m' oK v₀ news', s' = { s₂ with heap := h', toks := tk } ∧ i ≤ n ∧ k = n + 1 - i ∧ ys.length = i ∧ St i h' ∧ Fr h₀ L h' m ∧ h'.Ns (D + 1) m' ∧ oK.data = .cell v₀ ∧ News h₀ L h' ((D + 1 + 1, oK) :: (D, lst ys) :: news') ∧
        Off4 I (D + 1) (D + 1 + 1) D news' ∧ J ys news') ?_ (n + 1)
      ⟨H, s₂.toks, 0, [], _, cellObj, none, news, rfl, Nat.zero_le _, rfl, rfl, hst₁, F.keeps old, nC, rfl, fun p hp => ?_, off₀, hJ⟩
    · rintro k s' ⟨h', tk, i, ys, m', oK, v₀, news', rfl, hi, rfl, hyl, hst', F', hn', hoK, N', off', hJ'⟩
      have offI : ∀ p ∈ (D + 1 + 1, oK) :: (D, lst ys) :: news', p.1 ≠ I := fun p hp => by
        rcases List.mem_cons.mp hp with rfl | hp
        · exact KI
        · rcases List.mem_cons.mp hp with rfl | hp
          · exact DI
          · exact (off' p hp).1
      by_cases hlt : i < n
      · refine W.item i _ _ _ hlt hst' fun v h₂ tk₂ hPv hst₂ hk₂ => ?_
        have N₂ := news_but N' hk₂ offI
        have F₂ := fr_but F' hk₂ hIL hI₀
        refine wpAny_assign_Name (wpAny_storeName_cell (c := D + 1 + 1) (v₀ := v₀) (by simp [compEnvC, relabel, hkind]) (hx _ _) (by simp [compEnvC]) ⟨oK, (N₂ _ (.head _)).1, hoK⟩ (fun h₃ hc₃ hs₃ => ?_))
        refine wpAny_tests_nil ?_
        simp only [if_true]
        obtain ⟨oK', heK, hoK'⟩ := hc₃
        have hn₂ : h₂.Ns (D + 1) m' := hn'.at' fun o e => hk₂ _ o (by simpa using CI) e
        have hn₃ : h₃.Ns (D + 1) m' := hn₂.sameBut hs₃ KC.symm
        have hst₃ : St (i + 1) h₃ := by
          obtain ⟨o, e⟩ := hIo _ _ hst₂
          exact hSt _ _ _ _ hst₂ e (hs₃.extBut _ _ KI.symm e)
        obtain ⟨oI, heI⟩ := hIo _ _ hst₃
        obtain ⟨oC, heC, hoC⟩ := ns_obj hn₃
        have F₃ : Fr h₀ L h₃ m := F₂.change hs₃ KL hK₀
        have N₃ : News h₀ L h₃ ((I, oI) :: (D + 1, oC) :: (D + 1 + 1, oK') :: (D, lst ys) :: news') := fun p hp => by
          rcases List.mem_cons.mp hp with rfl | hp
          · exact ⟨heI, Ne.symm hIL, hI₀⟩
          rcases List.mem_cons.mp hp with rfl | hp
          · exact ⟨heC, CL, hC₀⟩
          rcases List.mem_cons.mp hp with rfl | hp
          · exact ⟨heK, KL, hK₀⟩
          have z := N₂ p (.tail _ hp)
          refine ⟨hs₃.extBut _ _ ?_ z.1, z.2⟩
          rcases List.mem_cons.mp hp with rfl | hp
          · exact KD.symm
          · exact (off' p hp).2.2.1
        refine wpAny_mono (turn v ys news' I oI (D + 1) oC (D + 1 + 1) oK' D h₃ tk₂ (hyl ▸ hPv) (hyl ▸ hlt) hJ' hoK' F₃ N₃ off') (fun y s₄ h₄ => ?_) fun _ _ e => e.elim
        obtain ⟨h₄, tk₄, news₄, rfl, F₄, N₄, off₄, hJ₄⟩ := h₄
        have zI := (N₄ _ (.head _)).1
        have zC := (N₄ _ (.tail _ (.head _))).1
        have zD := (N₄ _ (.tail _ (.tail _ (.tail _ (.head _))))).1
        have hst₄ : St (i + 1) h₄ := hSt _ _ _ _ hst₃ heI zI
        refine append_at (hsz := by show ys.toArray.size ≤ sizeLine; rw [List.size_toArray, hyl]; exact Nat.le_trans hi hsz) zD fun h₅ hs₅ hD₅ => ?_
        refine ⟨n + 1 - (i + 1), by omega, h₅, tk₄, i + 1, ys ++ [y], _, oK', _, news₄, rfl, hlt, rfl, by rw [List.length_append, List.length_singleton, hyl], hSt _ _ _ _ hst₄ zI (hs₅.extBut _ _ DI.symm zI), F₄.change hs₅ DL hD₀,
          (hoC.ns zC).sameBut hs₅ CD, hoK', fun p hp => ?_, off₄, hJ₄⟩
        rcases List.mem_cons.mp hp with rfl | hp
        · exact ⟨hs₅.extBut _ _ KD (N₄ _ (.tail _ (.tail _ (.head _)))).1, KL, hK₀⟩
        rcases List.mem_cons.mp hp with rfl | hp
        · exact ⟨hD₅.trans (congrArg some (lst_snoc ys y)), DL, hD₀⟩
        · exact ⟨hs₅.extBut _ _ (off₄ p hp).2.2.2 (N₄ p (.tail _ (.tail _ (.tail _ (.tail _ hp))))).1, (N₄ p (.tail _ (.tail _ (.tail _ (.tail _ hp))))).2⟩
      · obtain rfl : i = n := Nat.le_antisymm hi (Nat.not_lt.mp hlt)
        refine W.done _ _ _ hst' fun h₂ tk₂ hk₂ => ?_
        have N₂ := news_but N' hk₂ offI
        exact hRR _ _ h₂ tk₂ m' ys news' hyl hJ' (fr_but F' hk₂ hIL hI₀) (fun p hp => N₂ p (.tail _ hp)) (fun p hp => (off' p hp).2.2.2) (hn'.at' fun o e => hk₂ _ o (by simpa using CI) e) hC₀ CL CD fun p hp => (off' p hp).2.1
    · rcases List.mem_cons.mp hp with rfl | hp
      · exact ⟨gK, KL, hK₀⟩
      rcases List.mem_cons.mp hp with rfl | hp
      · exact ⟨gD, DL, hD₀⟩
      · exact ⟨old _ _ (N p hp).1, (N p hp).2⟩
  exact codeAny_compStart_list loop (W.self 0 _ _ _ hst₁ loop)
/-- the source of a comprehension is a range -/
def SrcRg (h₀ : Heap) (L : Addr) (m : Str → Option Value) (s : Shared) (a b : Int) (J : List Value → List (Addr × Obj) → Prop) (xv : Value) (s₁ : Shared) : Prop :=
  ∃ r t u v news h tk, xv = .ref r ∧ s₁ = { s with heap := h, toks := tk } ∧ Fr h₀ L h m ∧ News h₀ L h news ∧ IsRange h r a b 1 t u v ∧ J [] news
theorem compR {elt iter : Expr} {x : Str} {px : Pos} {scope : Scope} {cl : List (Str × Addr)} {pos : Pos} {Q : Value → Shared → Prop} {a b : Int} {n : Nat} (J : List Value → List (Addr × Obj) → Prop) (F₀ : Fr h₀ L s.heap m) (hh : A.handled = none)
    (hsm : Builtin.Range.small a b 1 = true) (hn : Builtin.Range.rangeSize a b 1 = ((n : Nat) : Int)) (hsz : n ≤ sizeLine)
    (hclos : closureFor scope env = pure cl) (hcell : ∀ y ∈ scope.names, y.2 ≠ .cell) (hkind : scope.kind = .function)
    (hnames : ∀ y ∈ scope.names, y.2 = .local → scope.names.lookup y.1 = some .local) (hx : scope.names.lookup x = some .local)
    (hiter : wpAny (model prog w) A (eval iter env) (SrcRg h₀ L m s a b J) E s)
    (turn : ∀ v ys news I oI C oC D m₂ h tk, (∃ t, v = .int (a + (ys.length : Int)) t) → ys.length < n → J ys news → NsObj oC m₂ → m₂ x = some v → Fr h₀ L h m → News h₀ L h ((I, oI) :: (C, oC) :: (D, lst ys) :: news) → Off3 I C D news → I ≠ C → I ≠ D → C ≠ D →
      wpAny (model prog w) A (eval elt (compEnvC scope cl C env)) (EltAt h₀ L m { s with heap := h, toks := tk } I oI C oC D ys J) noE { s with heap := h, toks := tk })
    (done : ∀ D h tk ys news, ys.length = n → J ys news → Fr h₀ L h m → News h₀ L h ((D, lst ys) :: news) → Off1 D news → Q (.ref D) { s with heap := h, toks := tk })
    (hs : ∀ x, foldedSetIterable iter env x = pure x := by intro _; rfl) :
    wpAny (model prog w) A (eval (.ListComp elt [⟨.Name x px, iter, [], 0⟩] scope pos) env) Q E s := by
  refine ListComp_U F₀ hclos hcell hkind hnames hx (wpAny_mono hiter (fun xv s₁ h₁ => ?_) fun _ _ e => e) hs
  obtain ⟨r, t, u, v, news, h, tk, rfl, rfl, F, N, hr, hJ⟩ := h₁
  refine .inr ⟨r, a, b, t, u, v, n, news, rfl, hh, F, N, hr, hsm, hn, hsz, fun s₂ ⟨g, e⟩ => ?_⟩
  subst e
  exact restOf (s := { s with heap := g, toks := tk }) J (fun _ _ _ => trivial) (fun v ys news I oI C oC D m₂ h' tk' hP hlt hJ hC hx F' N' off a b c => turn v ys news I oI C oC D m₂ h' tk' hP hlt hJ hC hx F' N' off a b c)
    (fun ys news hl hJ D h' tk' F' N' o1 => done D h' tk' ys news hl hJ F' N' o1) n [] news (by simp) hJ
/-- a local bound to such a comprehension over a range -/
theorem assignRC {elt iter : Expr} {x y : Str} {px py : Pos} {scope : Scope} {cl : List (Str × Addr)} {pos spos : Pos} {Q : Flow → Shared → Prop} {a b : Int} {n : Nat} (J : List Value → List (Addr × Obj) → Prop) (_F₀ : Fr h₀ L s.heap m) (hLe : env.locals = L) (hh : A.handled = none)
    (hsw : swapsWith (.ListComp elt [⟨.Name x px, iter, [], 0⟩] scope pos) (some (.Name y py)) spos.line env = pure true)
    (hsm : Builtin.Range.small a b 1 = true) (hn : Builtin.Range.rangeSize a b 1 = ((n : Nat) : Int)) (hsz : n ≤ sizeLine)
    (hclos : closureFor scope env = pure cl) (hcs : ∀ n, cellsFrom n scope.names cl = (x, n) :: cl) (hps : ∀ h : Heap, pushCells h scope.names = h.push cellObj) (hkind : scope.kind = .function)
    (hnames : ∀ z ∈ scope.names, z.2 = .local → scope.names.lookup z.1 = some .local) (hx : ∀ C K, (compEnvC scope ((x, K) :: cl) C env).kindOf x = some .cell)
    (hy : env.kindOf y = some .local) (hp : (env.scope.kind == .class || (env.scope.kind == .module && env.locals != env.globals)) = false)
    (hiter : wpAny (model prog w) A (eval iter env) (SrcRg h₀ L m s a b J) E s)
    (turn : ∀ v ys news I oI C oC K oK D h tk, (∃ t, v = .int (a + (ys.length : Int)) t) → ys.length < n → J ys news → oK.data = .cell (some v) → Fr h₀ L h m → News h₀ L h ((I, oI) :: (C, oC) :: (K, oK) :: (D, lst ys) :: news) → Off4 I C K D news →
      wpAny (model prog w) A (eval elt (compEnvC scope ((x, K) :: cl) C env)) (EltC h₀ L m { s with heap := h, toks := tk } I oI C oC K oK D ys J) noE { s with heap := h, toks := tk })
    (done : ∀ D h tk ys news, ys.length = n → J ys news → Fr h₀ L h (fun z => if z = y then some (.ref D) else m z) → News h₀ L h ((D, lst ys) :: news) → (∀ p ∈ news, p.1 ≠ D) → Q .next { s with heap := h, toks := tk })
    (hs : ∀ x, foldedSetIterable iter env x = pure x := by intro _; rfl) :
    wpAny (model prog w) A (exec (.Assign [.Name y py] (.ListComp elt [⟨.Name x px, iter, [], 0⟩] scope pos) spos) env) Q E s := by
  subst hLe
  rw [exec_Assign_Name_used _ _ _ _ hsw]
  refine wpAny_bind (wpAny_standAt (wpAny_bind ?_))
  show wpAny _ A (do let _ ← comprehension (.ListComp elt [⟨.Name x px, iter, [], 0⟩] scope pos) scope env _ (newList []) false (eval iter env) (some (assign (.Name y py) env))) _ _ s
  refine wpAny_bind (wpAny_mono (wpAny_comprehension_free (use := some (assign (.Name y py) env)) (Q := fun _ s' => Q .next s') rfl hs hclos hkind hnames
    (wpAny_mono hiter (fun xv s₁ h₁ => ?_) fun _ _ e => e)) (fun _ s' hq => wpAny_pure (wpAny_pure hq)) fun _ _ e => e)
  obtain ⟨r, t, u, v, news, h, tk, rfl, rfl, F, N, hr, hJ⟩ := h₁
  refine wpAny_pyIter_range hr hsm ?_
  refine blockC J (range_walks hh a n) hsz (fun i h st => ⟨_, st⟩) (fun i h h' o st e e' => by
      have st' : h.get? _ = some _ := st
      show h'.get? _ = some _
      rw [e', ← e]; exact st') hcs hps hkind hx (by show IsRangeIter _ _ _ _ _; rw [hn]; simpa using Heap.get?_push_size _ rfl) (fun b hb => ?_)
    (F.keeps fun _ _ e => Heap.get?_push_of_some _ e) (N.grown fun _ _ e => Heap.get?_push_of_some _ e) (Nat.ne_of_lt F.ns.lt) (next_is_new F) (fun p hp => Nat.ne_of_lt (Heap.lt_size (N p hp).1)) hJ
    (fun v ys news I oI C oC K oK D h' tk' hP hlt hJ hoK F' N' off => turn v ys news I oI C oC K oK D h' tk' hP hlt hJ hoK F' N' off) ?_
  · rw [List.mem_singleton.mp hb]
    show h.objs.size < (h.push _).objs.size
    rw [Heap.size_push]; exact Nat.lt_succ_self _
  · intro D C h' tk' m' ys news' hl hJ' F' N' o1 hn' hC₀ hCL hCD offC
    show wpAny _ A (assign (.Name y py) env (.ref D)) _ _ _
    refine wpAny_assign_Name (wpAny_storeName_local hy F'.ns (fun h₂ hn₂ hs₂ => ?_) hp)
    have hL₀ : h₀.get? env.locals = none := Heap.get?_none_of_le F'.above
    have F₂ : Fr h₀ env.locals h₂ (fun z => if z = y then some (.ref D) else m z) := ⟨hn₂, fun b o e => hs₂.extBut b o (fun q => by rw [q, hL₀] at e; cases e) (F'.keep b o e), F'.above⟩
    refine ⟨m', hn'.sameBut hs₂ hCL, fun h'' hs'' => done D h'' _ ys news' hl hJ' (F₂.change hs'' hCL hC₀) (fun p hp => ?_) o1⟩
    have z : h₂.get? p.1 = some p.2 := hs₂.extBut _ _ (N' p hp).2.1 (N' p hp).1
    refine ⟨hs''.extBut _ _ ?_ z, (N' p hp).2⟩
    rcases List.mem_cons.mp hp with rfl | hp
    · exact Ne.symm hCD
    · exact offC p hp
/-- range(n) made -/
theorem rangeNew {b : Int} {t : Tok} {news : List (Addr × Obj)} {Q : Value → Shared → Prop} (F : Fr h₀ L s.heap m) (N : News h₀ L s.heap news)
    (h : ∀ r h' tk u v, Fr h₀ L h' m → News h₀ L h' news → IsRange h' r 0 b 1 u t v → Q (.ref r) { s with heap := h', toks := tk }) :
    wpAny (model prog w) A (call (.type "range") [.int b t] []) Q E s :=
  call_range_1 (h _ _ _ _ _ (F.push _) (N.grown fun _ _ e => Heap.get?_push_of_some _ e) (IsRange.new ..))
end
end Mine
namespace Mine
open PySem PySem.W PySem.Calls PyProof.Rows
section
variable {prog : Program} {w : World} {A : Around} {s : Shared} {env : Env} {h₀ : Heap}
/-- the source of a loop is told, whatever its address -/
def IterAny (h₀ : Heap) (L : Addr) (s : Shared) (J : Addr → Nat → (Str → Option Value) → List (Addr × Obj) → Prop) (xv : Value) (s₁ : Shared) : Prop := ∃ l, IterAt h₀ L s (J l 0) (.ref l) xv s₁
theorem forTupleS {x : Str} {px pos : Pos} {iter : Expr} {body : List Stmt} {L : Addr} {items : Array Value} {Q : Flow → Shared → Prop}
    (J : Addr → Nat → (Str → Option Value) → List (Addr × Obj) → Prop)
    (hiter : wpAny (model prog w) A (eval iter env) (IterAny h₀ L s J) noE s)
    (hl : ∀ l i m news h, J l i m news → Fr h₀ L h m → News h₀ L h news → h.IsTuple l items)
    (turn : ∀ l i v m news it o h tk, items[i]? = some v → J l i m news → (∀ p ∈ news, p.1 ≠ it) → it ≠ l → Fr h₀ L h m → News h₀ L h ((it, o) :: news) →
      wpAny (model prog w) A (storeName env x v) (fun _ s₂ => wpAny (model prog w) A (execs body env) (Turn h₀ L it o (J l (i + 1)) Q { s with heap := h, toks := tk }) noE s₂) noE { s with heap := h, toks := tk })
    (done : ∀ l m news h tk, J l items.size m news → Fr h₀ L h m → News h₀ L h news → Q .next { s with heap := h, toks := tk })
    (hh : A.handled = none)
    (hL : env.locals = L := by rfl) (hs : ∀ x, foldedSetIterable iter env x = pure x := by intro _; rfl) :
    wpAny (model prog w) A (exec (.For (.Name x px) iter body [] pos) env) Q noE s := by
  subst hL
  refine wpAny_For (wpAny_mono hiter (fun xv s₁ h₁ => ?_) fun _ _ e => e) hs
  obtain ⟨l, rfl, m, news, h, tk, rfl, F, N, j0⟩ := h₁
  have hls := hl l 0 m news h j0 F N
  refine wpAny_pyIter_tuple hls ?_
  have hit : (h.push { cls := .type "tuple_iterator", data := .fields #[.ref l, .int 0 0] }).IsTupleIter h.objs.size l 0 := ⟨_, Heap.get?_push_size _ rfl, rfl, rfl⟩
  have hlt : ∀ b o, h.get? b = some o → b ≠ h.objs.size := fun b o e => Nat.ne_of_lt (Heap.lt_size e)
  refine codeAny_forLoop
    (fun n s' => ∃ h' tk m' i news', s' = { s with heap := h', toks := tk } ∧ h'.IsTupleIter h.objs.size l i ∧ Fr h₀ env.locals h' m' ∧ News h₀ env.locals h' news' ∧ (∀ p ∈ news', p.1 ≠ h.objs.size) ∧ J l i m' news' ∧ i ≤ items.size ∧ n = items.size + 1 - i ∧ h.objs.size ≠ env.locals ∧ h₀.get? h.objs.size = none ∧ h.objs.size ≠ l)
    ?_ (items.size + 1) ⟨_, tk, m, 0, news, rfl, hit, F.push _, fun p hp => ⟨Heap.get?_push_of_some _ (N p hp).1, (N p hp).2⟩, fun p hp => hlt _ _ (N p hp).1, j0, Nat.zero_le _, rfl, Nat.ne_of_gt F.ns.lt, ?_, ?_⟩
  · rintro n s' ⟨h', tk, m', i, news', rfl, hit', F', N', hn, hJ, hi, rfl, e1, e2, e3⟩
    have hl' := hl l i m' news' h' hJ F' N'
    cases hv : items[i]? with
    | none =>
      have hsz : i = items.size := Nat.le_antisymm hi (by simpa using hv)
      refine wpAny_pyNext_tuple_end hh hit' hl' hv fun h₁ he₁ => wpAny_execs_nil ?_
      exact done l m' news' h₁ tk (hsz ▸ hJ) (frSame F' he₁ e1 e2) (newsSame N' he₁ hn)
    | some v =>
      have hlt' : i < items.size := (Array.getElem?_eq_some_iff.mp hv).1
      refine wpAny_pyNext_tuple_item hit' hl' hv fun h₁ hit₁ hs₁ => ?_
      have F₁ := frSame F' hs₁.extBut e1 e2
      have N₁ := newsSame N' hs₁.extBut hn
      obtain ⟨o, ho, q1, q2⟩ := hit₁
      have N₂ : News h₀ env.locals h₁ ((h.objs.size, o) :: news') := by
        intro p hp
        rcases List.mem_cons.mp hp with rfl | hp
        · exact ⟨ho, e1, e2⟩
        · exact N₁ p hp
      refine wpAny_assign_Name (wpAny_mono (turn l i v m' news' h.objs.size o h₁ _ hv hJ hn e3 F₁ N₂) (fun _ s₂ h₂ => ?_) fun _ _ e => e.elim)
      refine wpAny_mono h₂ (fun f s₃ h₃ => ?_) fun _ _ e => e.elim
      cases f with
      | ret v => exact h₃
      | brk => exact h₃
      | next =>
        obtain ⟨m₃, news₃, h₃', tk₃, rfl, F₃, N₃, hn₃, hJ₃⟩ := h₃
        exact ⟨items.size + 1 - (i + 1), by omega, h₃', tk₃, m₃, i + 1, news₃, rfl, ⟨o, (N₃ _ (.head _)).1, q1, q2⟩, F₃, fun p hp => N₃ p (.tail _ hp), hn₃, hJ₃, hlt', rfl, e1, e2, e3⟩
      | cont =>
        obtain ⟨m₃, news₃, h₃', tk₃, rfl, F₃, N₃, hn₃, hJ₃⟩ := h₃
        exact ⟨items.size + 1 - (i + 1), by omega, h₃', tk₃, m₃, i + 1, news₃, rfl, ⟨o, (N₃ _ (.head _)).1, q1, q2⟩, F₃, fun p hp => N₃ p (.tail _ hp), hn₃, hJ₃, hlt', rfl, e1, e2, e3⟩
  · cases q : h₀.get? h.objs.size with
    | none => rfl
    | some o => exact absurd (Heap.lt_size (F.keep _ _ q)) (Nat.lt_irrefl _)
  · obtain ⟨ol, hol, _⟩ := hls
    exact (hlt _ _ hol).symm

end
end Mine
namespace Mine
open PySem PySem.W PySem.Calls PyProof.Rows PySem.Spec
open LCg
section
variable {prog : Program} {w : World} {A : Around} {E : Value → Shared → Prop} {s : Shared} {h₀ : Heap} {L : Addr} {m : Str → Option Value} {env : Env}
/-- none of a ledger is the frame, the row or the iterator of a comprehension -/
def OffP (wr : List Addr) (C D : Addr) (l : List (Addr × Obj)) : Prop := ∀ p ∈ l, p.1 ≠ C ∧ p.1 ≠ D ∧ p.1 ∉ wr
def EltP (h₀ : Heap) (L : Addr) (m : Str → Option Value) (s : Shared) (own : List (Addr × Obj)) (wr : List Addr) (C : Addr) (oC : Obj) (D : Addr) (ys : List Value) (J : List Value → List (Addr × Obj) → Prop) (y : Value) (s₂ : Shared) : Prop :=
  ∃ h' tk' news', s₂ = { s with heap := h', toks := tk' } ∧ Fr h₀ L h' m ∧ News h₀ L h' ((C, oC) :: (D, lst ys) :: (news' ++ own)) ∧ OffP wr C D news' ∧ J (ys ++ [y]) news'
theorem blockP {elt iter : Expr} {x1 x2 : Str} {p1 p2 pt : Pos} {kt : Nat} {scope : Scope} {cl : List (Str × Addr)} {pos : Pos} {s₂ : Shared} {I : Addr} {fp wr : List Addr} {n : Nat} {P : Nat → Array Value → Prop} {St : Nat → Heap → Prop} {Mid : Nat → Addr → Heap → Prop} {news : List (Addr × Obj)}
    {RR : Value → Addr → Result → Shared → Prop} (J : List Value → List (Addr × Obj) → Prop)
    (W : WalksT prog w A I fp wr n P St Mid) (hsz : n ≤ sizeLine) (hP : ∀ i vals, P i vals → ∃ v1 v2, vals = #[v1, v2]) (hh : A.handled = none)
    (hcell : ∀ y ∈ scope.names, y.2 ≠ .cell) (hkind : scope.kind = .function) (hx1 : scope.names.lookup x1 = some .local) (hx2 : scope.names.lookup x2 = some .local) (hxx : x1 ≠ x2) (hst : St 0 s₂.heap) (hfp : ∀ b ∈ fp, b < s₂.heap.objs.size)
    (F : Fr h₀ L s₂.heap m) (N : News h₀ L s₂.heap news) (hLf : L ∉ fp) (hwr₀ : ∀ b ∈ wr, h₀.get? b = none) (hWo : ∀ i h, St i h → ∀ b ∈ wr, ∃ o, h.get? b = some o) (off : ∀ p ∈ news, p.1 ∉ wr) (hJ : J [] news)
    (turn : ∀ v1 v2 ys news own C oC D m₂ h tk, P ys.length #[v1, v2] → ys.length < n → J ys news → NsObj oC m₂ → m₂ x1 = some v1 → m₂ x2 = some v2 → Fr h₀ L h m → News h₀ L h ((C, oC) :: (D, lst ys) :: (news ++ own)) → OffP wr C D news → (∀ b ∈ wr, ∃ o, (b, o) ∈ own) →
      wpAny (model prog w) A (eval elt (compEnvC scope cl C env)) (EltP h₀ L m { s₂ with heap := h, toks := tk } own wr C oC D ys J) noE { s₂ with heap := h, toks := tk })
    (hRR : ∀ D C h tk m' ys news', ys.length = n → J ys news' → Fr h₀ L h m → News h₀ L h ((D, lst ys) :: news') → (∀ p ∈ news', p.1 ≠ D) → h.Ns C m' → h₀.get? C = none → C ≠ L → C ≠ D → (∀ p ∈ news', p.1 ≠ C) → RR (.ref D) C (.ok .next) { s₂ with heap := h, toks := tk }) :
    wpAny (model prog w) A (newList []) (fun acc s₃ => wpAny (model prog w) A (newFunctionEnv scope env.globals cl [] env.qual none .none (some env)) (fun cenv s₄ =>
      codeAny (model prog w) A (.compStart (.ListComp elt [⟨.Tuple [.Name x1 p1, .Name x2 p2] kt pt, iter, [], 0⟩] scope pos) 0 (.ref I) acc { cenv with scope := relabel scope env }) (RR acc cenv.locals) s₄) E s₃) E s₂ := by
  refine wpAny_newObj_type (wpAny_newFunctionEnv hcell (by intro y hy; simp at hy) (fun h₁ hns₁ hsb₁ => ?_) hkind)
  dsimp only at hns₁ hsb₁ ⊢
  generalize hH2 : s₂.heap.push { cls := .type "list", dict := none, data := .seq ([] : List Value).toArray } = H2 at hns₁ hsb₁ ⊢
  have hC : H2.objs.size = s₂.heap.objs.size + 1 := by rw [← hH2, Heap.size_push]
  have hDC : s₂.heap.objs.size ≠ H2.objs.size := by rw [hC]; exact Nat.ne_of_lt (Nat.lt_succ_self _)
  have below : ∀ b, b < s₂.heap.objs.size → b ≠ H2.objs.size ∧ b ≠ s₂.heap.objs.size := fun b hb => ⟨by rw [hC]; exact Nat.ne_of_lt (Nat.lt_succ_of_lt hb), Nat.ne_of_lt hb⟩
  have hDf : ∀ b ∈ fp, b ≠ s₂.heap.objs.size := fun b hb => (below b (hfp b hb)).2
  have hCf : ∀ b ∈ fp, b ≠ H2.objs.size := fun b hb => (below b (hfp b hb)).1
  have old : ∀ b o, s₂.heap.get? b = some o → h₁.get? b = some o := fun b o e => hsb₁.extBut b o (below b (Heap.lt_size e)).1 (Heap.get?_push_of_some _ (hH2 ▸ Heap.get?_push_of_some _ e))
  have hacc : h₁.get? s₂.heap.objs.size = some (lst []) := hsb₁.extBut _ _ hDC (Heap.get?_push_of_some _ (hH2 ▸ Heap.get?_push_size _ rfl))
  have hst₁ : St 0 h₁ := W.frame _ _ _ hst fun b _ o e => old b o e
  have fresh₀ : ∀ a, s₂.heap.objs.size ≤ a → h₀.get? a = none := fun a ha => by
    cases e : h₀.get? a with
    | none => rfl
    | some o' => exact absurd (Heap.lt_size (F.keep a o' e)) (Nat.not_lt.mpr ha)
  have hD₀ : h₀.get? s₂.heap.objs.size = none := fresh₀ _ (Nat.le_refl _)
  have hC₀ : h₀.get? H2.objs.size = none := fresh₀ _ (by rw [hC]; exact Nat.le_succ _)
  have hLlt : L < s₂.heap.objs.size := F.ns.lt
  have hDL : s₂.heap.objs.size ≠ L := Ne.symm (below L hLlt).2
  have hCL : H2.objs.size ≠ L := Ne.symm (below L hLlt).1
  have hDw : s₂.heap.objs.size ∉ wr := fun hm => hDf _ (W.sub _ hm) rfl
  have hCw : H2.objs.size ∉ wr := fun hm => hCf _ (W.sub _ hm) rfl
  have hLw : L ∉ wr := fun hm => hLf (W.sub _ hm)
  have off₀ : OffP wr H2.objs.size s₂.heap.objs.size news := fun p hp => ⟨(below _ (Heap.lt_size (N p hp).1)).1, (below _ (Heap.lt_size (N p hp).1)).2, off p hp⟩
  have frW : ∀ {h h' : Heap}, Fr h₀ L h m → (∀ b o, b ∉ wr → h.get? b = some o → h'.get? b = some o) → Fr h₀ L h' m := fun F hk =>
    ⟨F.ns.at' fun o e => hk L o hLw e, fun b o e => hk b o (fun hm => by rw [hwr₀ b hm] at e; cases e) (F.keep b o e), F.above⟩
  have neW : ∀ {h h' : Heap} {l : List (Addr × Obj)}, News h₀ L h l → (∀ p ∈ l, p.1 ∉ wr) → (∀ b o, b ∉ wr → h.get? b = some o → h'.get? b = some o) → News h₀ L h' l := fun N o hk p hp => ⟨hk _ _ (o p hp) (N p hp).1, (N p hp).2⟩
  have loop : ∀ s₃ : Shared, s₃ = { s₂ with heap := h₁, toks := s₂.toks + ([] : List (Str × Value)).length } →
      codeAny (model prog w) A (.compLoop (.ListComp elt [⟨.Tuple [.Name x1 p1, .Name x2 p2] kt pt, iter, [], 0⟩] scope pos) 0 (.ref I) (.ref s₂.heap.objs.size) (compEnvC scope cl H2.objs.size env))
        (RR (.ref s₂.heap.objs.size) H2.objs.size) s₃ := by
    rintro s₃ rfl
    refine LCp.codeAny_compLoop_pair
      (fun k s' => ∃ h' tk i ys m' news', s' = { s₂ with heap := h', toks := tk } ∧ i ≤ n ∧ k = n + 1 - i ∧ ys.length = i ∧ St i h' ∧ Fr h₀ L h' m ∧ h'.Ns H2.objs.size m' ∧ News h₀ L h' ((s₂.heap.objs.size, lst ys) :: news') ∧
        OffP wr H2.objs.size s₂.heap.objs.size news' ∧ J ys news') ?_ (n + 1)
      ⟨h₁, _, 0, [], _, news, rfl, Nat.zero_le _, rfl, rfl, hst₁, F.keeps old, hns₁, fun p hp => ?_, off₀, hJ⟩
    · rintro k s' ⟨h', tk, i, ys, m', news', rfl, hi, rfl, hyl, hst', F', hn', N', off', hJ'⟩
      have offW : ∀ p ∈ (s₂.heap.objs.size, lst ys) :: news', p.1 ∉ wr := fun p hp => by
        rcases List.mem_cons.mp hp with rfl | hp
        · exact hDw
        · exact (off' p hp).2.2
      by_cases hlt : i < n
      · refine W.item i _ _ _ hlt hst' fun T vals h₂ tk₂ hPv hsT hT hMid hk₂ => ?_
        obtain ⟨v1, v2, rfl⟩ := hP i vals hPv
        have N₂ := neW N' offW hk₂
        have F₂ := frW F' hk₂
        have hn₂ : h₂.Ns H2.objs.size m' := hn'.at' fun o e => hk₂ _ o hCw e
        refine W.go _ _ _ i T _ _ _ hMid fun h₃ hst₃ hk₃ => ?_
        have N₃ := neW N₂ offW hk₃
        have F₃ := frW F₂ hk₃
        have hn₃ : h₃.Ns H2.objs.size m' := hn₂.at' fun o e => hk₃ _ o hCw e
        have hT₃ : IsTup h₃ T #[v1, v2] := by
          obtain ⟨o, ho, r⟩ := hT
          exact ⟨o, hk₃ _ _ (W.apart _ _ _ hMid) ho, r⟩
        refine assign_Tuple_tuple hh hT₃ rfl rfl fun h₅ he => ?_
        have he' : ∀ b o, h₃.get? b = some o → h₅.get? b = some o := fun b o e => he b o (Nat.ne_of_lt (Heap.lt_size e)) e
        have hn₅ : h₅.Ns H2.objs.size m' := hn₃.at' fun o e => he' _ o e
        refine assignInOrder_cons (wpAny_assign_Name (wpAny_storeName_local (lookup_relabel_local hx1) hn₅ (fun h₆ hn₆ hs₆ => ?_) (by simp [compEnvC, relabel, hkind])))
        refine assignInOrder_cons (wpAny_assign_Name (wpAny_storeName_local (lookup_relabel_local hx2) hn₆ (fun h₇ hn₇ hs₇ => ?_) (by simp [compEnvC, relabel, hkind])))
        refine assignInOrder_nil ?_
        have old7 : ∀ b o, b ≠ H2.objs.size → h₃.get? b = some o → h₇.get? b = some o := fun b o hb e => hs₇.extBut b o hb (hs₆.extBut b o hb (he' b o e))
        have hst₇ : St (i + 1) h₇ := W.frame _ _ _ hst₃ fun b hb o e => old7 b o (hCf b hb) e
        obtain ⟨oC, heC, hoC⟩ := ns_obj hn₇
        have F₇ : Fr h₀ L h₇ m := ((F₃.keeps he').change hs₆ hCL hC₀).change hs₇ hCL hC₀
        have N₇ : News h₀ L h₇ ((H2.objs.size, oC) :: (s₂.heap.objs.size, lst ys) :: (news' ++ ownOf h₀ fp h₇)) := fun p hp => by
          rcases List.mem_cons.mp hp with rfl | hp
          · exact ⟨heC, hCL, hC₀⟩
          rcases List.mem_cons.mp hp with rfl | hp
          · exact ⟨old7 _ _ hDC (N₃ _ (.head _)).1, (N₃ _ (.head _)).2⟩
          rcases List.mem_append.mp hp with hp | hp
          · exact ⟨old7 _ _ (off' p hp).1 (N₃ p (.tail _ hp)).1, (N₃ p (.tail _ hp)).2⟩
          · exact news_ownOf hLf p hp
        refine wpAny_mono (turn v1 v2 ys news' (ownOf h₀ fp h₇) H2.objs.size oC s₂.heap.objs.size _ h₇ _ (hyl ▸ hPv) (hyl ▸ hlt) hJ' hoC (by simp [hxx]) (by simp) F₇ N₇ off' (fun b hb => by
          obtain ⟨o, e⟩ := hWo _ _ hst₇ b hb
          exact ⟨o, mem_ownOf (W.sub b hb) (hwr₀ b hb) e⟩)) (fun y s₄ h₄ => ?_) fun _ _ e => e.elim
        obtain ⟨h₄, tk₄, news₄, rfl, F₄, N₄, off₄, hJ₄⟩ := h₄
        have zC := (N₄ _ (.head _)).1
        have zD := (N₄ _ (.tail _ (.head _))).1
        have hst₄ : St (i + 1) h₄ := W.frame _ _ _ hst₇ fun b hb o e => by
          cases q : h₀.get? b with
          | some o' =>
            have := F₇.keep b o' q
            rw [e] at this; cases this
            exact F₄.keep b _ q
          | none => exact (N₄ _ (.tail _ (.tail _ (List.mem_append_right _ (mem_ownOf hb q e))))).1
        refine append_at (hsz := by show ys.toArray.size ≤ sizeLine; rw [List.size_toArray, hyl]; exact Nat.le_trans hi hsz) zD fun h₈ hs₈ hD₈ => ?_
        refine ⟨n + 1 - (i + 1), by omega, h₈, tk₄, i + 1, ys ++ [y], _, news₄, rfl, hlt, rfl, by rw [List.length_append, List.length_singleton, hyl], W.frame _ _ _ hst₄ fun b hb o e => hs₈.extBut b o (hDf b hb) e, F₄.change hs₈ hDL hD₀,
          (hoC.ns zC).sameBut hs₈ hDC.symm, fun p hp => ?_, off₄, hJ₄⟩
        rcases List.mem_cons.mp hp with rfl | hp
        · exact ⟨hD₈.trans (congrArg some (lst_snoc ys y)), hDL, hD₀⟩
        · have z := N₄ p (.tail _ (.tail _ (List.mem_append_left _ hp)))
          exact ⟨hs₈.extBut _ _ (off₄ p hp).2.1 z.1, z.2⟩
      · obtain rfl : i = n := Nat.le_antisymm hi (Nat.not_lt.mp hlt)
        refine W.done _ _ _ hst' fun h₂ tk₂ hk₂ => ?_
        exact hRR _ _ h₂ tk₂ m' ys news' hyl hJ' (frW F' hk₂) (neW N' offW hk₂) (fun p hp => (off' p hp).2.1) (hn'.at' fun o e => hk₂ _ o hCw e) hC₀ hCL hDC.symm fun p hp => (off' p hp).1
    · rcases List.mem_cons.mp hp with rfl | hp
      · exact ⟨hacc, hDL, hD₀⟩
      · exact ⟨old _ _ (N p hp).1, (N p hp).2⟩
  exact codeAny_compStart_list (loop _ rfl) (W.self 0 _ _ _ hst₁ (loop _ rfl))
/-- the source of a comprehension is enumerate(a list of the ledger) -/
def SrcEn (h₀ : Heap) (L : Addr) (m : Str → Option Value) (s : Shared) (its : Array Value) (J : List Value → List (Addr × Obj) → Prop) (xv : Value) (s₁ : Shared) : Prop :=
  ∃ e it l news h tk, xv = .ref e ∧ s₁ = { s with heap := h, toks := tk } ∧ Fr h₀ L h m ∧ News h₀ L h news ∧ (∃ old, IsEnum h e it 0 old) ∧ h.IsListIter it l 0 ∧ h.IsList l its ∧ e ≠ it ∧ l ≠ e ∧ l ≠ it ∧ e ≠ L ∧ it ≠ L ∧ l ≠ L ∧ h₀.get? e = none ∧ h₀.get? it = none ∧ (∀ p ∈ news, p.1 ≠ e ∧ p.1 ≠ it) ∧ J [] news
theorem enumNew {l : Addr} {its : Array Value} {k : Nat} {news : List (Addr × Obj)} {J : List Value → List (Addr × Obj) → Prop} {s₀ : Shared} (F : Fr h₀ L s.heap m) (N : News h₀ L s.heap news) (hm : (l, ({ cls := .type "list", data := .seq its k } : Obj)) ∈ news) (hs : ∃ h tk, s = { s₀ with heap := h, toks := tk }) (hJ : J [] news) :
    wpAny (model prog w) A (call (.type "enumerate") [.ref l] []) (SrcEn h₀ L m s₀ its J) E s := by
  have hl : s.heap.IsList l its := ⟨_, (N _ hm).1, rfl, k, rfl⟩
  have hlt : l < s.heap.objs.size := Heap.lt_size (N _ hm).1
  refine call_enumerate_list hl fun h' hE hI hsz hk => ?_
  obtain ⟨hh, tk, rfl⟩ := hs
  have hL := F.ns.lt
  have nn : ∀ a, hh.objs.size ≤ a → h₀.get? a = none := fun a ha => by
    cases e : h₀.get? a with
    | none => rfl
    | some o => exact absurd (Heap.lt_size (F.keep _ _ e)) (Nat.not_lt.mpr ha)
  refine ⟨_, _, l, news, h', tk, rfl, rfl, F.keeps hk, N.grown hk, ⟨_, hE⟩, hI, hl.at fun o e => hk _ o e, Nat.succ_ne_self _, ?_, Nat.ne_of_lt hlt, ?_, Nat.ne_of_gt hL, (N _ hm).2.1, nn _ (Nat.le_succ _), nn _ (Nat.le_refl _), fun p hp => ?_, hJ⟩
  · exact Nat.ne_of_lt (Nat.lt_succ_of_lt hlt)
  · exact Nat.ne_of_gt (Nat.lt_succ_of_lt hL)
  · have := Heap.lt_size (N p hp).1
    exact ⟨Nat.ne_of_lt (Nat.lt_succ_of_lt this), Nat.ne_of_lt this⟩
/-- a local bound to a comprehension over enumerate(a list) -/
theorem assignEn {elt iter : Expr} {x1 x2 y : Str} {p1 p2 pt py : Pos} {kt : Nat} {scope : Scope} {cl : List (Str × Addr)} {pos spos : Pos} {Q : Flow → Shared → Prop} (its : Array Value) (J : List Value → List (Addr × Obj) → Prop) (_F₀ : Fr h₀ L s.heap m) (hLe : env.locals = L) (hh : A.handled = none)
    (hsw : swapsWith (.ListComp elt [⟨.Tuple [.Name x1 p1, .Name x2 p2] kt pt, iter, [], 0⟩] scope pos) (some (.Name y py)) spos.line env = pure true) (hsz : its.size ≤ sizeLine)
    (hclos : closureFor scope env = pure cl) (hcell : ∀ y ∈ scope.names, y.2 ≠ .cell) (hkind : scope.kind = .function)
    (hnames : ∀ z ∈ scope.names, z.2 = .local → scope.names.lookup z.1 = some .local) (hx1 : scope.names.lookup x1 = some .local) (hx2 : scope.names.lookup x2 = some .local) (hxx : x1 ≠ x2)
    (hy : env.kindOf y = some .local) (hp : (env.scope.kind == .class || (env.scope.kind == .module && env.locals != env.globals)) = false)
    (hiter : wpAny (model prog w) A (eval iter env) (SrcEn h₀ L m s its J) E s)
    (turn : ∀ t v2 ys news own wr C oC D m₂ h tk, its[ys.length]? = some v2 → J ys news → NsObj oC m₂ → m₂ x1 = some (.int (ys.length : Int) t) → m₂ x2 = some v2 → Fr h₀ L h m → News h₀ L h ((C, oC) :: (D, lst ys) :: (news ++ own)) → OffP wr C D news → (∀ b ∈ wr, ∃ o, (b, o) ∈ own) →
      wpAny (model prog w) A (eval elt (compEnvC scope cl C env)) (EltP h₀ L m { s with heap := h, toks := tk } own wr C oC D ys J) noE { s with heap := h, toks := tk })
    (done : ∀ D h tk ys news, ys.length = its.size → J ys news → Fr h₀ L h (fun z => if z = y then some (.ref D) else m z) → News h₀ L h ((D, lst ys) :: news) → (∀ p ∈ news, p.1 ≠ D) → Q .next { s with heap := h, toks := tk })
    (hs : ∀ x, foldedSetIterable iter env x = pure x := by intro _; rfl) :
    wpAny (model prog w) A (exec (.Assign [.Name y py] (.ListComp elt [⟨.Tuple [.Name x1 p1, .Name x2 p2] kt pt, iter, [], 0⟩] scope pos) spos) env) Q E s := by
  subst hLe
  rw [exec_Assign_Name_used _ _ _ _ hsw]
  refine wpAny_bind (wpAny_standAt (wpAny_bind ?_))
  show wpAny _ A (do let _ ← comprehension (.ListComp elt [⟨.Tuple [.Name x1 p1, .Name x2 p2] kt pt, iter, [], 0⟩] scope pos) scope env _ (newList []) false (eval iter env) (some (assign (.Name y py) env))) _ _ s
  refine wpAny_bind (wpAny_mono (wpAny_comprehension_free (use := some (assign (.Name y py) env)) (Q := fun _ s' => Q .next s') rfl hs hclos hkind hnames
    (wpAny_mono hiter (fun xv s₁ h₁ => ?_) fun _ _ e => e)) (fun _ s' hq => wpAny_pure (wpAny_pure hq)) fun _ _ e => e)
  obtain ⟨e, it, l, news, h, tk, rfl, rfl, F, N, ⟨old, hE⟩, hI, hl, n1, n2, n3, l1, l2, l3, e0, i0, off, hJ⟩ := h₁
  refine wpAny_pyIter_enum hE ?_
  have h1 : e < h.objs.size := Heap.lt_size hE
  have h2 : it < h.objs.size := by obtain ⟨_, q, _⟩ := hI; exact Heap.lt_size q
  have h3 : l < h.objs.size := by obtain ⟨_, q, _⟩ := hl; exact Heap.lt_size q
  refine blockP J (WalksT.enumerate hh e it l n1 n2 n3 its) hsz (fun i vals ⟨t, x, _, q⟩ => ⟨_, _, q⟩) hh hcell hkind hx1 hx2 hxx ⟨⟨old, hE⟩, hI, hl⟩ (fun b hb => ?_) F N (fun hm => ?_) (fun b hb => ?_) (fun i h st b hb => ?_) (fun p hp => ?_) hJ
    (fun v1 v2 ys news own C oC D m₂ h' tk' hP hlt hJ hC hm1 hm2 F' N' off' ho => ?_) ?_
  · simp only [List.mem_cons, List.not_mem_nil, or_false] at hb
    rcases hb with rfl | rfl | rfl
    · exact h1
    · exact h2
    · exact h3
  · simp only [List.mem_cons, List.not_mem_nil, or_false] at hm
    rcases hm with q | q | q
    · exact l1 q.symm
    · exact l2 q.symm
    · exact l3 q.symm
  · simp only [List.mem_cons, List.not_mem_nil, or_false] at hb
    rcases hb with rfl | rfl
    · exact e0
    · exact i0
  · obtain ⟨⟨old, q⟩, ⟨o, q', _⟩, _⟩ := st
    simp only [List.mem_cons, List.not_mem_nil, or_false] at hb
    rcases hb with rfl | rfl
    · exact ⟨_, q⟩
    · exact ⟨o, q'⟩
  · simp only [List.mem_cons, List.not_mem_nil, or_false, not_or]
    exact off p hp
  · obtain ⟨t, x, hx, q⟩ := hP
    have q1 : v1 = .int (ys.length : Int) t ∧ v2 = x := by simpa using q
    obtain ⟨rfl, rfl⟩ := q1
    exact turn t v2 ys news own [e, it] C oC D m₂ h' tk' hx hJ hC hm1 hm2 F' N' off' ho
  · intro D C h' tk' m' ys news' hl hJ' F' N' o1 hn' hC₀ hCL hCD offC
    show wpAny _ A (assign (.Name y py) env (.ref D)) _ _ _
    refine wpAny_assign_Name (wpAny_storeName_local hy F'.ns (fun h₂ hn₂ hs₂ => ?_) hp)
    have hL₀ : h₀.get? env.locals = none := Heap.get?_none_of_le F'.above
    have F₂ : Fr h₀ env.locals h₂ (fun z => if z = y then some (.ref D) else m z) := ⟨hn₂, fun b o e => hs₂.extBut b o (fun q => by rw [q, hL₀] at e; cases e) (F'.keep b o e), F'.above⟩
    refine ⟨m', hn'.sameBut hs₂ hCL, fun h'' hs'' => done D h'' _ ys news' hl hJ' (F₂.change hs'' hCL hC₀) (fun p hp => ?_) o1⟩
    have z : h₂.get? p.1 = some p.2 := hs₂.extBut _ _ (N' p hp).2.1 (N' p hp).1
    refine ⟨hs''.extBut _ _ ?_ z, (N' p hp).2⟩
    rcases List.mem_cons.mp hp with rfl | hp
    · exact Ne.symm hCD
    · exact offC p hp
end
end Mine
namespace Mine
open PySem PySem.W PySem.Calls PyProof.Rows PySem.Spec
open LCg
section
variable {prog : Program} {w : World} {A : Around} {E : Value → Shared → Prop} {s : Shared} {h₀ : Heap} {L : Addr} {m : Str → Option Value} {env : Env}
/-- a comprehension over a list that its own source makes -/
def SrcX (h₀ : Heap) (L : Addr) (m : Str → Option Value) (s : Shared) (J : Addr → Array Value → List Value → List (Addr × Obj) → Prop) (xv : Value) (s₁ : Shared) : Prop := ∃ ax its, its.size ≤ sizeLine ∧ xv = .ref ax ∧ SrcJ h₀ L m s its (J ax its) xv s₁
theorem compX {elt iter : Expr} {x : Str} {px : Pos} {scope : Scope} {cl : List (Str × Addr)} {pos : Pos} {Q : Value → Shared → Prop} (J : Addr → Array Value → List Value → List (Addr × Obj) → Prop) (F₀ : Fr h₀ L s.heap m) (hh : A.handled = none)
    (hclos : closureFor scope env = pure cl) (hcell : ∀ y ∈ scope.names, y.2 ≠ .cell) (hkind : scope.kind = .function)
    (hnames : ∀ y ∈ scope.names, y.2 = .local → scope.names.lookup y.1 = some .local) (hx : scope.names.lookup x = some .local)
    (hiter : wpAny (model prog w) A (eval iter env) (SrcX h₀ L m s J) E s)
    (turn : ∀ ax its v ys news I oI C oC D m₂ h tk, its[ys.length]? = some v → J ax its ys news → NsObj oC m₂ → m₂ x = some v → Fr h₀ L h m → News h₀ L h ((I, oI) :: (C, oC) :: (D, lst ys) :: news) → Off3 I C D news → I ≠ C → I ≠ D → C ≠ D →
      wpAny (model prog w) A (eval elt (compEnvC scope cl C env)) (EltAt h₀ L m { s with heap := h, toks := tk } I oI C oC D ys (J ax its)) noE { s with heap := h, toks := tk })
    (done : ∀ ax its D h tk ys news, ys.length = its.size → J ax its ys news → Fr h₀ L h m → News h₀ L h ((D, lst ys) :: news) → Off1 D news → Q (.ref D) { s with heap := h, toks := tk })
    (hs : ∀ x, foldedSetIterable iter env x = pure x := by intro _; rfl) :
    wpAny (model prog w) A (eval (.ListComp elt [⟨.Name x px, iter, [], 0⟩] scope pos) env) Q E s := by
  refine ListComp_U F₀ hclos hcell hkind hnames hx (wpAny_mono hiter (fun xv s₁ h₁ => ?_) fun _ _ e => e) hs
  obtain ⟨ax, its, hsz, rfl, ax', news, h, tk, e, rfl, F, N, hJS, hJ⟩ := h₁
  cases e
  refine .inl ⟨ax, its, news, rfl, hh, F, N, hJS _ _ hJ, hsz, fun s₂ ⟨g, e⟩ => ?_⟩
  subst e
  exact restOf (s := { s with heap := g, toks := tk }) (J ax its) (fun ys n' j => hJS ys n' j) (fun v ys news I oI C oC D m₂ h' tk' hP hlt hJ hC hx F' N' off a b c => turn ax its v ys news I oI C oC D m₂ h' tk' hP hJ hC hx F' N' off a b c)
    (fun ys news hl hJ D h' tk' F' N' o1 => done ax its D h' tk' ys news hl hJ F' N' o1) its.size [] news (by simp) hJ
theorem pick_from (xs : List Value) : (slicePick xs.toArray (some 1) none none).toList = xs.drop 1 := by
  have e : sliceBounds (some 1) none none xs.toArray.size = (((min 1 xs.length : Nat) : Int), ((xs.length : Nat) : Int), 1) := by
    simp only [sliceBounds, Option.getD_none, show (1 : Int) > 0 by decide, if_true, if_neg (show ¬ ((1 : Int) < 0) by decide), List.size_toArray]
    congr 1
    omega
  rw [kmk_pick_nat _ e]
  show ((xs.drop (min 1 xs.length)).take (xs.length - min 1 xs.length)) = _
  rw [kmk_drop_min, List.take_of_length_le (by rw [List.length_drop]; omega)]
end
end Mine
namespace Mine
open PySem PySem.W PySem.Calls PyProof.Rows PySem.Spec
open LCg
section
variable {prog : Program} {w : World} {A : Around} {E : Value → Shared → Prop} {s : Shared} {h₀ : Heap} {L : Addr} {m : Str → Option Value} {env : Env}
/-- what a value of a dict comprehension leaves -/
def EltD (h₀ : Heap) (L : Addr) (m : Str → Option Value) (s : Shared) (I : Addr) (oI : Obj) (C : Addr) (oC : Obj) (D : Addr) (oD : Obj) (i : Nat) (kvs : List (Str × Value)) (J : Nat → List (Str × Value) → List (Addr × Obj) → Prop) (kv vv : Value) (s₂ : Shared) : Prop :=
  ∃ h' tk' news' k t, kv = .str k t ∧ s₂ = { s with heap := h', toks := tk' } ∧ Fr h₀ L h' m ∧ News h₀ L h' ((I, oI) :: (C, oC) :: (D, oD) :: news') ∧ Off3 I C D news' ∧ J (i + 1) (stored kvs k vv) news'
theorem blockD {kx vx iter : Expr} {x : Str} {px : Pos} {scope : Scope} {cl : List (Str × Addr)} {pos : Pos} {s₂ : Shared} {I : Addr} {fp : List Addr} {n : Nat} {P : Nat → Value → Prop} {St : Nat → Heap → Prop} {news : List (Addr × Obj)}
    {RR : Value → Addr → Result → Shared → Prop} (J : Nat → List (Str × Value) → List (Addr × Obj) → Prop)
    (W : Walks prog w A I fp [I] n P St) (hsz : n ≤ sizeLine) (hIo : ∀ i h, St i h → ∃ o, h.get? I = some o)
    (hSt : ∀ i h h' o, St i h → h.get? I = some o → h'.get? I = some o → St i h')
    (hcell : ∀ y ∈ scope.names, y.2 ≠ .cell) (hkind : scope.kind = .function) (hx : scope.names.lookup x = some .local) (hst : St 0 s₂.heap) (hfp : ∀ b ∈ fp, b < s₂.heap.objs.size)
    (F : Fr h₀ L s₂.heap m) (N : News h₀ L s₂.heap news) (hIL : L ≠ I) (hI₀ : h₀.get? I = none) (off : ∀ p ∈ news, p.1 ≠ I) (hJ : J 0 [] news)
    (turn : ∀ v i kvs news I oI C oC D oD m₂ h tk, P i v → i < n → J i kvs news → NsObj oC m₂ → m₂ x = some v → oD.IsDictOf (strKind prog w) kvs → Fr h₀ L h m → News h₀ L h ((I, oI) :: (C, oC) :: (D, oD) :: news) → Off3 I C D news → I ≠ C → I ≠ D → C ≠ D →
      wpAny (model prog w) A (eval kx (compEnvC scope cl C env)) (fun kv s₃ => wpAny (model prog w) A (eval vx (compEnvC scope cl C env)) (EltD h₀ L m { s₂ with heap := h, toks := tk } I oI C oC D oD i kvs J kv) noE s₃) noE { s₂ with heap := h, toks := tk })
    (hRR : ∀ D oD C h tk m' kvs news', J n kvs news' → oD.IsDictOf (strKind prog w) kvs → Fr h₀ L h m → News h₀ L h ((D, oD) :: news') → Off1 D news' → h.Ns C m' → h₀.get? C = none → C ≠ L → C ≠ D → (∀ p ∈ news', p.1 ≠ C) → RR (.ref D) C (.ok .next) { s₂ with heap := h, toks := tk }) :
    wpAny (model prog w) A newDict (fun acc s₃ => wpAny (model prog w) A (newFunctionEnv scope env.globals cl [] env.qual none .none (some env)) (fun cenv s₄ =>
      codeAny (model prog w) A (.compStart (.DictComp kx vx [⟨.Name x px, iter, [], 0⟩] scope pos) 0 (.ref I) acc { cenv with scope := relabel scope env }) (RR acc cenv.locals) s₄) E s₃) E s₂ := by
  refine wpAny_newObj_type (wpAny_newFunctionEnv hcell (by intro y hy; simp at hy) (fun h₁ hns₁ hsb₁ => ?_) hkind)
  dsimp only at hns₁ hsb₁ ⊢
  have hnew : (s₂.heap.push { cls := .type "dict", dict := none, data := .dict #[] }).DictOf (strKind prog w) s₂.heap.objs.size [] := Heap.DictOf.new s₂.heap
  generalize hH2 : s₂.heap.push { cls := .type "dict", dict := none, data := .dict #[] } = H2 at hns₁ hsb₁ hnew ⊢
  have hC : H2.objs.size = s₂.heap.objs.size + 1 := by rw [← hH2, Heap.size_push]
  have hDC : s₂.heap.objs.size ≠ H2.objs.size := by rw [hC]; exact Nat.ne_of_lt (Nat.lt_succ_self _)
  have below : ∀ b, b < s₂.heap.objs.size → b ≠ H2.objs.size ∧ b ≠ s₂.heap.objs.size := fun b hb => ⟨by rw [hC]; exact Nat.ne_of_lt (Nat.lt_succ_of_lt hb), Nat.ne_of_lt hb⟩
  have hDf : s₂.heap.objs.size ∉ fp := fun hm => Nat.lt_irrefl _ (hfp _ hm)
  have hCf : H2.objs.size ∉ fp := fun hm => by have := hfp _ hm; rw [hC] at this; exact Nat.lt_irrefl _ (Nat.lt_of_succ_lt this)
  have hIf : I ∈ fp := W.sub I (List.mem_singleton.mpr rfl)
  have hIlt : I < s₂.heap.objs.size := hfp I hIf
  have old : ∀ b o, s₂.heap.get? b = some o → h₁.get? b = some o := fun b o e => hsb₁.extBut b o (below b (Heap.lt_size e)).1 (Heap.get?_push_of_some _ (hH2 ▸ Heap.get?_push_of_some _ e))
  have hacc : h₁.DictOf (strKind prog w) s₂.heap.objs.size [] := hnew.at fun o e => hsb₁.extBut _ _ hDC (Heap.get?_push_of_some _ e)
  have hst₁ : St 0 h₁ := W.frame _ _ _ hst fun b _ o e => old b o e
  have fresh : ∀ a, s₂.heap.objs.size ≤ a → s₂.heap.get? a = none := fun a ha => by
    cases e : s₂.heap.get? a with
    | none => rfl
    | some o' => exact absurd (Heap.lt_size e) (Nat.not_lt.mpr ha)
  have fresh₀ : ∀ a, s₂.heap.objs.size ≤ a → h₀.get? a = none := fun a ha => by
    cases e : h₀.get? a with
    | none => rfl
    | some o' => have := F.keep a o' e; rw [fresh a ha] at this; cases this
  have hD₀ : h₀.get? s₂.heap.objs.size = none := fresh₀ _ (Nat.le_refl _)
  have hC₀ : h₀.get? H2.objs.size = none := fresh₀ _ (by rw [hC]; exact Nat.le_succ _)
  have hLlt : L < s₂.heap.objs.size := F.ns.lt
  have hDL : s₂.heap.objs.size ≠ L := Ne.symm (below L hLlt).2
  have hCL : H2.objs.size ≠ L := Ne.symm (below L hLlt).1
  have hCI : I ≠ H2.objs.size := (below I hIlt).1
  have hDI : I ≠ s₂.heap.objs.size := (below I hIlt).2
  have off₀ : Off3 I H2.objs.size s₂.heap.objs.size news := Off3.of fun p hp => ⟨off p hp, (below _ (Heap.lt_size (N p hp).1)).1, (below _ (Heap.lt_size (N p hp).1)).2⟩
  obtain ⟨oD₀, heD₀, hoD₀⟩ := Heap.dictOf_iff.mp hacc
  have loop : ∀ s₃ : Shared, s₃ = { s₂ with heap := h₁, toks := s₂.toks + ([] : List (Str × Value)).length } →
      codeAny (model prog w) A (.compLoop (.DictComp kx vx [⟨.Name x px, iter, [], 0⟩] scope pos) 0 (.ref I) (.ref s₂.heap.objs.size) (compEnvC scope cl H2.objs.size env))
        (RR (.ref s₂.heap.objs.size) H2.objs.size) s₃ := by
    rintro s₃ rfl
    refine codeAny_compLoop_testsD
      (fun k s' => ∃ h' tk i kvs oD m' news', s' = { s₂ with heap := h', toks := tk } ∧ i ≤ n ∧ k = n + 1 - i ∧ kvs.length ≤ i ∧ St i h' ∧ Fr h₀ L h' m ∧ h'.Ns H2.objs.size m' ∧ oD.IsDictOf (strKind prog w) kvs ∧ News h₀ L h' ((s₂.heap.objs.size, oD) :: news') ∧
        Off3 I H2.objs.size s₂.heap.objs.size news' ∧ J i kvs news') ?_ (n + 1)
      ⟨h₁, _, 0, [], oD₀, _, news, rfl, Nat.zero_le _, rfl, Nat.le_refl _, hst₁, F.keeps old, hns₁, hoD₀, fun p hp => ?_, off₀, hJ⟩
    · rintro k s' ⟨h', tk, i, kvs, oD, m', news', rfl, hi, rfl, hyl, hst', F', hn', hoD, N', off', hJ'⟩
      have off3 := off'.mem
      by_cases hlt : i < n
      · refine W.item i _ _ _ hlt hst' fun v h₂ tk₂ hPv hst₂ hk₂ => ?_
        refine wpAny_assign_Name (wpAny_storeName_local (lookup_relabel_local hx) (hn'.at' fun o e => hk₂ _ o (by simpa using Ne.symm hCI) e) (fun h₃ hn₃ hs₃ => ?_) (by simp [compEnvC, relabel, hkind]))
        refine wpAny_tests_nil ?_
        simp only [if_true]
        have hst₃ : St (i + 1) h₃ := W.frame _ _ _ hst₂ fun b hb o e => hs₃.extBut b o (fun q => hCf (by have q' : b = H2.objs.size := q; rw [← q']; exact hb)) e
        obtain ⟨oI, heI⟩ := hIo _ _ hst₃
        obtain ⟨oC, heC, hoC⟩ := ns_obj hn₃
        have F₃ : Fr h₀ L h₃ m := (fr_but F' hk₂ hIL hI₀).change hs₃ hCL hC₀
        have N₂ : News h₀ L h₂ ((s₂.heap.objs.size, oD) :: news') := news_but N' hk₂ fun p hp => by
          rcases List.mem_cons.mp hp with rfl | hp
          · exact Ne.symm hDI
          · exact (off3 p hp).1
        have N₃ : News h₀ L h₃ ((I, oI) :: (H2.objs.size, oC) :: (s₂.heap.objs.size, oD) :: news') := fun p hp => by
          rcases List.mem_cons.mp hp with rfl | hp
          · exact ⟨heI, Ne.symm hIL, hI₀⟩
          · rcases List.mem_cons.mp hp with rfl | hp
            · exact ⟨heC, hCL, hC₀⟩
            · have z := N₂ p hp
              refine ⟨hs₃.extBut _ _ ?_ z.1, z.2⟩
              rcases List.mem_cons.mp hp with rfl | hp
              · exact hDC
              · exact (off3 p hp).2.1
        refine wpAny_mono (turn v i kvs news' I oI H2.objs.size oC s₂.heap.objs.size oD _ h₃ _ hPv hlt hJ' hoC (by simp) hoD F₃ N₃ off' hCI hDI (Ne.symm hDC)) (fun kv s₃ hk₃ => ?_) fun _ _ e => e.elim
        refine wpAny_mono hk₃ (fun vv s₄ h₄ => ?_) fun _ _ e => e.elim
        obtain ⟨h₄, tk₄, news₄, k, t, rfl, rfl, F₄, N₄, off₄, hJ₄⟩ := h₄
        have zI := (N₄ (I, oI) List.mem_cons_self).1
        have zC := (N₄ (H2.objs.size, oC) (List.mem_cons_of_mem _ List.mem_cons_self)).1
        have zD := (N₄ (s₂.heap.objs.size, oD) (List.mem_cons_of_mem _ (List.mem_cons_of_mem _ List.mem_cons_self))).1
        have N₄' : News h₀ L h₄ news₄ := fun p hp => N₄ p (List.mem_cons_of_mem _ (List.mem_cons_of_mem _ (List.mem_cons_of_mem _ hp)))
        have hst₄ : St (i + 1) h₄ := hSt _ _ _ _ hst₃ heI zI
        refine wpAny_dictSet_pairs (knd := strKind prog w) (kvs := kvs) (k := k) (strKind_is _ _ _ _) (Heap.dictOf_iff.mpr ⟨_, zD, hoD⟩) (fun h₅ hd₅ hs₅ => ?_) (by omega)
        obtain ⟨oD₅, heD₅, hoD₅⟩ := Heap.dictOf_iff.mp hd₅
        have off4 := off₄.mem
        refine ⟨n + 1 - (i + 1), by omega, h₅, _, i + 1, stored kvs k vv, oD₅, _, news₄, rfl, hlt, rfl, Nat.le_trans (stored_length_le kvs k vv) (Nat.succ_le_succ hyl), W.frame _ _ _ hst₄ fun b hb o e => hs₅.extBut b o (fun q => hDf (q ▸ hb)) e, F₄.change hs₅ hDL hD₀,
          (hoC.ns zC).sameBut hs₅ (Ne.symm hDC), hoD₅, fun p hp => ?_, off₄, hJ₄⟩
        rcases List.mem_cons.mp hp with rfl | hp
        · exact ⟨heD₅, hDL, hD₀⟩
        · exact ⟨hs₅.extBut _ _ (off4 p hp).2.2 (N₄' p hp).1, (N₄' p hp).2⟩
      · obtain rfl : i = n := Nat.le_antisymm hi (Nat.not_lt.mp hlt)
        refine W.done _ _ _ hst' fun h₂ tk₂ hk₂ => ?_
        exact hRR _ oD _ h₂ tk₂ _ kvs news' hJ' hoD (fr_but F' hk₂ hIL hI₀) (news_but N' hk₂ fun p hp => by
          rcases List.mem_cons.mp hp with rfl | hp
          · exact Ne.symm hDI
          · exact (off3 p hp).1) off'.one (hn'.at' fun o e => hk₂ _ o (by simpa using Ne.symm hCI) e) hC₀ hCL (Ne.symm hDC) (fun p hp => (off3 p hp).2.1)
    · rcases List.mem_cons.mp hp with rfl | hp
      · exact ⟨heD₀, hDL, hD₀⟩
      · exact ⟨old _ _ (N p hp).1, (N p hp).2⟩
  exact codeAny_compStart_dict (loop _ rfl) (W.self 0 _ _ _ hst₁ (loop _ rfl))
/-- the source of a dict comprehension is a range -/
def SrcRd (h₀ : Heap) (L : Addr) (m : Str → Option Value) (s : Shared) (a b : Int) (J : Nat → List (Str × Value) → List (Addr × Obj) → Prop) (xv : Value) (s₁ : Shared) : Prop :=
  ∃ r t u v news h tk, xv = .ref r ∧ s₁ = { s with heap := h, toks := tk } ∧ Fr h₀ L h m ∧ News h₀ L h news ∧ IsRange h r a b 1 t u v ∧ J 0 [] news
theorem compD {kx vx iter : Expr} {x : Str} {px : Pos} {scope : Scope} {cl : List (Str × Addr)} {pos : Pos} {Q : Value → Shared → Prop} {a b : Int} {n : Nat} (J : Nat → List (Str × Value) → List (Addr × Obj) → Prop) (_F₀ : Fr h₀ L s.heap m) (hh : A.handled = none)
    (hsm : Builtin.Range.small a b 1 = true) (hn : Builtin.Range.rangeSize a b 1 = ((n : Nat) : Int)) (hsz : n ≤ sizeLine)
    (hclos : closureFor scope env = pure cl) (hcell : ∀ y ∈ scope.names, y.2 ≠ .cell) (hkind : scope.kind = .function)
    (hnames : ∀ y ∈ scope.names, y.2 = .local → scope.names.lookup y.1 = some .local) (hx : scope.names.lookup x = some .local)
    (hiter : wpAny (model prog w) A (eval iter env) (SrcRd h₀ L m s a b J) E s)
    (turn : ∀ v i kvs news I oI C oC D oD m₂ h tk, (∃ t, v = .int (a + (i : Int)) t) → i < n → J i kvs news → NsObj oC m₂ → m₂ x = some v → oD.IsDictOf (strKind prog w) kvs → Fr h₀ L h m → News h₀ L h ((I, oI) :: (C, oC) :: (D, oD) :: news) → Off3 I C D news → I ≠ C → I ≠ D → C ≠ D →
      wpAny (model prog w) A (eval kx (compEnvC scope cl C env)) (fun kv s₂ => wpAny (model prog w) A (eval vx (compEnvC scope cl C env)) (EltD h₀ L m { s with heap := h, toks := tk } I oI C oC D oD i kvs J kv) noE s₂) noE { s with heap := h, toks := tk })
    (done : ∀ D oD h tk kvs news, J n kvs news → oD.IsDictOf (strKind prog w) kvs → Fr h₀ L h m → News h₀ L h ((D, oD) :: news) → Off1 D news → Q (.ref D) { s with heap := h, toks := tk })
    (hs : ∀ x, foldedSetIterable iter env x = pure x := by intro _; rfl) :
    wpAny (model prog w) A (eval (.DictComp kx vx [⟨.Name x px, iter, [], 0⟩] scope pos) env) Q E s := by
  rw [arm_eval_DictComp]
  refine wpAny_comprehension_free (use := none) rfl hs hclos hkind hnames (wpAny_mono hiter (fun xv s₁ h₁ => ?_) fun _ _ e => e)
  obtain ⟨r, t, u, v, news, g, tk, rfl, rfl, F₁, N₁, hr, hJ⟩ := h₁
  refine wpAny_pyIter_range hr hsm ?_
  refine blockD J (range_walks hh a n) hsz (fun i h st => ⟨_, st⟩) (fun i h h' o st e e' => by
      have st' : h.get? _ = some _ := st
      show h'.get? _ = some _
      rw [e', ← e]; exact st') hcell hkind hx (by show IsRangeIter _ _ _ _ _; rw [hn]; simpa using Heap.get?_push_size _ rfl) (fun b hb => ?_)
    (F₁.keeps fun _ _ e => Heap.get?_push_of_some _ e) (N₁.grown fun _ _ e => Heap.get?_push_of_some _ e) (Nat.ne_of_lt F₁.ns.lt) (next_is_new F₁) (fun p hp => Nat.ne_of_lt (Heap.lt_size (N₁ p hp).1)) hJ
    (fun v i kvs news I oI C oC D oD m₂ h' tk' hP hlt hJ hC hx hoD F' N' off a b c => turn v i kvs news I oI C oC D oD m₂ h' tk' hP hlt hJ hC hx hoD F' N' off a b c) ?_
  · rw [List.mem_singleton.mp hb]
    show g.objs.size < (g.push _).objs.size
    rw [Heap.size_push]; exact Nat.lt_succ_self _
  · intro D oD C h' tk' m' kvs news' hJ' hoD F' N' o1 hn' hC₀ hCL hCD offC
    refine ⟨m', hn', fun h'' hs'' => done D oD h'' _ kvs news' hJ' hoD (F'.change hs'' hCL hC₀) (fun p hp => ?_) o1⟩
    refine ⟨hs''.extBut _ _ ?_ (N' p hp).1, (N' p hp).2⟩
    rcases List.mem_cons.mp hp with rfl | hp
    · exact Ne.symm hCD
    · exact offC p hp
end
end Mine
namespace Mine
open PySem PySem.W PySem.Calls PyProof.Rows PySem.Spec
open LCg
theorem compTurn_two0 (elt t1 i1 t2 i2 : Expr) (scope : Scope) (pos : Pos) (it acc : Value) (env : Env) :
    compTurn (.ListComp elt [⟨t1, i1, [], 0⟩, ⟨t2, i2, [], 0⟩] scope pos) 0 it acc env = (do
      standAt i1.pos
      match ← pyNext it with
      | none => pure (.done .next)
      | some v =>
        letOwnedTupleGo t1 it v
        assign t1 env v
        let x ← eval i2 env
        standAt i2.pos
        let x ← foldedSetIterable i2 env x
        let _ ← runOwn (.compStart (.ListComp elt [⟨t1, i1, [], 0⟩, ⟨t2, i2, [], 0⟩] scope pos) 1 (← holding [x] (pyIter x)) acc env) env
        again (.compLoop (.ListComp elt [⟨t1, i1, [], 0⟩, ⟨t2, i2, [], 0⟩] scope pos) 0 it acc env)) := by rfl
theorem compTurn_two1 (elt t1 i1 t2 i2 : Expr) (scope : Scope) (pos : Pos) (it acc : Value) (env : Env) :
    compTurn (.ListComp elt [⟨t1, i1, [], 0⟩, ⟨t2, i2, [], 0⟩] scope pos) 1 it acc env = (do
      standAt i2.pos
      match ← pyNext it with
      | none => pure (.done .next)
      | some v =>
        letOwnedTupleGo t2 it v
        assign t2 env v
        (do let _ ← call (.builtin "list.append") [acc, ← eval elt env])
        again (.compLoop (.ListComp elt [⟨t1, i1, [], 0⟩, ⟨t2, i2, [], 0⟩] scope pos) 1 it acc env)) := by rfl
section
variable {prog : Program} {w : World} {A : Around} {E : Value → Shared → Prop} {R : Result → Shared → Prop} {s : Shared} {h₀ : Heap} {L : Addr} {m : Str → Option Value} {env : Env}
theorem start_two1 {elt t1 i1 t2 i2 : Expr} {scope : Scope} {pos : Pos} {it acc : Value} {env : Env}
    (h0 : codeAny (model prog w) A (.compLoop (.ListComp elt [⟨t1, i1, [], 0⟩, ⟨t2, i2, [], 0⟩] scope pos) 1 it acc env) R s)
    (h : wpAny (model prog w) A (pyIter it) (fun it' s' => codeAny (model prog w) A (.compLoop (.ListComp elt [⟨t1, i1, [], 0⟩, ⟨t2, i2, [], 0⟩] scope pos) 1 it' acc env) R s')
      (notedBy (model prog w) A env fun x s' => R (.error x) s') s) :
    codeAny (model prog w) A (.compStart (.ListComp elt [⟨t1, i1, [], 0⟩, ⟨t2, i2, [], 0⟩] scope pos) 1 it acc env) R s := by
  refine codeAny_of_tree ?_
  show wpAny _ _ ((compStart (.ListComp elt [⟨t1, i1, [], 0⟩, ⟨t2, i2, [], 0⟩] scope pos) 1 it acc env).onRaise (fun x => do noteFrame x env; standAt theWindowsPlace)) _ _ s
  refine wpAny_notedAt ?_
  unfold compStart
  show wpAny _ _ (ask >>= _) _ _ s
  refine wpAny_bind (wpAny_askSetting (wpAny_ite ?_))
  split
  · first
      | exact wpAny_bind (wpAny_pure (wpAny_pure (And.intro rfl h0)))
      | exact wpAny_pure (And.intro rfl h0)
  · first
      | exact wpAny_bind (wpAny_rule (wpAny_bind (wpAny_standAt (wpAny_bind (wpAny_mono h (fun it' s' h' => wpAny_pure (And.intro rfl h')) fun _ _ x => x)))))
      | (refine wpAny_bind (wpAny_rule ?_); show wpAny _ _ (standAt i2.pos >>= _) _ _ s; exact wpAny_bind (wpAny_standAt (wpAny_bind (wpAny_mono h (fun it' s' h' => wpAny_pure (And.intro rfl h')) fun _ _ x => x))))
theorem loop1 {i1 i2 : Expr} {x y : Str} {px py pe : Pos} {scope : Scope} {cl : List (Str × Addr)} {pos : Pos} {C D I ax : Addr} {its : Array Value} {ys : List Value} (hh : A.handled = none)
    (hkind : scope.kind = .function) (hy : scope.names.lookup y = some .local) (hdbg : (y == ("__debug__" : Str)) = false)
    (hIx : ax ≠ I) (hCI : C ≠ I) (hDI : D ≠ I) (hCD : C ≠ D) (hCx : C ≠ ax) (hDx : D ≠ ax)
    (hit : s.heap.IsListIter I ax 0) (hl : s.heap.IsList ax its) (hn : ∃ m, s.heap.Ns C m) (hD : s.heap.get? D = some (lst ys)) (hsz : ys.length + its.size ≤ sizeLine)
    (hR : ∀ h' tk, (∃ m, h'.Ns C m) → h'.get? D = some (lst (ys ++ its.toList)) → (∀ b o, b ≠ I → b ≠ C → b ≠ D → s.heap.get? b = some o → h'.get? b = some o) → R (.ok .next) { s with heap := h', toks := tk }) :
    codeAny (model prog w) A (.compLoop (.ListComp (.Name y pe) [⟨.Name x px, i1, [], 0⟩, ⟨.Name y py, i2, [], 0⟩] scope pos) 1 (.ref I) (.ref D) (compEnvC scope cl C env)) R s := by
  have W := Walks.list (prog := prog) (w := w) hh I ax hIx its
  refine codeAny_loop rfl (fun k s' => ∃ h' tk i, s' = { s with heap := h', toks := tk } ∧ i ≤ its.size ∧ k = its.size + 1 - i ∧ (h'.IsListIter I ax i ∧ h'.IsList ax its) ∧ (∃ m, h'.Ns C m) ∧ h'.get? D = some (lst (ys ++ its.toList.take i)) ∧ (∀ b o, b ≠ I → b ≠ C → b ≠ D → s.heap.get? b = some o → h'.get? b = some o)) ?_ (its.size + 1)
    ⟨s.heap, s.toks, 0, rfl, Nat.zero_le _, rfl, ⟨hit, hl⟩, hn, by rw [List.take_zero, List.append_nil]; exact hD, fun _ _ _ _ _ e => e⟩
  rintro k s' ⟨h', tk, i, rfl, hi, rfl, hst, ⟨m', hn'⟩, hD', hk'⟩
  show wpAny _ A ((compTurn (.ListComp (.Name y pe) [⟨.Name x px, i1, [], 0⟩, ⟨.Name y py, i2, [], 0⟩] scope pos) 1 (.ref I) (.ref D) (compEnvC scope cl C env)).onRaise (fun x => do noteFrame x (compEnvC scope cl C env); theTreesLotGoes x)) _ _ _
  refine wpAny_noted ?_
  rw [compTurn_two1]
  refine wpAny_bind (wpAny_standAt (wpAny_bind ?_))
  by_cases hlt : i < its.size
  · refine W.item i _ _ _ hlt hst fun v h₂ tk₂ hPv hst₂ hk₂ => ?_
    dsimp only
    refine wpAny_bind (wpAny_of_eq (by rfl) ?_)
    refine wpAny_bind (wpAny_assign_Name (wpAny_storeName_local (lookup_relabel_local hy) (hn'.at' fun o e => hk₂ _ o (by simpa using hCI) e) (fun h₃ hn₃ hs₃ => ?_) (by simp [compEnvC, relabel, hkind])))
    refine wpAny_bind (wpAny_bind (ldVarK (v := v) hn₃ (by simp) ?_ (by simp [compEnvC, relabel, hkind]) (lookup_relabel_local hy) hdbg))
    have hs₃ : Heap.SameBut C h₂ h₃ := hs₃
    have hD₂ : h₃.get? D = some (lst (ys ++ its.toList.take i)) := hs₃.extBut _ _ (Ne.symm hCD) (hk₂ _ _ (by simpa using hDI) hD')
    refine wpAny_bind (append_at (its := (ys ++ its.toList.take i).toArray) (n := (ys ++ its.toList.take i).length) hD₂ (fun h₅ hs₅ hD₅ => ?_) (by simp only [List.size_toArray, List.length_append, List.length_take, Array.length_toList]; omega))
    refine wpAny_pure (wpAny_pure ⟨rfl, its.size + 1 - (i + 1), by omega, h₅, _, i + 1, rfl, hlt, rfl, W.frame _ _ _ (W.frame _ _ _ hst₂ fun b hb o e => hs₃.extBut b o (fun q => ?_) e) fun b hb o e => hs₅.extBut b o (fun q => ?_) e, ⟨_, hn₃.sameBut hs₅ hCD⟩, ?_, fun b o b1 b2 b3 e => hs₅.extBut _ _ b3 (hs₃.extBut _ _ b2 (hk₂ _ _ (by simpa using b1) (hk' b o b1 b2 b3 e)))⟩)
    · subst q
      rcases List.mem_cons.mp hb with e | hb
      · exact hCI e
      · exact hCx (List.mem_singleton.mp hb)
    · subst q
      rcases List.mem_cons.mp hb with e | hb
      · exact hDI e
      · exact hDx (List.mem_singleton.mp hb)
    · rw [hD₅, lst_snoc]
      have : its.toList.take (i + 1) = its.toList.take i ++ [v] := by
        rw [List.take_add_one, show its.toList[i]? = some v by rw [Array.getElem?_toList]; exact hPv, Option.toList_some]
      rw [this, List.append_assoc]
  · obtain rfl : i = its.size := Nat.le_antisymm hi (Nat.not_lt.mp hlt)
    refine W.done _ _ _ hst fun h₂ tk₂ hk₂ => ?_
    refine wpAny_pure (hR h₂ tk₂ ⟨_, hn'.at' fun o e => hk₂ _ o (by simpa using hCI) e⟩ ?_ fun b o b1 b2 b3 e => hk₂ _ _ (by simpa using b1) (hk' b o b1 b2 b3 e))
    rw [hk₂ _ _ (by simpa using hDI) hD', show its.size = its.toList.length by simp, List.take_length]
theorem startL1 {i1 i2 : Expr} {x y : Str} {px py pe : Pos} {scope : Scope} {cl : List (Str × Addr)} {pos : Pos} {C D I ax : Addr} {its : Array Value} {ys : List Value} (hh : A.handled = none)
    (hkind : scope.kind = .function) (hy : scope.names.lookup y = some .local) (hdbg : (y == ("__debug__" : Str)) = false)
    (hIx : ax ≠ I) (hCI : C ≠ I) (hDI : D ≠ I) (hCD : C ≠ D) (hCx : C ≠ ax) (hDx : D ≠ ax)
    (hit : s.heap.IsListIter I ax 0) (hl : s.heap.IsList ax its) (hn : ∃ m, s.heap.Ns C m) (hD : s.heap.get? D = some (lst ys)) (hsz : ys.length + its.size ≤ sizeLine)
    (hR : ∀ h' tk, (∃ m, h'.Ns C m) → h'.get? D = some (lst (ys ++ its.toList)) → (∀ b o, b ≠ I → b ≠ C → b ≠ D → s.heap.get? b = some o → h'.get? b = some o) → R (.ok .next) { s with heap := h', toks := tk }) :
    codeAny (model prog w) A (.compStart (.ListComp (.Name y pe) [⟨.Name x px, i1, [], 0⟩, ⟨.Name y py, i2, [], 0⟩] scope pos) 1 (.ref I) (.ref D) (compEnvC scope cl C env)) R s :=
  have loop := loop1 (i1 := i1) (i2 := i2) (px := px) (py := py) (pe := pe) (pos := pos) (x := x) (env := env) (cl := cl) hh hkind hy hdbg hIx hCI hDI hCD hCx hDx hit hl hn hD hsz hR
  start_two1 loop (Walks.self (Walks.list (prog := prog) (w := w) hh I ax hIx its) 0 _ _ _ ⟨hit, hl⟩ loop)
/-- what the second source of a comprehension with two clauses leaves -/
def EltN (h₀ : Heap) (L : Addr) (m : Str → Option Value) (s : Shared) (I : Addr) (oI : Obj) (C : Addr) (oC : Obj) (D : Addr) (ys : List Value) (i : Nat) (J : Nat → List Value → List (Addr × Obj) → Prop) (xv : Value) (s₂ : Shared) : Prop :=
  ∃ ax its h' tk' news', xv = .ref ax ∧ s₂ = { s with heap := h', toks := tk' } ∧ Fr h₀ L h' m ∧ News h₀ L h' ((I, oI) :: (C, oC) :: (D, lst ys) :: news') ∧ Off3 I C D news' ∧ SrcAt h₀ ax its news' ∧ ys.length + its.size ≤ sizeLine ∧ J (i + 1) (ys ++ its.toList) news'
def SrcN (h₀ : Heap) (L : Addr) (m : Str → Option Value) (s : Shared) (its : Array Value) (J : Nat → List Value → List (Addr × Obj) → Prop) (xv : Value) (s₁ : Shared) : Prop :=
  ∃ ax news h tk, xv = .ref ax ∧ s₁ = { s with heap := h, toks := tk } ∧ Fr h₀ L h m ∧ News h₀ L h news ∧ (∀ i ys n', J i ys n' → SrcAt h₀ ax its n') ∧ J 0 [] news
theorem blockN {i1 i2 : Expr} {x y : Str} {px py pe : Pos} {scope : Scope} {cl : List (Str × Addr)} {pos : Pos} {s₂ : Shared} {I ax : Addr} {its : Array Value} {news : List (Addr × Obj)}
    {RR : Value → Addr → Result → Shared → Prop} (J : Nat → List Value → List (Addr × Obj) → Prop) (hh : A.handled = none) (hJS : ∀ i ys n', J i ys n' → SrcAt h₀ ax its n')
    (hIx : ax ≠ I) (hfp : I < s₂.heap.objs.size) (hst : s₂.heap.IsListIter I ax 0 ∧ s₂.heap.IsList ax its)
    (hcell : ∀ y ∈ scope.names, y.2 ≠ .cell) (hkind : scope.kind = .function) (hx : scope.names.lookup x = some .local) (hy : scope.names.lookup y = some .local) (hdbg : (y == ("__debug__" : Str)) = false) (hs : ∀ x C, foldedSetIterable i2 (compEnvC scope cl C env) x = pure x)
    (F : Fr h₀ L s₂.heap m) (N : News h₀ L s₂.heap news) (hIL : L ≠ I) (hI₀ : h₀.get? I = none) (off : ∀ p ∈ news, p.1 ≠ I) (hJ : J 0 [] news)
    (turn : ∀ v i ys news I oI C oC D m₂ h tk, its[i]? = some v → J i ys news → NsObj oC m₂ → m₂ x = some v → Fr h₀ L h m → News h₀ L h ((I, oI) :: (C, oC) :: (D, lst ys) :: news) → Off3 I C D news → I ≠ C → I ≠ D → C ≠ D →
      wpAny (model prog w) A (eval i2 (compEnvC scope cl C env)) (EltN h₀ L m { s₂ with heap := h, toks := tk } I oI C oC D ys i J) noE { s₂ with heap := h, toks := tk })
    (hRR : ∀ D C h tk m' ys news', J its.size ys news' → Fr h₀ L h m → News h₀ L h ((D, lst ys) :: news') → (∀ p ∈ news', p.1 ≠ D) → h.Ns C m' → h₀.get? C = none → C ≠ L → C ≠ D → (∀ p ∈ news', p.1 ≠ C) → RR (.ref D) C (.ok .next) { s₂ with heap := h, toks := tk }) :
    wpAny (model prog w) A (newList []) (fun acc s₃ => wpAny (model prog w) A (newFunctionEnv scope env.globals cl [] env.qual none .none (some env)) (fun cenv s₄ =>
      codeAny (model prog w) A (.compStart (.ListComp (.Name y pe) [⟨.Name x px, i1, [], 0⟩, ⟨.Name y py, i2, [], 0⟩] scope pos) 0 (.ref I) acc { cenv with scope := relabel scope env }) (RR acc cenv.locals) s₄) E s₃) E s₂ := by
  have W := Walks.list (prog := prog) (w := w) hh I ax hIx its
  refine wpAny_newObj_type (wpAny_newFunctionEnv hcell (by intro y hy; simp at hy) (fun h₁ hns₁ hsb₁ => ?_) hkind)
  dsimp only at hns₁ hsb₁ ⊢
  generalize hH2 : s₂.heap.push { cls := .type "list", dict := none, data := .seq ([] : List Value).toArray } = H2 at hns₁ hsb₁ ⊢
  have hC : H2.objs.size = s₂.heap.objs.size + 1 := by rw [← hH2, Heap.size_push]
  have hDC : s₂.heap.objs.size ≠ H2.objs.size := by rw [hC]; exact Nat.ne_of_lt (Nat.lt_succ_self _)
  have below : ∀ b, b < s₂.heap.objs.size → b ≠ H2.objs.size ∧ b ≠ s₂.heap.objs.size := fun b hb => ⟨by rw [hC]; exact Nat.ne_of_lt (Nat.lt_succ_of_lt hb), Nat.ne_of_lt hb⟩
  have hIlt : I < s₂.heap.objs.size := hfp
  have hAx : ax < s₂.heap.objs.size := by obtain ⟨_, e, _⟩ := hst.2; exact Heap.lt_size e
  have old : ∀ b o, s₂.heap.get? b = some o → h₁.get? b = some o := fun b o e => hsb₁.extBut b o (below b (Heap.lt_size e)).1 (Heap.get?_push_of_some _ (hH2 ▸ Heap.get?_push_of_some _ e))
  have hacc : h₁.get? s₂.heap.objs.size = some (lst []) := hsb₁.extBut _ _ hDC (Heap.get?_push_of_some _ (hH2 ▸ Heap.get?_push_size _ rfl))
  have hst₁ : h₁.IsListIter I ax 0 ∧ h₁.IsList ax its := W.frame _ _ _ hst fun b _ o e => old b o e
  have fresh : ∀ a, s₂.heap.objs.size ≤ a → s₂.heap.get? a = none := fun a ha => by
    cases e : s₂.heap.get? a with
    | none => rfl
    | some o' => exact absurd (Heap.lt_size e) (Nat.not_lt.mpr ha)
  have fresh₀ : ∀ a, s₂.heap.objs.size ≤ a → h₀.get? a = none := fun a ha => by
    cases e : h₀.get? a with
    | none => rfl
    | some o' => have := F.keep a o' e; rw [fresh a ha] at this; cases this
  have hD₀ : h₀.get? s₂.heap.objs.size = none := fresh₀ _ (Nat.le_refl _)
  have hC₀ : h₀.get? H2.objs.size = none := fresh₀ _ (by rw [hC]; exact Nat.le_succ _)
  have hLlt : L < s₂.heap.objs.size := F.ns.lt
  have hDL : s₂.heap.objs.size ≠ L := Ne.symm (below L hLlt).2
  have hCL : H2.objs.size ≠ L := Ne.symm (below L hLlt).1
  have hCI : I ≠ H2.objs.size := (below I hIlt).1
  have hDI : I ≠ s₂.heap.objs.size := (below I hIlt).2
  have off₀ : Off3 I H2.objs.size s₂.heap.objs.size news := Off3.of fun p hp => ⟨off p hp, (below _ (Heap.lt_size (N p hp).1)).1, (below _ (Heap.lt_size (N p hp).1)).2⟩
  have loop : ∀ s₃ : Shared, s₃ = { s₂ with heap := h₁, toks := s₂.toks + ([] : List (Str × Value)).length } →
      codeAny (model prog w) A (.compLoop (.ListComp (.Name y pe) [⟨.Name x px, i1, [], 0⟩, ⟨.Name y py, i2, [], 0⟩] scope pos) 0 (.ref I) (.ref s₂.heap.objs.size) (compEnvC scope cl H2.objs.size env))
        (RR (.ref s₂.heap.objs.size) H2.objs.size) s₃ := by
    rintro s₃ rfl
    refine codeAny_loop rfl
      (fun k s' => ∃ h' tk i ys m' news', s' = { s₂ with heap := h', toks := tk } ∧ i ≤ its.size ∧ k = its.size + 1 - i ∧ (h'.IsListIter I ax i ∧ h'.IsList ax its) ∧ Fr h₀ L h' m ∧ h'.Ns H2.objs.size m' ∧ News h₀ L h' ((s₂.heap.objs.size, lst ys) :: news') ∧
        Off3 I H2.objs.size s₂.heap.objs.size news' ∧ J i ys news') ?_ (its.size + 1)
      ⟨h₁, _, 0, [], _, news, rfl, Nat.zero_le _, rfl, hst₁, F.keeps old, hns₁, fun p hp => ?_, off₀, hJ⟩
    · rintro k s' ⟨h', tk, i, ys, m', news', rfl, hi, rfl, hst', F', hn', N', off', hJ'⟩
      have off3 := off'.mem
      show wpAny _ A ((compTurn (.ListComp (.Name y pe) [⟨.Name x px, i1, [], 0⟩, ⟨.Name y py, i2, [], 0⟩] scope pos) 0 (.ref I) (.ref s₂.heap.objs.size) (compEnvC scope cl H2.objs.size env)).onRaise (fun x => do noteFrame x (compEnvC scope cl H2.objs.size env); theTreesLotGoes x)) _ _ _
      refine wpAny_noted ?_
      rw [compTurn_two0]
      refine wpAny_bind (wpAny_standAt (wpAny_bind ?_))
      by_cases hlt : i < its.size
      · refine W.item i _ _ _ hlt hst' fun v h₂ tk₂ hPv hst₂ hk₂ => ?_
        dsimp only
        refine wpAny_bind (wpAny_of_eq (by rfl) ?_)
        refine wpAny_bind (wpAny_assign_Name (wpAny_storeName_local (lookup_relabel_local hx) (hn'.at' fun o e => hk₂ _ o (by simpa using Ne.symm hCI) e) (fun h₃ hn₃ hs₃ => ?_) (by simp [compEnvC, relabel, hkind])))
        have hs₃ : Heap.SameBut H2.objs.size h₂ h₃ := hs₃
        have hst₃ : h₃.IsListIter I ax (i + 1) ∧ h₃.IsList ax its := W.frame _ _ _ hst₂ fun b hb o e => hs₃.extBut b o (fun q => by
          subst q
          rcases List.mem_cons.mp hb with e | hb
          · exact hCI e.symm
          · exact (below ax hAx).1 (List.mem_singleton.mp hb).symm) e
        obtain ⟨oI, heI⟩ : ∃ o, h₃.get? I = some o := by obtain ⟨o, e, _⟩ := hst₃.1; exact ⟨o, e⟩
        obtain ⟨oC, heC, hoC⟩ := ns_obj hn₃
        have F₃ : Fr h₀ L h₃ m := (fr_but F' hk₂ hIL hI₀).change hs₃ hCL hC₀
        have N₂ : News h₀ L h₂ ((s₂.heap.objs.size, lst ys) :: news') := news_but N' hk₂ fun p hp => by
          rcases List.mem_cons.mp hp with rfl | hp
          · exact Ne.symm hDI
          · exact (off3 p hp).1
        have N₃ : News h₀ L h₃ ((I, oI) :: (H2.objs.size, oC) :: (s₂.heap.objs.size, lst ys) :: news') := fun p hp => by
          rcases List.mem_cons.mp hp with rfl | hp
          · exact ⟨heI, Ne.symm hIL, hI₀⟩
          · rcases List.mem_cons.mp hp with rfl | hp
            · exact ⟨heC, hCL, hC₀⟩
            · have z := N₂ p hp
              refine ⟨hs₃.extBut _ _ ?_ z.1, z.2⟩
              rcases List.mem_cons.mp hp with rfl | hp
              · exact hDC
              · exact (off3 p hp).2.1
        refine wpAny_bind (wpAny_mono (turn v i ys news' I oI H2.objs.size oC s₂.heap.objs.size _ h₃ _ hPv hJ' hoC (by simp) F₃ N₃ off' hCI hDI (Ne.symm hDC)) (fun xv s₃ hk₃ => ?_) fun _ _ e => e.elim)
        obtain ⟨a2, its2, h₄, tk₄, news₄, rfl, rfl, F₄, N₄, off₄, S₄, hz₄, hJ₄⟩ := hk₃
        have off4 := off₄.mem
        have zI := (N₄ (I, oI) List.mem_cons_self).1
        have zC := (N₄ (H2.objs.size, oC) (List.mem_cons_of_mem _ List.mem_cons_self)).1
        have zD := (N₄ (s₂.heap.objs.size, lst ys) (List.mem_cons_of_mem _ (List.mem_cons_of_mem _ List.mem_cons_self))).1
        have N₄' : News h₀ L h₄ news₄ := fun p hp => N₄ p (List.mem_cons_of_mem _ (List.mem_cons_of_mem _ (List.mem_cons_of_mem _ hp)))
        have l₂ := S₄.list F₄.keep N₄'
        have a2lt : a2 < h₄.objs.size := by obtain ⟨_, e, _⟩ := l₂; exact Heap.lt_size e
        have a2ne : a2 ≠ H2.objs.size ∧ a2 ≠ s₂.heap.objs.size := by
          rcases S₄ with ⟨o, e, _⟩ | ⟨o, e, _⟩
          · exact ⟨fun q => (by rw [q, hC₀] at e; cases e), fun q => (by rw [q, hD₀] at e; cases e)⟩
          · exact ⟨(off4 _ e).2.1, (off4 _ e).2.2⟩
        refine wpAny_bind (wpAny_standAt (wpAny_bind (wpAny_of_eq (hs _ _) ?_)))
        refine wpAny_bind (wpAny_holding (wpAny_pyIter_list l₂ ?_))
        have up : ∀ b o, h₄.get? b = some o → (h₄.push { cls := .type "list_iterator", data := .fields #[.ref a2, .int 0 0] }).get? b = some o := fun b o e => Heap.get?_push_of_some _ e
        have nI : ∀ b o, h₄.get? b = some o → b ≠ h₄.objs.size := fun b o e => Nat.ne_of_lt (Heap.lt_size e)
        have hit2 : (h₄.push { cls := .type "list_iterator", data := .fields #[.ref a2, .int 0 0] }).IsListIter h₄.objs.size a2 0 := ⟨_, Heap.get?_push_size _ rfl, rfl, rfl⟩
        have hst₄ : h₄.IsListIter I ax (i + 1) ∧ h₄.IsList ax its := by
          refine ⟨?_, (hJS _ _ _ hJ₄).list F₄.keep N₄'⟩
          obtain ⟨o, e, q⟩ := hst₃.1
          rw [heI] at e
          cases e
          exact ⟨_, zI, q⟩
        refine wpAny_bind (wpAny_runOwn (h := none) (startL1 (A := A.mark none) (its := its2) (ys := ys) (ax := a2) hh hkind hy hdbg (Nat.ne_of_lt a2lt) (Ne.symm (Ne.symm (nI _ _ zC))) (nI _ _ zD) (Ne.symm hDC) (Ne.symm a2ne.1) (Ne.symm a2ne.2) hit2 (l₂.push _) ⟨_, (hoC.ns zC).keeps up⟩ (up _ _ zD) hz₄ (fun h₅ tk₅ hn₅ hD₅ hk₅ => ?_)))
        · obtain ⟨m₅, hn₅⟩ := hn₅
          have keep5 : ∀ b o, b ≠ H2.objs.size → b ≠ s₂.heap.objs.size → h₄.get? b = some o → h₅.get? b = some o := fun b o b2 b3 e => hk₅ b o (nI _ _ e) b2 b3 (up _ _ e)
          have F₅ : Fr h₀ L h₅ m := ⟨F₄.ns.at' fun o e => keep5 L o (Ne.symm hCL) (Ne.symm hDL) e, fun b o e => keep5 b o (fun q => (by rw [q, hC₀] at e; cases e)) (fun q => (by rw [q, hD₀] at e; cases e)) (F₄.keep b o e), F₄.above⟩
          refine wpAny_pure ⟨rfl, its.size + 1 - (i + 1), by omega, h₅, _, i + 1, ys ++ its2.toList, m₅, news₄, rfl, hlt, rfl, ⟨hst₄.1.at fun o e => keep5 I o hCI hDI e, ?_⟩, F₅, hn₅, fun p hp => ?_, off₄, hJ₄⟩
          · refine (hJS _ _ _ hJ₄).list F₅.keep fun p hp => ⟨keep5 _ _ (off4 p hp).2.1 (off4 p hp).2.2 (N₄' p hp).1, (N₄' p hp).2⟩
          · rcases List.mem_cons.mp hp with rfl | hp
            · exact ⟨hD₅, hDL, hD₀⟩
            · exact ⟨keep5 _ _ (off4 p hp).2.1 (off4 p hp).2.2 (N₄' p hp).1, (N₄' p hp).2⟩
      · obtain rfl : i = its.size := Nat.le_antisymm hi (Nat.not_lt.mp hlt)
        refine W.done _ _ _ hst' fun h₂ tk₂ hk₂ => ?_
        refine wpAny_pure ?_
        exact hRR _ _ h₂ tk₂ _ ys news' hJ' (fr_but F' hk₂ hIL hI₀) (news_but N' hk₂ fun p hp => by
          rcases List.mem_cons.mp hp with rfl | hp
          · exact Ne.symm hDI
          · exact (off3 p hp).1) (fun p hp => (off3 p hp).2.2) (hn'.at' fun o e => hk₂ _ o (by simpa using Ne.symm hCI) e) hC₀ hCL (Ne.symm hDC) (fun p hp => (off3 p hp).2.1)
    · rcases List.mem_cons.mp hp with rfl | hp
      · exact ⟨hacc, hDL, hD₀⟩
      · exact ⟨old _ _ (N p hp).1, (N p hp).2⟩
  exact codeAny_compStart_list (loop _ rfl) (W.self 0 _ _ _ hst₁ (loop _ rfl))
theorem assignN {i1 i2 : Expr} {x y z : Str} {px py pe pz : Pos} {scope : Scope} {cl : List (Str × Addr)} {pos spos : Pos} {Q : Flow → Shared → Prop} (its : Array Value) (J : Nat → List Value → List (Addr × Obj) → Prop) (_F₀ : Fr h₀ L s.heap m) (hLe : env.locals = L) (hh : A.handled = none)
    (hsw : swapsWith (.ListComp (.Name y pe) [⟨.Name x px, i1, [], 0⟩, ⟨.Name y py, i2, [], 0⟩] scope pos) (some (.Name z pz)) spos.line env = pure true)
    (hclos : closureFor scope env = pure cl) (hcell : ∀ y ∈ scope.names, y.2 ≠ .cell) (hkind : scope.kind = .function)
    (hnames : ∀ z ∈ scope.names, z.2 = .local → scope.names.lookup z.1 = some .local) (hx : scope.names.lookup x = some .local) (hy : scope.names.lookup y = some .local) (hdbg : (y == ("__debug__" : Str)) = false)
    (hz : env.kindOf z = some .local) (hp : (env.scope.kind == .class || (env.scope.kind == .module && env.locals != env.globals)) = false)
    (hiter : wpAny (model prog w) A (eval i1 env) (SrcN h₀ L m s its J) E s)
    (turn : ∀ v i ys news I oI C oC D m₂ h tk, its[i]? = some v → J i ys news → NsObj oC m₂ → m₂ x = some v → Fr h₀ L h m → News h₀ L h ((I, oI) :: (C, oC) :: (D, lst ys) :: news) → Off3 I C D news → I ≠ C → I ≠ D → C ≠ D →
      wpAny (model prog w) A (eval i2 (compEnvC scope cl C env)) (EltN h₀ L m { s with heap := h, toks := tk } I oI C oC D ys i J) noE { s with heap := h, toks := tk })
    (done : ∀ D h tk ys news, J its.size ys news → Fr h₀ L h (fun q => if q = z then some (.ref D) else m q) → News h₀ L h ((D, lst ys) :: news) → (∀ p ∈ news, p.1 ≠ D) → Q .next { s with heap := h, toks := tk })
    (hs : ∀ x, foldedSetIterable i1 env x = pure x := by intro _; rfl) (hs2 : ∀ x C, foldedSetIterable i2 (compEnvC scope cl C env) x = pure x := by intro _ _; rfl) :
    wpAny (model prog w) A (exec (.Assign [.Name z pz] (.ListComp (.Name y pe) [⟨.Name x px, i1, [], 0⟩, ⟨.Name y py, i2, [], 0⟩] scope pos) spos) env) Q E s := by
  subst hLe
  rw [exec_Assign_Name_used _ _ _ _ hsw]
  refine wpAny_bind (wpAny_standAt (wpAny_bind ?_))
  show wpAny _ A (do let _ ← comprehension (.ListComp (.Name y pe) [⟨.Name x px, i1, [], 0⟩, ⟨.Name y py, i2, [], 0⟩] scope pos) scope env _ (newList []) false (eval i1 env) (some (assign (.Name z pz) env))) _ _ s
  refine wpAny_bind (wpAny_mono (wpAny_comprehension_free (use := some (assign (.Name z pz) env)) (Q := fun _ s' => Q .next s') rfl hs hclos hkind hnames
    (wpAny_mono hiter (fun xv s₁ h₁ => ?_) fun _ _ e => e)) (fun _ s' hq => wpAny_pure (wpAny_pure hq)) fun _ _ e => e)
  obtain ⟨ax, news, h, tk, rfl, rfl, F, N, hJS, hJ⟩ := h₁
  have hl := (hJS _ _ _ hJ).list F.keep N
  have hlt : ax < h.objs.size := by obtain ⟨_, e, _⟩ := hl; exact Heap.lt_size e
  refine wpAny_pyIter_list hl ?_
  have up : ∀ b o, h.get? b = some o → (h.push { cls := .type "list_iterator", data := .fields #[.ref ax, .int 0 0] }).get? b = some o := fun b o e => Heap.get?_push_of_some _ e
  refine blockN J hh hJS (Nat.ne_of_lt hlt) (by show h.objs.size < (h.push _).objs.size; rw [Heap.size_push]; exact Nat.lt_succ_self _) ⟨⟨_, Heap.get?_push_size _ rfl, rfl, rfl⟩, hl.push _⟩ hcell hkind hx hy hdbg hs2
    (F.keeps up) (N.grown up) (Nat.ne_of_lt F.ns.lt) (next_is_new F) (fun p hp => Nat.ne_of_lt (Heap.lt_size (N p hp).1)) hJ
    (fun v i ys news I oI C oC D m₂ h' tk' hv hJ hC hx F' N' off a b c => turn v i ys news I oI C oC D m₂ h' tk' hv hJ hC hx F' N' off a b c) ?_
  intro D C h' tk' m' ys news' hJ' F' N' o1 hn' hC₀ hCL hCD offC
  show wpAny _ A (assign (.Name z pz) env (.ref D)) _ _ _
  refine wpAny_assign_Name (wpAny_storeName_local hz F'.ns (fun h₂ hn₂ hs₂ => ?_) hp)
  have hL₀ : h₀.get? env.locals = none := Heap.get?_none_of_le F'.above
  have F₂ : Fr h₀ env.locals h₂ (fun q => if q = z then some (.ref D) else m q) := ⟨hn₂, fun b o e => hs₂.extBut b o (fun q => by rw [q, hL₀] at e; cases e) (F'.keep b o e), F'.above⟩
  refine ⟨m', hn'.sameBut hs₂ hCL, fun h'' hs'' => done D h'' _ ys news' hJ' (F₂.change hs'' hCL hC₀) (fun p hp => ?_) o1⟩
  have z' : h₂.get? p.1 = some p.2 := hs₂.extBut _ _ (N' p hp).2.1 (N' p hp).1
  refine ⟨hs''.extBut _ _ ?_ z', (N' p hp).2⟩
  rcases List.mem_cons.mp hp with rfl | hp
  · exact Ne.symm hCD
  · exact offC p hp
end
end Mine
namespace Mine
open PySem PySem.W PySem.Calls PyProof.Rows
section
variable {prog : Program} {w : World} {A : Around} {E : Value → Shared → Prop} {s : Shared} {h₀ : Heap} {L d : Addr} {m : Str → Option Value} {own rest : List (Addr × Obj)} {n : Nat} {Q : Value → Shared → Prop}
set_option maxRecDepth 100000
theorem popB {xs : List Value} {y : Value} {ys : List Value} {i : Int} {u : Tok} (F : Fr h₀ L s.heap m) (N : News h₀ L s.heap (own ++ (d, listOf (xs ++ y :: ys).toArray n) :: rest)) (h1 : ∀ p ∈ own, p.1 ≠ d) (h2 : ∀ p ∈ rest, p.1 ≠ d) (hz : (xs ++ y :: ys).length ≤ 100000)
    (hi : i = (xs.length : Int)) (h : ∀ h' n', Fr h₀ L h' m → News h₀ L h' (own ++ (d, listOf (xs ++ ys).toArray n') :: rest) → Q y { s with heap := h' }) :
    wpAny (model prog w) A (call (.builtin "list.pop") [.ref d, .int i u] []) Q E s := by
  have hm := N _ (List.mem_append_right own (List.Mem.head rest))
  have hz' : (xs ++ y :: ys).toArray.size ≤ sizeLine := by rw [List.size_toArray, sizeLine_eq]; omega
  have hl : xs.length < (xs ++ y :: ys).length := by simp
  have hk : seqIndex? i (xs ++ y :: ys).toArray.size = some xs.length := by
    rw [hi]
    unfold seqIndex?
    rw [List.size_toArray]
    have : ¬ ((xs.length : Int) < 0) := by omega
    simp only [this, if_false]
    rw [if_pos (by rw [Bool.and_eq_true, decide_eq_true_eq, decide_eq_true_eq]; omega)]
    simp
  have hf : Builtin.List.listFitsIndex i = true := by
    rw [hi]
    have h63 : (2 : Int) ^ 63 = 9223372036854775808 := by decide
    unfold Builtin.List.listFitsIndex
    rw [h63, Bool.and_eq_true, decide_eq_true_eq, decide_eq_true_eq]
    omega
  have hy : (xs ++ y :: ys).toArray[xs.length]? = some y := by simp
  obtain ⟨n', F', N'⟩ := listStep (fun a => a.eraseIdxIfInBounds xs.length) (zs := xs ++ ys) F N h1 h2 (kl_erase xs ys y)
  exact call_meets PySem.F.slot_list_pop ⟨_, hm.1, rfl⟩ PySem.F.entry_list_pop (PySem.F.args_list_pop_2 _ _) (PySem.MeetsSeq.list_pop_at d _ n i u _ y hf hk hy hz') (And.intro hm.1 (h _ n' F' N'))
theorem insB {xs : List Value} {y : Value} {i : Int} {k : Nat} {u : Tok} (F : Fr h₀ L s.heap m) (N : News h₀ L s.heap (own ++ (d, listOf xs.toArray n) :: rest)) (h1 : ∀ p ∈ own, p.1 ≠ d) (h2 : ∀ p ∈ rest, p.1 ≠ d) (hz : xs.length ≤ 100000)
    (hi : i = (k : Int)) (hk : k ≤ xs.length) (h : ∀ h' n', Fr h₀ L h' m → News h₀ L h' (own ++ (d, listOf (xs.take k ++ y :: xs.drop k).toArray n') :: rest) → Q .none { s with heap := h' }) :
    wpAny (model prog w) A (call (.builtin "list.insert") [.ref d, .int i u, y] []) Q E s := by
  have hm := N _ (List.mem_append_right own (List.Mem.head rest))
  have hz' : xs.toArray.size ≤ sizeLine := by rw [List.size_toArray, sizeLine_eq]; omega
  have hf : Builtin.List.listFitsIndex i = true := by
    rw [hi]
    have h63 : (2 : Int) ^ 63 = 9223372036854775808 := by decide
    unfold Builtin.List.listFitsIndex
    rw [h63, Bool.and_eq_true, decide_eq_true_eq, decide_eq_true_eq]
    omega
  have hneg : ¬ (i < 0) := by omega
  have hik : i.toNat = k := by omega
  obtain ⟨n', F', N'⟩ := listStep (fun xs => have j := if i < 0 then (i + (xs.size : Int)).toNat else min i.toNat xs.size; (xs.extract 0 j).push y ++ xs.extract j) (zs := xs.take k ++ y :: xs.drop k) F N h1 h2 (by
    simp only [hneg, if_false, List.size_toArray, hik, Nat.min_eq_left hk]
    exact kl_ins_eq xs k y)
  exact call_meets PySem.F.slot_list_insert ⟨_, hm.1, rfl⟩ PySem.F.entry_list_insert (PySem.F.args_list_insert_3 _ _ _) (PySem.AutoSeq1.list_insert_list_int_val_1 d xs.toArray n i u y (by simp [hf]) hz') (And.intro hm.1 (h _ n' F' N'))
end
local macro_rules | `(tactic| k_inst) => `(tactic| (refine' instBase ?F ?h1 ?h2; (case F => k_asm); (case h1 => assumption); (case h2 => assumption)))
local macro_rules | `(tactic| k_room) => `(tactic| ((try simp only [depth_under_make, depth_under_kw, depth_in1, depth_deeper, depth_caller]); omega))
local macro_rules | `(tactic| k_units) => `(tactic| ((try simp only [units_in1, units_deeper, Around.mark_units, units_caller]); omega))
local macro_rules | `(tactic| walk_at "exec For") => `(tactic| (k_here; refine Hold.mk ?_))
local macro_rules | `(tactic| walk_at "truthy str") => `(tactic| (k_here; (with_reducible show wpAny _ _ (PySem.truthy (Value.str (Leaf.nm _) _)) _ _ _); refine truthy_nm ?_; intro _))
local macro_rules | `(tactic| walk_at "call builtin:len") => `(tactic| (k_here; (with_reducible show wpAny _ _ (call (Value.builtin "len") [Value.ref _] []) _ _ _); refine' lenB ?k1 ?k2 ?k3 ?_; (case k1 => k_asm); (case k2 => assumption); (case k3 => assumption); intro t' k'))
local macro_rules | `(tactic| walk_at "call type:zip") => `(tactic| (k_here; refine Hold.mk ?_))
local macro_rules | `(tactic| walk_at "compareOp Lt ref") => `(tactic| (k_here; (with_reducible show wpAny _ _ (compareOp CmpOp.Lt (Value.ref _) (Value.ref _)) _ _ _); refine Hold.mk ?_))
local macro_rules | `(tactic| walk_at "exec For Name Call cons nil") => `(tactic| (k_here; refine Hold.mk ?_))
local macro_rules | `(tactic| walk_at "exec For Name Name cons nil") => `(tactic| (k_here; refine Hold.mk ?_))
local macro_rules | `(tactic| walk_at "exec For Name Attribute cons nil") => `(tactic| (k_here; refine Hold.mk ?_))
local macro_rules | `(tactic| walk_at "exec For Name Subscript cons nil") => `(tactic| (k_here; refine Hold.mk ?_))
local macro_rules | `(tactic| walk_at "exec For Tuple Call cons nil") => `(tactic| (k_here; refine Hold.mk ?_))
local macro_rules | `(tactic| walk_at "exec For Name Tuple cons nil") => `(tactic| (k_here; refine Hold.mk ?_))
local macro_rules | `(tactic| walk_at "exec For Name Call") => `(tactic| (k_here; refine Hold.mk ?_))
local macro_rules | `(tactic| walk_at "exec For Name Name") => `(tactic| (k_here; refine Hold.mk ?_))
local macro_rules | `(tactic| walk_at "exec For Tuple Call") => `(tactic| (k_here; refine Hold.mk ?_))
local macro_rules | `(tactic| walk_at "exec While Compare cons nil") => `(tactic| (k_here; refine Hold.mk ?_))
local macro_rules | `(tactic| walk_at "exec While BoolOp cons nil") => `(tactic| (k_here; refine Hold.mk ?_))
local macro_rules | `(tactic| walk_at "exec While Compare") => `(tactic| (k_here; refine Hold.mk ?_))
local macro_rules | `(tactic| walk_at "exec While BoolOp") => `(tactic| (k_here; refine Hold.mk ?_))
local macro_rules | `(tactic| k_inst) => `(tactic| (first | (refine' instBase ?F ?h1 ?h2; (case F => k_asm); (case h1 => assumption); (case h2 => assumption)) | (refine' instBL ?F ?N ?h1 ?h2; (case F => k_asm); (case N => k_asm); (case h1 => assumption); (case h2 => k_mem))))
local macro_rules | `(tactic| walk_at "wpAt") => `(tactic| (dsimp only; ks_step "execs cons"; refine ks_wpAt_execs_cons ?_))
local macro_rules | `(tactic| walk_at "wpAt") => `(tactic| (ks_step "execs cons"; refine ks_wpAt_execs_cons ?_))
local macro_rules | `(tactic| walk_at "wpAt") => `(tactic| (ks_step "exec Expr"; with_unfolding_all refine ks_wpAt_Expr_any ?_))
local macro_rules | `(tactic| walk_at "wpAt") => `(tactic| (ks_step "exec If"; with_unfolding_all refine ks_wpAt_If ?_))
local macro_rules | `(tactic| walk_at "wpAt") => `(tactic| (ks_step "eval Call"; with_unfolding_all refine ks_wpAt_MethodCall ?_))
local macro_rules | `(tactic| walk_at "wpAt") => `(tactic| (ks_step "attributeBase Call"; k_here; k_dflt (with_unfolding_all refine ksN (by k_asm) (by k_asm) (by k_asm) (by k_asm) (by k_is) (by rfl) (by rfl) (by k_inst) (by k_is) (by rfl) (ProgOk.file (by assumption)) (by k_is) (by k_is) (by k_is) (by k_is) (by decide) (by rfl) (by rfl) (by rfl) (by rfl) (ProgOk.sup (by assumption)) (by first | boot_by_name | rfl | kernel_rfl) ?_; intro so' h' F' N' l1; (try k_lt l1))))
local macro_rules | `(tactic| walk_at "call ref") => `(tactic| (k_here; k_dflt (with_reducible show wpAny _ _ (call (Value.ref _) [_] []) _ _ _); refine Hold.mk ?_))
local macro_rules | `(tactic| walk_at "call type:list") => `(tactic| (k_here; (with_reducible show wpAny _ _ (call (Value.type "list") [Value.ref _] []) _ _ _); refine Hold.mk ?_))
local macro_rules | `(tactic| walk_at "call builtin:list.pop") => `(tactic| (k_here; refine Hold.mk ?_))
local macro_rules | `(tactic| walk_at "call builtin:list.insert") => `(tactic| (k_here; refine Hold.mk ?_))
local macro_rules | `(tactic| walk_at "call builtin:len") => `(tactic| (k_here; refine Hold.mk ?_))
local macro_rules | `(tactic| walk_at "call ref") => `(tactic| (k_here; (with_reducible show wpAny _ _ (call (Value.ref _) [_, _] []) _ _ _); refine Hold.mk ?_))
local macro_rules | `(tactic| walk_at "subscriptTail Name Constant ref int") => `(tactic| (k_here; refine Hold.mk ?_))
local macro_rules | `(tactic| walk_at "subscriptTail Name BinOp ref int") => `(tactic| (k_here; refine Hold.mk ?_))
local macro_rules | `(tactic| walk_at "subscriptTail Name Name ref int") => `(tactic| (k_here; refine Hold.mk ?_))
local macro_rules | `(tactic| walk_at "subscriptTail Call Name cons nil Constant ref int") => `(tactic| (k_here; refine Hold.mk ?_))
local macro_rules | `(tactic| walk_at "subscriptTail Attribute Name Constant ref int") => `(tactic| (k_here; refine Hold.mk ?_))
local macro_rules | `(tactic| walk_at "subscriptTail Constant str BinOp str int") => `(tactic| (k_here; refine Hold.mk ?_))
local macro_rules | `(tactic| walk_at "subscriptTail Constant str Name str int") => `(tactic| (k_here; refine Hold.mk ?_))
local macro_rules | `(tactic| walk_at "subscriptTail Name Attribute ref str") => `(tactic| (k_here; refine Hold.mk ?_))
local macro_rules | `(tactic| walk_at "subscriptTail Name Subscript ref str") => `(tactic| (k_here; refine Hold.mk ?_))
local macro_rules | `(tactic| walk_at "subscriptTail Name Slice ref ref") => `(tactic| (k_here; refine Hold.mk ?_))
local macro_rules | `(tactic| walk_at "subscriptTail") => `(tactic| (k_here; refine Hold.mk ?_))
set_option maxHeartbeats 4000000
variable {prog : Program} {w : World} {A : Around} {s : Shared} {p : Program} {loose : List Str} {mg mb : Str → Option Value} {Q E : Value → Shared → Prop}
theorem splitInt {α : Type} {l : List α} {i : Int} (h0 : 0 ≤ i) (h : i < (l.length : Int)) : ∃ a x b, l = a ++ x :: b ∧ i = (a.length : Int) := by
  have hi : i.toNat < l.length := by omega
  refine ⟨l.take i.toNat, l[i.toNat], l.drop (i.toNat + 1), ?_, ?_⟩
  · rw [← List.drop_eq_getElem_cons hi, List.take_append_drop]
  · rw [List.length_take]; omega
theorem fmod_in {u : Int} {n : Nat} (h : 0 < n) : 0 ≤ u.fmod (n : Int) ∧ u.fmod (n : Int) < (n : Int) :=
  ⟨Int.fmod_nonneg_of_pos u (by omega), Int.fmod_lt_of_pos u (by omega)⟩
theorem mk_ht' {k : Bool} {l : List Ex} {N : Nat} (h : ∀ f ∈ flat k l, f.ht < N) (hN : 0 < N) : (mk k l).ht < N + 1 := by
  have hL : ∀ es : List Ex, (∀ e ∈ es, e.ht < N) → htL es < N := by
    intro es
    induction es with
    | nil => intro _; simpa [htL] using hN
    | cons e es ih =>
      intro h
      rw [htL]
      exact Nat.max_lt.mpr ⟨h e (.head _), ih fun x hx => h x (.tail _ hx)⟩
  unfold mk
  rw [Ex.ht]
  have := hL (srt (flat k l)) fun e he => h e ((srt_perm _).mem_iff.mp he)
  omega
theorem road_c {S : Facts} {ka rl n M : Nat} {k : Bool} {ps : List (Value × Ex)} {number : Int} {t : Tok} (P : ProgOk prog) (X : (Mine.frag.heap_1 w.params).In s.heap) (T : TopRead p loose mg mb s.heap) (hS : S.In s.heap) (hk : IsKind w.params S ka k)
    (hr : s.heap.get? rl = some (listOf (ps.map (·.1)).toArray n)) (hb : Bears w.params S ps) (h1 : 1 ≤ ps.length) (h8 : ps.length ≤ 8) (hfl : (flat k (ps.map (·.2))).length ≤ 1000) (hfe : ∀ q ∈ ps, 1 ≤ (fl k q.2).length) (hM : ∀ f ∈ flat k (ps.map (·.2)), f.ht < M) (hP : ∀ q ∈ ps, q.2.ht < M + 1)
    (hh : A.handled = none) (hdp : A.depth + 3 * M + 40 < recursionLimit) (hu : A.units + 20 * M + 200 < cLine)
    (hQ : ∀ v h' tk fs, s.heap.StaysIn h' → Fresh s.heap h' fs → IsEx w.params (S.more fs) v (joinE k (ps.map (·.2))) → Q v { s with heap := h', toks := tk }) :
    wpAny (model prog w) A (call (.ref 820) [.ref ka, .ref rl, .int number t] []) Q E s := by
  refine useCall (enter (binds := [("kind", .ref ka), ("rows", .ref rl), ("number", .int number t)]) X T.nolimit (by omega) (by k_is) (by k_is) (BindsTo.of_eq rfl) (locs rfl) ?_)
  intro L h₁ F N₁ hL
  have hk' := hk
  cases hk with | mk k1 k2 k3 k4 =>
  have k1' := hS _ _ k1
  have k2' := hS _ _ k2
  k_steps
  refine Hold.intro (call_list_seq rl (.inl rfl) (F.keep _ _ hr) rfl rfl ?_ (by rw [List.size_toArray, sizeLine_eq, List.length_map]; omega))
  intro h₂ c₂ st₂ hr₂
  obtain ⟨F₂, N₂, _⟩ := newsAdd F N₁ st₂ (Heap.get?_none_of_le (Nat.le_refl _)) hr₂
  k_steps
  rename Fr _ _ _ _ => F₃
  rename News _ _ _ _ => N₃
  generalize hdl : h₁.objs.size = dl at *
  refine Hold.intro ?_
  refine whileK (h₀ := s.heap) (L := L) (k₀ := ps.length) (fun kk m news => ∃ (qs : List (Value × Ex)) (n' : Nat) (fs : List (Addr × Obj)) (u : Int) (tu : Tok), kk = qs.length ∧ news = (dl, listOf (qs.map (·.1)).toArray n') :: fs ∧ (∀ p ∈ fs, p.1 ≠ dl) ∧ Bears w.params (S.more fs) qs ∧ 1 ≤ qs.length ∧ qs.length ≤ 8 ∧
      (flat k (qs.map (·.2))).Perm (flat k (ps.map (·.2))) ∧ (qs = ps ∨ (2 ≤ ps.length ∧ ∃ q ∈ qs, ∃ l, q.2 = mk k l)) ∧ (∀ q ∈ qs, q.2.ht < M + 1) ∧ (∀ q ∈ qs, 1 ≤ (fl k q.2).length) ∧ m "number" = some (.int u tu) ∧
      ∀ y, y ≠ ("first" : Str) → y ≠ ("second" : Str) → y ≠ ("number" : Str) → m y = (if y = ("rows" : Str) then some (.ref dl) else List.lookup y [(("kind" : Str), Value.ref ka), (("rows" : Str), Value.ref rl), (("number" : Str), Value.int number t)].reverse)) ?_ F₃ N₃ ?_
  · exact ⟨ps, _, [], number, t, rfl, rfl, (fun _ h => by cases h), fun q hq => (hb q hq).mono (S.sub_more []), h1, h8, .refl _, .inl rfl, hP, hfe, rfl, fun _ _ _ _ => rfl⟩
  · rintro kk m news h tk ⟨qs, n', fs, u, t', rfl, rfl, hfd, hbs, hq1, hq8, hpe, hmk, hht, hqf, hnum, hm⟩ F N
    rw [mapThree hm] at F
    simp only [hnum] at F
    k_steps
    refine Hold.intro (lenN N (.head _) (by rw [List.length_map]; omega) ?_)
    intro t₂ tk₂
    k_steps
    · refine Hold.intro (lenN N (.head _) (by rw [List.length_map]; omega) ?_)
      intro t₃ tk₃
      k_steps
      have hgt : 2 ≤ qs.length := by
        have := (by assumption : (1 : Int) < ((qs.map (·.1)).length : Int))
        rw [List.length_map] at this
        omega
      obtain ⟨i0, i1⟩ := fmod_in (u := u) (n := (qs.map (·.1)).length) (by rw [List.length_map]; omega)
      obtain ⟨a, q1, b, hab, hia⟩ := splitInt (l := qs) i0 (by simpa using i1)
      subst hab
      rw [List.map_append, List.map_cons] at N
      refine Hold.intro (popB (own := []) (xs := a.map (·.1)) (y := q1.1) (ys := b.map (·.1)) (by k_asm) N (fun _ h => by cases h) hfd (by simp at hq8 ⊢; omega) (by rw [hia, List.length_map]) ?_)
      intro h₂ n₂ F₂ N₂
      simp only [List.nil_append] at N₂
      clear N
      k_steps
      rename Fr _ _ _ _ => F₃
      rename News _ _ _ _ => N₃
      rw [← List.map_append] at N₃
      have hl1 : (a ++ b).length + 1 = (a ++ q1 :: b).length := by simp; omega
      have hpos : 0 < (((a ++ b).map (·.1)).length : Int) := by rw [List.length_map]; omega
      refine Hold.intro (lenN N₃ (.head _) (by rw [List.length_map]; omega) ?_)
      intro t₄ tk₄
      k_steps
      obtain ⟨j0, j1⟩ := fmod_in (u := u.fdiv 4) (n := ((a ++ b).map (·.1)).length) (by omega)
      obtain ⟨c, q2, e, hce, hic⟩ := splitInt (l := a ++ b) j0 (by simpa using j1)
      rw [hce, List.map_append, List.map_cons] at N₃
      refine Hold.intro (popB (own := []) (xs := c.map (·.1)) (y := q2.1) (ys := e.map (·.1)) (by k_asm) N₃ (fun _ h => by cases h) hfd (by rw [← List.map_cons, ← List.map_append, ← hce, List.length_map]; omega) (by rw [hic, List.length_map]) ?_)
      intro h₄ n₄ F₄ N₄
      simp only [List.nil_append] at N₄
      clear N₃
      k_steps
      rename Fr _ _ _ _ => F₅
      rename News _ _ _ _ => N₅
      rw [← List.map_append] at N₅
      refine Hold.intro (lenN N₅ (.head _) (by rw [List.length_map]; have := congrArg List.length hce; simp at this hq8 ⊢; omega) ?_)
      intro t₅ tk₅
      have hpos2 : 0 < (((c ++ e).map (·.1)).length : Int) + 1 := by omega
      k_steps
      rename Fr _ _ _ _ => F₆
      rename News _ _ _ _ => N₆
      have pq : (a ++ q1 :: b).Perm (q1 :: q2 :: (c ++ e)) := by
        refine List.perm_middle.trans (List.Perm.cons q1 ?_)
        rw [hce]
        exact List.perm_middle
      have m1 : q1 ∈ a ++ q1 :: b := List.mem_append_right _ (.head _)
      have m2 : q2 ∈ a ++ q1 :: b := pq.mem_iff.mpr (.tail _ (.head _))
      have hin : (S.more fs).In _ := fun a o h => moreAt hS F₆ N₆ (fun p hp => .tail _ hp) h
      have hfq : (flat k ([q1, q2].map (·.2))).length + (flat k ((c ++ e).map (·.2))).length = (flat k (ps.map (·.2))).length := by
        have h1 := (hpe.symm.trans (flat_perm (pq.map (·.2)))).length_eq
        have e0 : (flat k ((q1 :: q2 :: (c ++ e)).map (·.2))) = fl k q1.2 ++ (fl k q2.2 ++ flat k ((c ++ e).map (·.2))) := by rw [List.map_cons, List.map_cons, flat_cons, flat_cons]
        have e2 : flat k ([q1, q2].map (·.2)) = fl k q1.2 ++ fl k q2.2 := by simp [flat]
        rw [e0, List.length_append, List.length_append] at h1
        rw [e2, List.length_append]
        omega
      have hf2 : 2 ≤ (flat k ([q1, q2].map (·.2))).length := by
        have g1 := hqf q1 m1
        have g2 := hqf q2 m2
        have e2 : flat k ([q1, q2].map (·.2)) = fl k q1.2 ++ fl k q2.2 := by simp [flat]
        rw [e2, List.length_append]
        omega
      refine Hold.intro (mk_c (S := S.more fs) (N := M + 1) (ps := [q1, q2]) (k := k) (kw := []) P (X.keeps F₆.keep) (T.keeps F₆.keep) hin (hk'.mono (S.sub_more fs)) (.inl rfl) (fun q hq => hbs q (by rcases List.mem_cons.mp hq with rfl | hq; exact m1; rw [List.mem_singleton.mp hq]; exact m2)) (by simp) (by simp) (by omega) hf2 (fun q hq => hht q (by rcases List.mem_cons.mp hq with rfl | hq; exact m1; rw [List.mem_singleton.mp hq]; exact m2)) hh (by simp only [depth_deeper]; omega) (by simp only [units_deeper]; omega) ?_)
      intro v h₇ tk₇ fs₂ st₇ fr₇ hvx
      obtain ⟨N₇, nf₇⟩ := newsAddL F₆ N₆ st₇ fr₇
      have F₇ := frStay F₆ st₇
      have N₈ : News s.heap L h₇ ((dl, listOf ((c ++ e).map (·.1)).toArray n₄) :: (fs₂ ++ fs)) := fun p hp => N₇ p (by
        simp only [List.mem_cons, List.mem_append] at hp ⊢
        rcases hp with h | h | h <;> simp [h])
      have hfd₂ : ∀ p ∈ fs₂ ++ fs, p.1 ≠ dl := fun p hp => by
        rcases List.mem_append.mp hp with h | h
        · exact nf₇ p h (dl, _) (.head _)
        · exact hfd p h
      clear F₆ N₆ N₇ nf₇ hin
      k_steps
      obtain ⟨w0, w1⟩ := fmod_in (u := (u.fdiv 4).fdiv 3) (n := ((c ++ e).map (·.1)).length + 1) (by omega)
      have hcast : (((((c ++ e).map (·.1)).length + 1 : Nat) : Int)) = (((c ++ e).map (·.1)).length : Int) + 1 := by omega
      rw [hcast] at w0 w1
      obtain ⟨z, hz⟩ : ∃ z : Nat, ((u.fdiv 4).fdiv 3).fmod ((((c ++ e).map (·.1)).length : Int) + 1) = (z : Int) := ⟨_, (Int.toNat_of_nonneg w0).symm⟩
      have hzl : z ≤ ((c ++ e).map (·.1)).length := by omega
      refine Hold.intro (insB (own := []) (xs := (c ++ e).map (·.1)) (y := v) (k := z) (by k_asm) N₈ (fun _ h => by cases h) hfd₂ (by rw [List.length_map]; have := congrArg List.length hce; simp at this hq8 ⊢; omega) hz hzl ?_)
      intro h₉ n₉ F₉ N₉
      simp only [List.nil_append] at N₉
      clear N₈
      k_steps
      rename Fr _ _ _ _ => FA
      rename News _ _ _ _ => NA
      have hce' : a.length + b.length = c.length + 1 + e.length := by have := congrArg List.length hce; simp at this; omega
      have hvx' : IsEx w.params (S.more (fs₂ ++ fs)) v (mk k ([q1, q2].map (·.2))) := hvx.mono (fun a o h => by
        rcases h with (h | h) | h
        · exact .inl h
        · exact .inr (List.mem_append_right _ h)
        · exact .inr (List.mem_append_left _ h))
      have hsub : (S.more fs).sub (S.more (fs₂ ++ fs)) := fun a o h => by
        rcases h with h | h
        · exact .inl h
        · exact .inr (List.mem_append_right _ h)
      have hflat : ∀ f ∈ flat k ([q1, q2].map (·.2)), f.ht < M := fun f hf => hM f (hpe.mem_iff.mp ((flat_perm (pq.map (·.2))).mem_iff.mpr (by
        have e2 : flat k ([q1, q2].map (·.2)) = fl k q1.2 ++ fl k q2.2 := by simp [flat]
        rw [e2, List.mem_append] at hf
        rw [List.map_cons, List.map_cons, flat_cons, flat_cons, List.mem_append, List.mem_append]
        rcases hf with h | h
        · exact .inl h
        · exact .inr (.inl h))))
      have hM0 : 0 < M := by
        match hfl' : flat k ([q1, q2].map (·.2)) with
        | [] => rw [hfl'] at hf2; simp at hf2
        | f :: _ => have := hflat f (hfl' ▸ .head _); omega
      have hMp := mk_ht' hflat hM0
      have hmem : ∀ q ∈ (c ++ e).take z ++ (v, mk k ([q1, q2].map (·.2))) :: (c ++ e).drop z, q = (v, mk k ([q1, q2].map (·.2))) ∨ q ∈ a ++ q1 :: b := fun q hq => by
        rcases List.mem_append.mp hq with h | h
        · exact .inr (pq.mem_iff.mpr (.tail _ (.tail _ (List.mem_of_mem_take h))))
        · rcases List.mem_cons.mp h with h | h
          · exact .inl h
          · exact .inr (pq.mem_iff.mpr (.tail _ (.tail _ (List.mem_of_mem_drop h))))
      refine ⟨_, _, _, _, _, ?_, rfl, FA, NA, (c ++ e).take z ++ (v, mk k ([q1, q2].map (·.2))) :: (c ++ e).drop z, n₉, fs₂ ++ fs, _, _, rfl, ?_, hfd₂, ?_, ?_, ?_, ?_, ?_, ?_, ?_, rfl, ?_⟩
      · simp only [List.length_append, List.length_cons, List.length_take, List.length_drop, List.length_map] at hzl ⊢; omega
      · simp only [List.map_append, List.map_cons, List.map_take, List.map_drop]
      · intro q hq
        rcases hmem q hq with rfl | h
        · exact hvx'
        · exact (hbs q h).mono hsub
      · simp only [List.length_append, List.length_cons]; omega
      · simp only [List.length_append, List.length_cons, List.length_take, List.length_drop, List.length_map] at hzl hq8 ⊢; omega
      · have p1 : ((c ++ e).take z ++ (v, mk k ([q1, q2].map (·.2))) :: (c ++ e).drop z).Perm ((v, mk k ([q1, q2].map (·.2))) :: (c ++ e)) := by
          refine List.perm_middle.trans ?_
          rw [List.take_append_drop]
        refine (flat_perm (p1.map (·.2))).trans ?_
        refine (flat_mk k ([q1, q2].map (·.2)) ((c ++ e).map (·.2))).trans ?_
        exact (flat_perm (pq.map (·.2))).symm.trans hpe
      · refine .inr ⟨?_, _, List.mem_append_right _ (.head _), _, rfl⟩
        rcases hmk with h | h
        · rw [← h]; exact hgt
        · exact h.1
      · intro q hq
        rcases hmem q hq with rfl | h
        · exact hMp
        · exact hht q h
      · intro q hq
        rcases hmem q hq with rfl | h
        · rw [fl_mk, (srt_perm _).length_eq]; omega
        · exact hqf q h
      · intro y y1 y2 y3
        simp only [y1, y2, y3, if_false]
        done
    · have hq1' : qs.length = 1 := by
        have := (by assumption : ¬ (1 : Int) < ((qs.map (·.1)).length : Int))
        rw [List.length_map] at this
        omega
      obtain ⟨q, rfl⟩ := List.length_eq_one_iff.mp hq1'
      have e : q.2 = joinE k (ps.map (·.2)) := by
        rcases hmk with h | ⟨h2, q', hq', l, hl⟩
        · rw [← h]; rfl
        · rw [List.mem_singleton.mp hq'] at hl
          rw [joinE_two (by rw [List.length_map]; omega), hl]
          refine mk_congr ?_
          rw [List.map_cons, List.map_nil, hl] at hpe
          have e1 : flat k [mk k l] = srt (flat k l) := by rw [flat_cons, fl_mk]; simp [flat]
          rw [e1] at hpe
          exact (srt_perm _).symm.trans hpe
      refine subB N (.head _) (by omega) (by omega) (v := q.1) rfl ?_
      exact hQ _ _ _ fs F.keep (fun p hp => ⟨(N p (.tail _ hp)).1, (N p (.tail _ hp)).2.2⟩) (e ▸ hbs q (.head _))
end Mine
namespace Mine
open PySem PySem.W PySem.Calls PyProof.Rows PySem.Spec
set_option maxRecDepth 100000
mutual
inductive IsTr (S : Facts) : Value → Tr → Prop
  | str {l : Leaf} {t : Tok} : IsTr S (.str l.nm t) (.str l)
  | node {a : Addr} {n : Nat} {k : Bool} {t : Tok} {ts : List Tr} {vs : List Value} (ha : S a (tupN (Value.str (kdName k) t :: vs).toArray n)) (hn : vs.length ≤ 60) (h : IsTrs S vs ts) : IsTr S (.ref a) (.node k ts)
inductive IsTrs (S : Facts) : List Value → List Tr → Prop
  | nil : IsTrs S [] []
  | cons {v : Value} {t : Tr} {vs : List Value} {ts : List Tr} (h : IsTr S v t) (r : IsTrs S vs ts) : IsTrs S (v :: vs) (t :: ts)
end
local macro_rules | `(tactic| k_inst) => `(tactic| (refine' instBase ?F ?h1 ?h2; (case F => k_asm); (case h1 => assumption); (case h2 => assumption)))
local macro_rules | `(tactic| k_room) => `(tactic| ((try simp only [depth_under_make, depth_under_kw, depth_in1, depth_deeper, depth_caller]); omega))
local macro_rules | `(tactic| k_units) => `(tactic| ((try simp only [units_in1, units_deeper, Around.mark_units, units_caller]); omega))
local macro_rules | `(tactic| walk_at "exec For") => `(tactic| (k_here; refine Hold.mk ?_))
local macro_rules | `(tactic| walk_at "truthy str") => `(tactic| (k_here; (with_reducible show wpAny _ _ (PySem.truthy (Value.str (Leaf.nm _) _)) _ _ _); refine truthy_nm ?_; intro _))
local macro_rules | `(tactic| walk_at "call builtin:len") => `(tactic| (k_here; (with_reducible show wpAny _ _ (call (Value.builtin "len") [Value.ref _] []) _ _ _); refine' lenB ?k1 ?k2 ?k3 ?_; (case k1 => k_asm); (case k2 => assumption); (case k3 => assumption); intro t' k'))
local macro_rules | `(tactic| walk_at "call type:zip") => `(tactic| (k_here; refine Hold.mk ?_))
local macro_rules | `(tactic| walk_at "compareOp Lt ref") => `(tactic| (k_here; (with_reducible show wpAny _ _ (compareOp CmpOp.Lt (Value.ref _) (Value.ref _)) _ _ _); refine Hold.mk ?_))
local macro_rules | `(tactic| walk_at "exec For Name Call cons nil") => `(tactic| (k_here; refine Hold.mk ?_))
local macro_rules | `(tactic| walk_at "exec For Name Name cons nil") => `(tactic| (k_here; refine Hold.mk ?_))
local macro_rules | `(tactic| walk_at "exec For Name Attribute cons nil") => `(tactic| (k_here; refine Hold.mk ?_))
local macro_rules | `(tactic| walk_at "exec For Name Subscript cons nil") => `(tactic| (k_here; refine Hold.mk ?_))
local macro_rules | `(tactic| walk_at "exec For Tuple Call cons nil") => `(tactic| (k_here; refine Hold.mk ?_))
local macro_rules | `(tactic| walk_at "exec For Name Tuple cons nil") => `(tactic| (k_here; refine Hold.mk ?_))
local macro_rules | `(tactic| walk_at "exec For Name Call") => `(tactic| (k_here; refine Hold.mk ?_))
local macro_rules | `(tactic| walk_at "exec For Name Name") => `(tactic| (k_here; refine Hold.mk ?_))
local macro_rules | `(tactic| walk_at "exec For Tuple Call") => `(tactic| (k_here; refine Hold.mk ?_))
local macro_rules | `(tactic| walk_at "exec While Compare cons nil") => `(tactic| (k_here; refine Hold.mk ?_))
local macro_rules | `(tactic| walk_at "exec While BoolOp cons nil") => `(tactic| (k_here; refine Hold.mk ?_))
local macro_rules | `(tactic| walk_at "exec While Compare") => `(tactic| (k_here; refine Hold.mk ?_))
local macro_rules | `(tactic| walk_at "exec While BoolOp") => `(tactic| (k_here; refine Hold.mk ?_))
local macro_rules | `(tactic| k_inst) => `(tactic| (first | (refine' instBase ?F ?h1 ?h2; (case F => k_asm); (case h1 => assumption); (case h2 => assumption)) | (refine' instBL ?F ?N ?h1 ?h2; (case F => k_asm); (case N => k_asm); (case h1 => assumption); (case h2 => k_mem))))
local macro_rules | `(tactic| walk_at "wpAt") => `(tactic| (dsimp only; ks_step "execs cons"; refine ks_wpAt_execs_cons ?_))
local macro_rules | `(tactic| walk_at "wpAt") => `(tactic| (ks_step "execs cons"; refine ks_wpAt_execs_cons ?_))
local macro_rules | `(tactic| walk_at "wpAt") => `(tactic| (ks_step "exec Expr"; with_unfolding_all refine ks_wpAt_Expr_any ?_))
local macro_rules | `(tactic| walk_at "wpAt") => `(tactic| (ks_step "exec If"; with_unfolding_all refine ks_wpAt_If ?_))
local macro_rules | `(tactic| walk_at "wpAt") => `(tactic| (ks_step "eval Call"; with_unfolding_all refine ks_wpAt_MethodCall ?_))
local macro_rules | `(tactic| walk_at "wpAt") => `(tactic| (ks_step "attributeBase Call"; k_here; k_dflt (with_unfolding_all refine ksN (by k_asm) (by k_asm) (by k_asm) (by k_asm) (by k_is) (by rfl) (by rfl) (by k_inst) (by k_is) (by rfl) (ProgOk.file (by assumption)) (by k_is) (by k_is) (by k_is) (by k_is) (by decide) (by rfl) (by rfl) (by rfl) (by rfl) (ProgOk.sup (by assumption)) (by first | boot_by_name | rfl | kernel_rfl) ?_; intro so' h' F' N' l1; (try k_lt l1))))
local macro_rules | `(tactic| walk_at "call ref") => `(tactic| (k_here; k_dflt (with_reducible show wpAny _ _ (call (Value.ref _) [_] []) _ _ _); refine Hold.mk ?_))
local macro_rules | `(tactic| walk_at "call builtin:isinstance") => `(tactic| (k_here; (with_reducible show wpAny _ _ (call (Value.builtin "isinstance") [Value.ref _, Value.type "str"] []) _ _ _); refine Hold.mk ?_))
local macro_rules | `(tactic| walk_at "binaryOp Add str str") => `(tactic| (k_here; refine Hold.mk ?_))
local macro_rules | `(tactic| walk_at "eval ListComp") => `(tactic| (k_here; refine Hold.mk ?_))
local macro_rules | `(tactic| walk_at "call builtin:str.join") => `(tactic| (k_here; refine Hold.mk ?_))
set_option maxHeartbeats 4000000
variable {prog : Program} {w : World} {A : Around} {s : Shared} {p : Program} {loose : List Str} {mg mb : Str → Option Value} {Q E : Value → Shared → Prop}
theorem text_str {x : Str} {t : Tok} (X : (Mine.frag.heap_1 w.params).In s.heap) (T : TopRead p loose mg mb s.heap) (hh : A.handled = none) (hdp : A.depth + 10 < recursionLimit) (hu : A.units + 10 < cLine)
    (hQ : ∀ h' tk, s.heap.StaysIn h' → Q (.str x t) { s with heap := h', toks := tk }) :
    wpAny (model prog w) A (call (.ref 825) [.str x t] []) Q E s := by
  refine useCall (enter (binds := [("tree", .str x t)]) X T.nolimit (by omega) (by k_is) (by k_is) (BindsTo.of_eq rfl) (locs rfl) ?_)
  intro L h₁ F N₁ hL
  k_steps
  exact hQ _ _ F.keep
/-- the parts of a text, with gaps -/
def gaps : List (List Nat) → List Nat
  | [] => []
  | c :: r => c ++ r.flatMap fun d => 32 :: d
theorem join_gaps {sp : Str} (hs : sp.cps.toList = [32]) : ∀ xs : List Str, (Txt.join sp xs).cps.toList = gaps (xs.map (·.cps.toList))
  | [] => rfl
  | [x] => by
    show (Builtin.Str.glued sp [x]).cps.toList = _
    rw [StrLaws.glued_eq_join]
    simp [Str.join, gaps]
  | x :: y :: r => by
    have ih := join_gaps hs (y :: r)
    rw [show Txt.join sp (y :: r) = Builtin.Str.glued sp (y :: r) from rfl, StrLaws.glued_eq_join] at ih
    show (Builtin.Str.glued sp (x :: y :: r)).cps.toList = _
    rw [StrLaws.glued_eq_join, join_cons_cons, KT.app_list, KT.app_list, ih, hs]
    simp [gaps]
theorem gaps_len {n : Nat} : ∀ {tx : List (List Nat)}, (∀ c ∈ tx, c.length ≤ n) → (gaps tx).length ≤ (n + 1) * tx.length
  | [], _ => Nat.zero_le _
  | c :: r, h => by
    have a := h c (.head _)
    have b : ∀ {l : List (List Nat)}, (∀ c ∈ l, c.length ≤ n) → (l.flatMap fun d => 32 :: d).length ≤ (n + 1) * l.length := by
      intro l
      induction l with
      | nil => intro _; simp
      | cons d l ih =>
        intro h
        have h1 := h d (.head _)
        have h2 := ih fun x hx => h x (.tail _ hx)
        rw [List.flatMap_cons, List.length_append, List.length_cons, List.length_cons, Nat.mul_succ]
        omega
    have b' := b fun x hx => h x (.tail _ hx)
    rw [gaps, List.length_append, List.length_cons, Nat.mul_succ]
    omega
/-- what _law_text answers at a value -/
def TextC (prog : Program) (w : World) (p : Program) (loose : List Str) (mg mb : Str → Option Value) (D : Nat) (S : Facts) (v : Value) (c : List Nat) : Prop :=
  ∀ (A : Around) (s : Shared) (Q : Value → Shared → Prop) (E : Value → Shared → Prop), (Mine.frag.heap_1 w.params).In s.heap → TopRead p loose mg mb s.heap → S.In s.heap → A.handled = none → A.depth + D < recursionLimit → A.units + D < cLine →
    (∀ h' tk x t, s.heap.StaysIn h' → x.cps.toList = c → Q (.str x t) { s with heap := h', toks := tk }) → wpAny (model prog w) A (call (.ref 825) [v] []) Q E s
theorem text_node {S : Facts} {D : Nat} {a : Addr} {vs : List Value} {n : Nat} {tx : List (List Nat)} (ha : S a (tupN vs.toArray n)) (hl : tx.length = vs.length) (hz : vs.length ≤ 100) (hx : ∀ c ∈ tx, c.length ≤ 1000)
    (hE : ∀ (i : Nat) (v : Value) (c : List Nat), vs[i]? = some v → tx[i]? = some c → TextC prog w p loose mg mb D S v c) : TextC prog w p loose mg mb (D + 10) S (.ref a) (40 :: (gaps tx ++ [41])) := by
  intro A s Q E X T hS hh hdp hu hQ
  have ha' := hS _ _ ha
  refine useCall (enter (binds := [("tree", .ref a)]) X T.nolimit (by omega) (by k_is) (by k_is) (BindsTo.of_eq rfl) (locs rfl) ?_)
  intro L h₁ F N₁ hL
  k_steps
  refine Hold.intro (IsiPair.tuple_str (F.keep _ _ ha') rfl ?_)
  k_steps
  refine Hold.intro (compT (its := vs.toArray) (J := fun ys news => news = [] ∧ ∃ xs : List Str, StrsAre ys xs ∧ xs.map (·.cps.toList) = tx.take ys.length) (by k_asm) hh (by rw [List.size_toArray, sizeLine_eq]; omega) (by with_unfolding_all rfl) (by decide) (by rfl) (by decide) (by rfl) ?_ ?_ ?_)
  · k_steps
    exact ⟨a, [], _, _, rfl, rfl, by assumption, by assumption, fun _ _ _ => .inl ⟨n, ha'⟩, rfl, [], .nil, by simp⟩
  · rintro v ys news I oI C oC D' m₂ h tk hv ⟨rfl, xs, hxs, hxe⟩ hC hm F N off ne1 ne2 ne3
    k_steps
    have hv' : vs[ys.length]? = some v := by simpa using hv
    have hlt : ys.length < vs.length := (List.getElem?_eq_some_iff.mp hv').1
    obtain ⟨c, hc⟩ : ∃ c, tx[ys.length]? = some c := ⟨_, List.getElem?_eq_getElem (by omega)⟩
    rename Fr _ _ _ _ => F'
    rename News _ _ _ _ => N'
    refine Hold.intro (hE _ _ _ hv' hc _ _ _ _ (X.keeps F'.keep) (T.keeps F'.keep) (fun a o h => F'.keep _ _ (hS a o h)) hh (by simp only [depth_deeper]; omega) (by simp only [units_deeper]; omega) ?_)
    intro h' tk' x t st hxc
    exact ⟨h', tk', [], rfl, frStay F' st, newsStay N' st, off, rfl, xs ++ [x], skSnoc hxs, by
      rw [List.map_append, hxe, List.length_append, List.length_singleton, List.take_add_one, hc]
      simp [hxc]⟩
  · rintro D' h tk ys news hlen ⟨rfl, xs, hxs, hxe⟩ F N off
    k_steps
    rw [List.size_toArray] at hlen
    rw [hlen, ← hl, List.take_length] at hxe
    have hxl : xs.length = vs.length := by
      have := congrArg List.length hxe
      rw [List.length_map] at this
      omega
    have hsum : (xs.map (·.length)).sum ≤ 1000 * xs.length := by
      have : ∀ x ∈ xs, x.length ≤ 1000 := fun x hx' => by
        have h1 := hx x.cps.toList (by rw [← hxe]; exact List.mem_map_of_mem hx')
        rw [Array.length_toList] at h1
        exact h1
      have := StrLaws.sumLen_le xs this
      omega
    refine Hold.intro (join_list (items := ys.toArray) (ys := xs) ⟨_, (N _ (.head _)).1, rfl, _, rfl⟩ (by simpa using hxs) (by
      have e1 : (Str.ofString " ").length = 1 := by decide
      rw [e1]; omega) ?_)
    intro t' tk'
    k_steps
    have hjl : (Txt.join (Str.ofString " ") xs).cps.toList = gaps tx := by rw [join_gaps (by decide), hxe]
    have hgl : (gaps tx).length ≤ 200000 := by
      have := gaps_len hx
      rw [hl] at this
      omega
    have hjn : (Txt.join (Str.ofString " ") xs).length ≤ 200000 := by
      have := congrArg List.length hjl
      rw [Array.length_toList] at this
      exact Nat.le_trans (Nat.le_of_eq this) hgl
    refine Hold.intro (SB.add (fun t'' tk'' => ?_) (by
      have e1 : (Str.ofString "(").length = 1 := by decide
      rw [e1, sizeLine_eq]; omega))
    k_steps
    refine Hold.intro (SB.add (fun t'' tk'' => ?_) (by
      have e1 : (Str.ofString "(").length = 1 := by decide
      have e2 : (Str.ofString ")").length = 1 := by decide
      rw [Str.length_append, e1, e2, sizeLine_eq]; omega))
    k_steps
    refine hQ _ _ _ _ (by exact F.keep) ?_
    rw [KT.app_list, KT.app_list, hjl]
    rfl
theorem TextC.mono {D D' : Nat} {S : Facts} {v : Value} {c : List Nat} (h : TextC prog w p loose mg mb D S v c) (hd : D ≤ D') : TextC prog w p loose mg mb D' S v c :=
  fun A s Q E X T hS hh hdp hu hQ => h A s Q E X T hS hh (by omega) (by omega) hQ
theorem text_strC {S : Facts} {x : Str} {t : Tok} : TextC prog w p loose mg mb 10 S (.str x t) x.cps.toList :=
  fun A s Q E X T hS hh hdp hu hQ => text_str X T hh hdp hu fun h' tk st => hQ h' tk x t st rfl
mutual
def Tr.hgt : Tr → Nat
  | .str _ => 0
  | .node _ ts => hgtL ts + 1
def hgtL : List Tr → Nat
  | [] => 0
  | t :: r => max t.hgt (hgtL r)
end
theorem txtL_gaps (c : List Nat) : ∀ ts : List Tr, gaps (c :: ts.map Tr.txt) ++ [41] = c ++ txtL ts
  | [] => by simp [gaps, txtL]
  | t :: r => by
    have ih := txtL_gaps [] r
    simp only [gaps, List.nil_append] at ih
    simp only [gaps, List.map_cons, List.flatMap_cons, txtL, List.append_assoc, List.cons_append]
    rw [ih]
theorem txtL_mem {t : Tr} : ∀ {ts : List Tr}, t ∈ ts → t.txt.length ≤ (txtL ts).length
  | u :: r, h => by
    rw [txtL, List.length_cons, List.length_append]
    rcases List.mem_cons.mp h with rfl | h
    · omega
    · have := txtL_mem h; omega
theorem kdName_ch (k : Bool) : (kdName k).cps.toList = [kch k] := by cases k <;> decide
theorem nm_ch (l : Leaf) : l.nm.cps.toList = [l.ch] := by cases l <;> decide
theorem IsTrs.length {S : Facts} : ∀ {vs : List Value} {ts : List Tr}, IsTrs S vs ts → vs.length = ts.length
  | _, _, .nil => rfl
  | _, _, .cons _ r => by rw [List.length_cons, List.length_cons, r.length]
mutual
theorem text_tr {S : Facts} : ∀ (t : Tr) {v : Value}, IsTr S v t → t.txt.length ≤ 1000 → TextC prog w p loose mg mb (10 * t.hgt + 10) S v t.txt
  | .str l, _, .str, _ => by
    rw [Tr.txt, ← nm_ch]
    exact text_strC.mono (by omega)
  | .node k ts, _, .node (t := tk) (vs := vs) ha hn h, hz => by
    rw [Tr.txt, List.length_cons, List.length_cons] at hz
    have hlen := h.length
    have q := text_trs ts h (fun t ht => by have := txtL_mem ht; omega)
    have r := text_node (w := w) (prog := prog) (p := p) (loose := loose) (mg := mg) (mb := mb) (D := 10 * hgtL ts + 10) (tx := [kch k] :: ts.map Tr.txt) ha (by simp [hlen]) (by simp; omega) (fun c hc => by
      rcases List.mem_cons.mp hc with rfl | hc
      · simp
      · obtain ⟨t, ht, rfl⟩ := List.mem_map.mp hc
        have := txtL_mem ht; omega) (fun i v c hv hc => by
      cases i with
      | zero =>
        simp only [List.getElem?_cons_zero, Option.some.injEq] at hv hc
        subst hv; subst hc
        rw [← kdName_ch]
        exact text_strC.mono (by omega)
      | succ i =>
        simp only [List.getElem?_cons_succ, List.getElem?_map, Option.map_eq_some_iff] at hv hc
        obtain ⟨t, ht, rfl⟩ := hc
        exact q i v t hv ht)
    rw [Tr.txt, show kch k :: txtL ts = [kch k] ++ txtL ts from rfl, ← txtL_gaps]
    refine r.mono ?_
    rw [Tr.hgt]; omega
theorem text_trs {S : Facts} : ∀ (ts : List Tr) {vs : List Value}, IsTrs S vs ts → (∀ t ∈ ts, t.txt.length ≤ 1000) → ∀ (i : Nat) (v : Value) (t : Tr), vs[i]? = some v → ts[i]? = some t → TextC prog w p loose mg mb (10 * hgtL ts + 10) S v t.txt
  | [], _, .nil, _, i, v, t, hv, ht => by simp at hv
  | u :: r, _, .cons h hr, hz, i, v, t, hv, ht => by
    cases i with
    | zero =>
      simp only [List.getElem?_cons_zero, Option.some.injEq] at hv ht
      subst hv; subst ht
      exact (text_tr u h (hz u (.head _))).mono (by rw [hgtL]; omega)
    | succ i =>
      simp only [List.getElem?_cons_succ] at hv ht
      exact (text_trs r hr (fun t ht => hz t (.tail _ ht)) i v t hv ht).mono (by rw [hgtL]; omega)
end
end Mine
namespace Mine
open PySem PySem.W PySem.Calls PyProof.Rows PySem.Spec
mutual
/-- a tree as data -/
def dat : Tr → PyData
  | .str l => .str l.nm
  | .node k ts => .tuple (.str (kdName k) :: datL ts)
def datL : List Tr → List PyData
  | [] => []
  | t :: r => dat t :: datL r
end
mutual
theorem reads_tr {S : Facts} {h : Heap} (hS : S.In h) : ∀ (t : Tr) {v : Value}, IsTr S v t → ∃ as, Reads h v (dat t) as
  | .str l, _, .str => ⟨_, Reads.str _ _⟩
  | .node k ts, _, .node ha hn hs => by
    obtain ⟨as, hr⟩ := reads_trs hS ts hs
    refine ⟨as, ?_⟩
    rw [dat]
    exact reads_tuple_at (hS _ _ ha) rfl rfl (readsAll_cons_val (Reads.str _ _) hr)
theorem reads_trs {S : Facts} {h : Heap} (hS : S.In h) : ∀ (ts : List Tr) {vs : List Value}, IsTrs S vs ts → ∃ as, ReadsAll h vs (datL ts) as
  | [], _, .nil => ⟨[], ReadsAll.nil⟩
  | t :: r, _, .cons a b => by
    obtain ⟨as, h1⟩ := reads_tr hS t a
    obtain ⟨bs, h2⟩ := reads_trs hS r b
    exact ⟨_, ReadsAll.cons h1 h2⟩
end
mutual
theorem lay_tr : ∀ t : Tr, (dat t).canLay0 = true
  | .str l => by rw [dat, PyData.canLay0]; cases l <;> decide +kernel
  | .node k ts => by
    rw [dat, PyData.canLay0, PyData.canLayAll0, lay_trs ts, Bool.and_true, PyData.canLay0]
    cases k <;> decide +kernel
theorem lay_trs : ∀ ts : List Tr, PyData.canLayAll0 (datL ts) = true
  | [] => rfl
  | t :: r => by rw [datL, PyData.canLayAll0, lay_tr t, lay_trs r]; rfl
end
mutual
theorem depth_tr : ∀ t : Tr, (dat t).depth ≤ t.hgt
  | .str l => by rw [dat]; simp [PyData.depth]
  | .node k ts => by
    rw [dat, PyData.depth, Tr.hgt, PyData.depthAll]
    have := depth_trs ts
    simp [PyData.depth]
    omega
theorem depth_trs : ∀ ts : List Tr, PyData.depthAll (datL ts) ≤ hgtL ts
  | [] => by simp [datL, PyData.depthAll]
  | t :: r => by
    rw [datL, PyData.depthAll, hgtL]
    have := depth_tr t
    have := depth_trs r
    omega
end
theorem shaped_tr (t : Tr) (h : t.hgt ≤ 60) : SeqAt.shaped (dat t) = true := by
  unfold SeqAt.shaped
  rw [lay_tr, Bool.true_and]
  exact decide_eq_true (Nat.le_trans (depth_tr t) (by omega))
section
variable {prog : Program} {w : World} {A : Around} {E : Value → Shared → Prop} {s : Shared} {Q : Value → Shared → Prop}
/-- one tree twice is not unequal -/
theorem tree_ne {S : Facts} {v v' : Value} {t : Tr} (hS : S.In s.heap) (h1 : IsTr S v t) (h2 : IsTr S v' t) (hg : t.hgt ≤ 60) (hu : A.units + 64 < cLine) (h : Q (.bool false) s) : wpAny (model prog w) A (compareOp .NotEq v v') Q E s := by
  obtain ⟨as, r1⟩ := reads_tr hS t h1
  obtain ⟨bs, r2⟩ := reads_tr hS t h2
  refine ne_dataH r1 r2 (shaped_tr t hg) (shaped_tr t hg) hu ?_
  rw [SeqAt.eqv_refl _ (lay_tr t)]
  exact h
/-- nor two rows of it -/
theorem rows_ne {S : Facts} {a b n1 n2 : Nat} {u1 u2 v1 v2 : Value} {t : Tr} (hS : S.In s.heap) (ha : s.heap.get? a = some (listOf #[u1, u2] n1)) (hb : s.heap.get? b = some (listOf #[v1, v2] n2)) (h1 : IsTr S u1 t) (h2 : IsTr S u2 t) (h3 : IsTr S v1 t) (h4 : IsTr S v2 t) (hg : t.hgt ≤ 60) (hu : A.units + 64 < cLine) (h : Q (.bool false) s) :
    wpAny (model prog w) A (compareOp .NotEq (.ref a) (.ref b)) Q E s := by
  obtain ⟨_, r1⟩ := reads_tr hS t h1
  obtain ⟨_, r2⟩ := reads_tr hS t h2
  obtain ⟨_, r3⟩ := reads_tr hS t h3
  obtain ⟨_, r4⟩ := reads_tr hS t h4
  have sh : SeqAt.shaped (.list [dat t, dat t]) = true := by
    unfold SeqAt.shaped
    rw [PyData.canLay0, PyData.canLayAll0, PyData.canLayAll0, PyData.canLayAll0, lay_tr, Bool.true_and, Bool.true_and, Bool.true_and]
    refine decide_eq_true ?_
    have := depth_tr t
    simp only [PyData.depth, PyData.depthAll]
    omega
  refine ne_dataH (reads_list_at ha rfl rfl (ReadsAll.cons r1 (ReadsAll.cons r2 ReadsAll.nil))) (reads_list_at hb rfl rfl (ReadsAll.cons r3 (ReadsAll.cons r4 ReadsAll.nil))) sh sh hu ?_
  rw [SeqAt.eqv_refl _ ((Bool.and_eq_true_iff.mp sh).1)]
  exact h
end
end Mine
namespace Mine
open PySem PySem.W PySem.Calls PyProof.Rows PySem.Spec
set_option maxRecDepth 100000
theorem perm_lift {α β : Type} {f : α → β} : ∀ {ps qs : List β}, ps.Perm qs → ∀ {l : List α}, qs = l.map f → ∃ l' : List α, l'.Perm l ∧ l'.map f = ps := by
  intro ps qs h
  induction h with
  | nil => intro l e; exact ⟨l, .refl _, e.symm⟩
  | cons x _ ih =>
    intro l e
    match l, e with
    | a :: r, e =>
      rw [List.map_cons, List.cons.injEq] at e
      obtain ⟨l', p, q⟩ := ih e.2
      exact ⟨a :: l', p.cons a, by rw [List.map_cons, q, e.1]⟩
  | swap x y t =>
    intro l e
    match l, e with
    | a :: b :: r, e =>
      rw [List.map_cons, List.map_cons, List.cons.injEq, List.cons.injEq] at e
      exact ⟨b :: a :: r, .swap a b r, by rw [List.map_cons, List.map_cons, e.1, e.2.1, e.2.2]⟩
  | trans _ _ ih1 ih2 =>
    intro l e
    obtain ⟨l2, p2, q2⟩ := ih2 e
    obtain ⟨l1, p1, q1⟩ := ih1 q2.symm
    exact ⟨l1, p1.trans p2, q1⟩
def txS (t : Tr) : Str := ⟨t.txt.toArray⟩
theorem IsTrs.zip {S : Facts} : ∀ {vs : List Value} {ts : List Tr}, IsTrs S vs ts → ∀ q ∈ ts.zip vs, IsTr S q.2 q.1
  | _, _, .nil, q, h => by simp at h
  | _, _, .cons a r, q, h => by
    rw [List.zip_cons_cons] at h
    rcases List.mem_cons.mp h with rfl | h
    · exact a
    · exact r.zip q h
theorem IsTrs.of_pairs {S : Facts} : ∀ {qs : List (Tr × Value)}, (∀ q ∈ qs, IsTr S q.2 q.1) → IsTrs S (qs.map (·.2)) (qs.map (·.1))
  | [], _ => .nil
  | q :: r, h => .cons (h q (.head _)) (IsTrs.of_pairs fun x hx => h x (.tail _ hx))
/-- what is sorted by its texts -/
theorem out_sorted {S : Facts} {ys out : List Value} {ts : List Tr} (h : IsTrs S ys ts) (o : OutS (ts.map txS) ys out) : IsTrs S out (srtT ts) := by
  obtain ⟨ps, pp, rfl, hs⟩ := o
  have e : (ts.map txS).zip ys = (ts.zip ys).map fun q => (txS q.1, q.2) := by
    rw [List.zip_map_left]; rfl
  obtain ⟨qs, p, q⟩ := perm_lift pp e
  have e2 : ps.map Prod.snd = qs.map (·.2) := by rw [← q, List.map_map]; rfl
  have h1 := IsTrs.of_pairs (qs := qs) fun x hx => h.zip x (p.mem_iff.mp hx)
  have e3 : qs.map (·.1) = srtT ts := by
    refine srtT_unique ?_ ?_
    · have := p.map (·.1)
      rwa [List.map_fst_zip (by rw [h.length]; exact Nat.le_refl _)] at this
    · unfold TSorted
      rw [List.pairwise_map]
      rw [← q, List.pairwise_map] at hs
      exact hs.imp fun h => by simpa [txS] using h
  rw [e2, ← e3]
  exact h1
mutual
theorem IsTr.mono {S S' : Facts} (hs : S.sub S') : ∀ {v : Value} {t : Tr}, IsTr S v t → IsTr S' v t
  | _, _, .str => .str
  | _, _, .node a b c => .node (hs _ _ a) b (c.mono hs)
theorem IsTrs.mono {S S' : Facts} (hs : S.sub S') : ∀ {vs : List Value} {ts : List Tr}, IsTrs S vs ts → IsTrs S' vs ts
  | _, _, .nil => .nil
  | _, _, .cons a b => .cons (a.mono hs) (b.mono hs)
end
theorem IsTrs.snoc {S : Facts} {v : Value} {t : Tr} : ∀ {vs : List Value} {ts : List Tr}, IsTrs S vs ts → IsTr S v t → IsTrs S (vs ++ [v]) (ts ++ [t])
  | _, _, .nil, h => .cons h .nil
  | _, _, .cons a r, h => .cons a (r.snoc h)
theorem IsTrs.get {S : Facts} : ∀ {vs : List Value} {ts : List Tr}, IsTrs S vs ts → ∀ {i : Nat} {v : Value}, vs[i]? = some v → ∃ t, ts[i]? = some t ∧ IsTr S v t
  | _, _, .nil, i, v, h => by simp at h
  | _, _, .cons a b, 0, v, h => by simp at h; subst h; exact ⟨_, rfl, a⟩
  | _, _, .cons a b, i + 1, v, h => by simp at h; exact IsTrs.get b h
section
variable {prog : Program} {w : World} {A : Around} {E : Value → Shared → Prop} {s : Shared} {h₀ : Heap} {L : Addr} {m : Str → Option Value} {news : List (Addr × Obj)} {Q : Value → Shared → Prop}
/-- tuple(a list of the ledger) -/
theorem tupOfL {l : Addr} {its : Array Value} {c : Nat} (F : Fr h₀ L s.heap m) (N : News h₀ L s.heap news) (hm : (l, seqObj "list" its c) ∈ news) (hz : its.size ≤ sizeLine)
    (h : ∀ D h', Fr h₀ L h' m → News h₀ L h' ((D, ({ cls := .type "tuple", data := .seq its } : Obj)) :: news) → (∀ p ∈ news, p.1 ≠ D) → Q (.ref D) { s with heap := h' }) :
    wpAny (model prog w) A (call (.type "tuple") [.ref l] []) Q E s := by
  refine call_tuple_list ⟨_, (N _ hm).1, rfl, c, rfl⟩ (fun h' hk => ?_) hz
  obtain ⟨F', N', ne⟩ := newsAdd (a := h'.objs.size) (o := ({ cls := .type "tuple", data := .seq its } : Obj)) F N (fun b o e => Heap.get?_push_of_some _ (hk b o e)) (by
    cases e : s.heap.get? h'.objs.size with
    | none => rfl
    | some o => exact absurd (Heap.lt_size (hk _ _ e)) (Nat.lt_irrefl _)) (Heap.get?_push_size _ rfl)
  exact h _ _ F' N' ne
/-- the sum of two tuples of the ledger -/
theorem tupAdd {a b : Addr} {xs ys : Array Value} {n1 n2 : Nat} (F : Fr h₀ L s.heap m) (N : News h₀ L s.heap news) (ha : (a, tupN xs n1) ∈ news) (hb : (b, tupN ys n2) ∈ news) (h1 : 0 < xs.size) (h2 : 0 < ys.size) (hz : xs.size + ys.size ≤ sizeLine)
    (h : ∀ D h', Fr h₀ L h' m → News h₀ L h' ((D, ({ cls := .type "tuple", data := .seq (xs ++ ys) } : Obj)) :: news) → (∀ p ∈ news, p.1 ≠ D) → Q (.ref D) { s with heap := h' }) :
    wpAny (model prog w) A (binaryOp .Add (.ref a) (.ref b)) Q E s := by
  refine P.add_tuple (N _ ha).1 (N _ hb).1 (fun e => by have := Array.isEmpty_iff.mp e; subst this; simp at h1) (fun e => by have := Array.isEmpty_iff.mp e; subst this; simp at h2) ?_ hz
  obtain ⟨F', N', ne⟩ := newsAdd (a := s.heap.objs.size) (o := ({ cls := .type "tuple", data := .seq (xs ++ ys) } : Obj)) F N (fun b o e => Heap.get?_push_of_some _ e) (Heap.get?_none_of_le (Nat.le_refl _)) (Heap.get?_push_size _ rfl)
  exact h _ _ F' N' ne
end
local macro_rules | `(tactic| k_inst) => `(tactic| (refine' instBase ?F ?h1 ?h2; (case F => k_asm); (case h1 => assumption); (case h2 => assumption)))
local macro_rules | `(tactic| k_room) => `(tactic| ((try simp only [depth_under_make, depth_under_kw, depth_in1, depth_deeper, depth_caller]); omega))
local macro_rules | `(tactic| k_units) => `(tactic| ((try simp only [units_in1, units_deeper, Around.mark_units, units_caller]); omega))
local macro_rules | `(tactic| walk_at "exec For") => `(tactic| (k_here; refine Hold.mk ?_))
local macro_rules | `(tactic| walk_at "truthy str") => `(tactic| (k_here; (with_reducible show wpAny _ _ (PySem.truthy (Value.str (Leaf.nm _) _)) _ _ _); refine truthy_nm ?_; intro _))
local macro_rules | `(tactic| walk_at "call builtin:len") => `(tactic| (k_here; (with_reducible show wpAny _ _ (call (Value.builtin "len") [Value.ref _] []) _ _ _); refine' lenB ?k1 ?k2 ?k3 ?_; (case k1 => k_asm); (case k2 => assumption); (case k3 => assumption); intro t' k'))
local macro_rules | `(tactic| walk_at "call type:zip") => `(tactic| (k_here; refine Hold.mk ?_))
local macro_rules | `(tactic| walk_at "compareOp Lt ref") => `(tactic| (k_here; (with_reducible show wpAny _ _ (compareOp CmpOp.Lt (Value.ref _) (Value.ref _)) _ _ _); refine Hold.mk ?_))
local macro_rules | `(tactic| walk_at "exec For Name Call cons nil") => `(tactic| (k_here; refine Hold.mk ?_))
local macro_rules | `(tactic| walk_at "exec For Name Name cons nil") => `(tactic| (k_here; refine Hold.mk ?_))
local macro_rules | `(tactic| walk_at "exec For Name Attribute cons nil") => `(tactic| (k_here; refine Hold.mk ?_))
local macro_rules | `(tactic| walk_at "exec For Name Subscript cons nil") => `(tactic| (k_here; refine Hold.mk ?_))
local macro_rules | `(tactic| walk_at "exec For Tuple Call cons nil") => `(tactic| (k_here; refine Hold.mk ?_))
local macro_rules | `(tactic| walk_at "exec For Name Tuple cons nil") => `(tactic| (k_here; refine Hold.mk ?_))
local macro_rules | `(tactic| walk_at "exec For Name Call") => `(tactic| (k_here; refine Hold.mk ?_))
local macro_rules | `(tactic| walk_at "exec For Name Name") => `(tactic| (k_here; refine Hold.mk ?_))
local macro_rules | `(tactic| walk_at "exec For Tuple Call") => `(tactic| (k_here; refine Hold.mk ?_))
local macro_rules | `(tactic| walk_at "exec While Compare cons nil") => `(tactic| (k_here; refine Hold.mk ?_))
local macro_rules | `(tactic| walk_at "exec While BoolOp cons nil") => `(tactic| (k_here; refine Hold.mk ?_))
local macro_rules | `(tactic| walk_at "exec While Compare") => `(tactic| (k_here; refine Hold.mk ?_))
local macro_rules | `(tactic| walk_at "exec While BoolOp") => `(tactic| (k_here; refine Hold.mk ?_))
local macro_rules | `(tactic| k_inst) => `(tactic| (first | (refine' instBase ?F ?h1 ?h2; (case F => k_asm); (case h1 => assumption); (case h2 => assumption)) | (refine' instBL ?F ?N ?h1 ?h2; (case F => k_asm); (case N => k_asm); (case h1 => assumption); (case h2 => k_mem))))
local macro_rules | `(tactic| walk_at "wpAt") => `(tactic| (dsimp only; ks_step "execs cons"; refine ks_wpAt_execs_cons ?_))
local macro_rules | `(tactic| walk_at "wpAt") => `(tactic| (ks_step "execs cons"; refine ks_wpAt_execs_cons ?_))
local macro_rules | `(tactic| walk_at "wpAt") => `(tactic| (ks_step "exec Expr"; with_unfolding_all refine ks_wpAt_Expr_any ?_))
local macro_rules | `(tactic| walk_at "wpAt") => `(tactic| (ks_step "exec If"; with_unfolding_all refine ks_wpAt_If ?_))
local macro_rules | `(tactic| walk_at "wpAt") => `(tactic| (ks_step "eval Call"; with_unfolding_all refine ks_wpAt_MethodCall ?_))
local macro_rules | `(tactic| walk_at "wpAt") => `(tactic| (ks_step "attributeBase Call"; k_here; k_dflt (with_unfolding_all refine ksN (by k_asm) (by k_asm) (by k_asm) (by k_asm) (by k_is) (by rfl) (by rfl) (by k_inst) (by k_is) (by rfl) (ProgOk.file (by assumption)) (by k_is) (by k_is) (by k_is) (by k_is) (by decide) (by rfl) (by rfl) (by rfl) (by rfl) (ProgOk.sup (by assumption)) (by first | boot_by_name | rfl | kernel_rfl) ?_; intro so' h' F' N' l1; (try k_lt l1))))
local macro_rules | `(tactic| walk_at "call ref") => `(tactic| (k_here; k_dflt (with_reducible show wpAny _ _ (call (Value.ref _) [_] []) _ _ _); refine Hold.mk ?_))
local macro_rules | `(tactic| walk_at "call builtin:isinstance") => `(tactic| (k_here; (with_reducible show wpAny _ _ (call (Value.builtin "isinstance") [Value.ref _, Value.type "str"] []) _ _ _); refine Hold.mk ?_))
local macro_rules | `(tactic| walk_at "eval ListComp") => `(tactic| (k_here; refine Hold.mk ?_))
local macro_rules | `(tactic| walk_at "call builtin:sorted") => `(tactic| (k_here; (show wpAny _ _ (call (Value.builtin "sorted") [Value.ref _] [(PySem.Str.ofString "key", _)]) _ _ _); refine Hold.mk ?_))
local macro_rules | `(tactic| walk_at "call type:tuple") => `(tactic| (k_here; refine Hold.mk ?_))
local macro_rules | `(tactic| walk_at "binaryOp Add ref ref") => `(tactic| (k_here; refine Hold.mk ?_))
set_option maxHeartbeats 4000000
variable {prog : Program} {w : World} {A : Around} {s : Shared} {p : Program} {loose : List Str} {mg mb : Str → Option Value} {Q E : Value → Shared → Prop}
/-- what _law_plain answers at a value -/
def PlainC (prog : Program) (w : World) (p : Program) (loose : List Str) (mg mb : Str → Option Value) (D : Nat) (S : Facts) (v : Value) (e : Ex) : Prop :=
  ∀ (A : Around) (s : Shared) (Q : Value → Shared → Prop) (E : Value → Shared → Prop), (Mine.frag.heap_1 w.params).In s.heap → TopRead p loose mg mb s.heap → S.In s.heap → A.handled = none → A.depth + D < recursionLimit → A.units + D < cLine →
    (∀ v' h' tk fs, s.heap.StaysIn h' → Fresh s.heap h' fs → IsTr (S.more fs) v' (pl e) → Q v' { s with heap := h', toks := tk }) → wpAny (model prog w) A (call (.ref 830) [v] []) Q E s
theorem plain_leaf {S : Facts} {v : Value} {l : Leaf} (h : IsEx w.params S v (.leaf l)) : PlainC prog w p loose mg mb 50 S v (.leaf l) := by
  intro A s Q E X T hS hh hdp hu hQ
  cases h with
  | @sym a d _ t1 t2 t3 hl ha hd =>
    have ha' := hS _ _ ha
    have hd' := hS _ _ hd
    refine useCall (enter (binds := [("one", .ref a)]) X T.nolimit (by omega) (by k_is) (by k_is) (BindsTo.of_eq rfl) (locs rfl) ?_)
    intro L h₁ F N₁ hL
    k_steps
    exact hQ _ _ _ [] F.keep (fun _ h => by cases h) (by rw [pl]; exact .str)
  | @var a d _ t1 t2 t3 t4 t5 t6 hl ha hd =>
    have ha' := hS _ _ ha
    have hd' := hS _ _ hd
    refine useCall (enter (binds := [("one", .ref a)]) X T.nolimit (by omega) (by k_is) (by k_is) (BindsTo.of_eq rfl) (locs rfl) ?_)
    intro L h₁ F N₁ hL
    k_steps
    exact hQ _ _ _ [] F.keep (fun _ h => by cases h) (by rw [pl]; exact .str)
theorem plain_op {S : Facts} {v : Value} {k : Bool} {es : List Ex} {D : Nat} (h : IsEx w.params S v (.op k es)) (h1 : 1 ≤ es.length) (hl : es.length ≤ 60) (hD : ∀ t ∈ es.map pl, 10 * t.hgt + 40 ≤ D) (hz : (pl (.op k es)).txt.length ≤ 1000)
    (hE : ∀ (v : Value) (e : Ex), e ∈ es → IsEx w.params S v e → PlainC prog w p loose mg mb D S v e) : PlainC prog w p loose mg mb (D + 10) S v (.op k es) := by
  intro A s Q E X T hS hh hdp hu hQ
  cases h with
  | @op a d l kd ar _ _ vs n t1 t2 t3 t4 t5 t6 t7 t8 t9 ha hd hls hn hk hes =>
    have ha' := hS _ _ ha
    have hd' := hS _ _ hd
    have hl' := hS _ _ hls
    refine useCall (enter (binds := [("one", .ref a)]) X T.nolimit (by omega) (by k_is) (by k_is) (BindsTo.of_eq rfl) (locs rfl) ?_)
    intro L h₁ F N₁ hL
    k_steps
    rename News _ _ _ _ => N₀
    rename Fr _ _ _ _ => F₀
    rename Addr => Tt
    refine Hold.intro (compL (its := vs.toArray) (J := fun ys news => (Tt, ({ cls := .type "tuple", data := .seq #[.str (kdName k) t4] } : Obj)) ∈ news ∧ IsTrs (S.more news) ys ((es.map pl).take ys.length)) (by k_asm) hh (by rw [List.size_toArray, sizeLine_eq]; omega) (by with_unfolding_all rfl) (by decide) (by rfl) (by decide) (by rfl) ?_ ?_ ?_)
    · k_steps
      exact ⟨l, _, _, _, rfl, rfl, F₀, N₀, fun _ _ _ => .inl ⟨_, hl', rfl, n, rfl⟩, .head _, by simpa using IsTrs.nil⟩
    · rintro v ys news I oI C oC D' m₂ h tk hv ⟨hTt, hJ⟩ hC hm F N off ne1 ne2 ne3
      k_steps
      have hv' : vs[ys.length]? = some v := by simpa using hv
      obtain ⟨e, he, hve⟩ := hes.get hv'
      rename Fr _ _ _ _ => F'
      rename News _ _ _ _ => N'
      refine Hold.intro (hE v e (List.mem_of_getElem? he) hve _ _ _ _ (X.keeps F'.keep) (T.keeps F'.keep) (fun a o h => F'.keep _ _ (hS a o h)) hh (by simp only [depth_deeper]; omega) (by simp only [units_deeper]; omega) ?_)
      intro v' h' tk' fs st fr ht
      obtain ⟨N'', nf⟩ := newsAddL F' N' st fr
      have off' := off.mem
      refine ⟨h', tk', fs ++ news, rfl, frStay F' st, fun q hq => N'' q ?_, LCg.Off3.of fun q hq => ?_, List.mem_append_right _ hTt, ?_⟩
      · simp only [List.mem_cons, List.mem_append] at hq ⊢
        rcases hq with h | h | h | h | h <;> simp [h]
      · rcases List.mem_append.mp hq with h | h
        · exact ⟨nf q h _ (.head _), nf q h _ (.tail _ (.head _)), nf q h _ (.tail _ (.tail _ (.head _)))⟩
        · exact off' q h
      · rw [List.length_append, List.length_singleton, List.take_add_one, List.getElem?_map, he]
        refine IsTrs.snoc (hJ.mono fun a o h => ?_) (ht.mono fun a o h => ?_)
        · rcases h with h | h
          · exact .inl h
          · exact .inr (List.mem_append_right _ h)
        · rcases h with h | h
          · exact .inl h
          · exact .inr (List.mem_append_left _ h)
    · rintro D' h tk ys news hlen ⟨hTt, hJ⟩ F N off
      rw [List.size_toArray] at hlen
      have hyl : ys.length = es.length := hlen.trans hes.length
      rw [List.take_of_length_le (by rw [List.length_map]; omega)] at hJ
      k_steps
      have hsub : ∀ t ∈ es.map pl, t.txt.length ≤ 1000 := fun t ht => by
        have h1 : t.txt.length ≤ (txtL (srtT (es.map pl))).length := txtL_mem ((srtT_perm _).mem_iff.mpr ht)
        rw [pl, Tr.txt, List.length_cons, List.length_cons, plL_map] at hz
        omega
      refine Hold.intro (sortedKeyS (kz := (es.map pl).map txS) (by k_asm) N ⟨_, (N _ (.head _)).1, rfl, _, rfl⟩ (by rw [List.length_map, List.length_map, hyl]) (by omega) ?_ ?_)
      · intro i v c hv hc h₂ tk₂ own F₂ N₂
        rw [List.getElem?_map, Option.map_eq_some_iff] at hc
        obtain ⟨t, ht, rfl⟩ := hc
        obtain ⟨t', ht', hvt⟩ := hJ.get hv
        rw [ht] at ht'
        cases ht'
        refine text_tr t hvt (hsub t (List.mem_of_getElem? ht)) _ _ _ _ (X.keeps F₂.keep) (T.keeps F₂.keep) (fun a o h => moreAt hS F₂ N₂ (fun q hq => List.mem_append_left _ (.tail _ hq)) h) hh ?_ ?_ ?_
        · have := hD t (List.mem_of_getElem? ht)
          simp only [depth_in1, depth_deeper]; omega
        · have := hD t (List.mem_of_getElem? ht)
          simp only [units_in1, units_deeper]; omega
        · intro h₃ tk₃ x tx st hx
          exact ⟨h₃, tk₃, tx, rfl, by rw [show x = txS t from congrArg Str.mk (Array.toList_inj.mp (by simpa [txS] using hx))], frStay F₂ st, newsStay N₂ st⟩
      · intro D₂ h₂ tk₂ out c F₂ N₂ hne ho
        have hT := out_sorted hJ ho
        k_steps
        refine Hold.intro (tupOfL F₂ N₂ (.head _) (by
          have := hT.length
          rw [(srtT_perm _).length_eq, List.length_map, Array.length_toList] at this
          rw [sizeLine_eq]; omega) ?_)
        intro D₃ h₃ F₃ N₃ ne₃
        k_steps
        refine Hold.intro (tupAdd F₃ N₃ (.tail _ (.tail _ (.tail _ hTt))) (.head _) (by exact Nat.zero_lt_one) (by
          have := hT.length
          rw [(srtT_perm _).length_eq, List.length_map, Array.length_toList] at this
          omega) (by
          have := hT.length
          rw [(srtT_perm _).length_eq, List.length_map, Array.length_toList] at this
          rw [sizeLine_eq]; simp; omega) ?_)
        intro D₄ h₄ F₄ N₄ ne₄
        k_steps
        refine hQ _ _ _ _ (by exact F₄.keep) (fun q hq => ⟨(N₄ q hq).1, (N₄ q hq).2.2⟩) ?_
        rw [pl, plL_map]
        refine .node (vs := out.toList) (n := 0) (t := t4) (.inr ?_) ?_ (hT.mono fun a o h => ?_)
        · have e : (#[Value.str (kdName k) t4] ++ out : Array Value) = (Value.str (kdName k) t4 :: out.toList).toArray := by
            apply Array.toList_inj.mp
            simp
          rw [← e]
          exact .head _
        · have := hT.length
          rw [(srtT_perm _).length_eq, List.length_map] at this
          omega
        · rcases h with h | h
          · exact .inl h
          · exact .inr (.tail _ (.tail _ (.tail _ (.tail _ h))))
theorem txtL_len : ∀ ts : List Tr, (txtL ts).length = (ts.map fun t => t.txt.length + 1).sum + 1
  | [] => rfl
  | t :: r => by
    rw [txtL, List.length_cons, List.length_append, txtL_len r, List.map_cons, List.sum_cons]
    omega
theorem txt_le {e : Ex} (h : Nrm e) : (pl e).txt.length + 5 ≤ 6 * cnt e := by
  induction h with
  | leaf l => simp [pl, Tr.txt, cnt]
  | op k es h2 hs hn hf ih =>
    rw [pl, plL_map, Tr.txt, List.length_cons, List.length_cons, txtL_len, cnt]
    have p := ((srtT_perm (es.map pl)).map fun t => t.txt.length + 1).sum_nat
    rw [p, List.map_map]
    have q : ∀ l : List Ex, (∀ e ∈ l, (pl e).txt.length + 5 ≤ 6 * cnt e) → (l.map ((fun t => t.txt.length + 1) ∘ pl)).sum + 4 * l.length ≤ 6 * cntL l := by
      intro l
      induction l with
      | nil => intro _; simp [cntL]
      | cons e r ih2 =>
        intro h
        have a := h e (.head _)
        have b := ih2 fun x hx => h x (.tail _ hx)
        rw [List.map_cons, List.sum_cons, cntL, List.length_cons]
        show (pl e).txt.length + 1 + _ + _ ≤ _
        omega
    have := q es ih
    omega
theorem hgtL_le {n : Nat} : ∀ {ts : List Tr}, (∀ t ∈ ts, t.hgt ≤ n) → hgtL ts ≤ n
  | [], _ => Nat.zero_le _
  | t :: r, h => by
    rw [hgtL]
    exact Nat.max_le.mpr ⟨h t (.head _), hgtL_le fun x hx => h x (.tail _ hx)⟩
mutual
theorem hgt_pl : ∀ e : Ex, (pl e).hgt ≤ e.ht
  | .leaf l => by simp [pl, Tr.hgt]
  | .op k es => by
    rw [pl, plL_map, Tr.hgt, Ex.ht]
    refine Nat.succ_le_succ (hgtL_le fun t ht => ?_)
    obtain ⟨e, he, rfl⟩ := List.mem_map.mp ((srtT_perm _).mem_iff.mp ht)
    exact hgt_plL es e he
theorem hgt_plL : ∀ (es : List Ex) (e : Ex), e ∈ es → (pl e).hgt ≤ htL es
  | [], _, h => by cases h
  | u :: r, e, h => by
    rw [htL]
    rcases List.mem_cons.mp h with h | h
    · rw [h]; exact Nat.le_trans (hgt_pl u) (Nat.le_max_left _ _)
    · exact Nat.le_trans (hgt_plL r e h) (Nat.le_max_right _ _)
end
theorem PlainC.mono {D D' : Nat} {S : Facts} {v : Value} {e : Ex} (h : PlainC prog w p loose mg mb D S v e) (hd : D ≤ D') : PlainC prog w p loose mg mb D' S v e :=
  fun A s Q E X T hS hh hdp hu hQ => h A s Q E X T hS hh (by omega) (by omega) hQ
/-- _law_plain of an expression gives its tree -/
theorem plain_c {S : Facts} {e : Ex} (h : Nrm e) : ∀ {v : Value}, IsEx w.params S v e → cnt e ≤ 60 → PlainC prog w p loose mg mb (20 * e.ht + 60) S v e := by
  induction h with
  | leaf l => intro v hv _; exact (plain_leaf hv).mono (by omega)
  | op k es h2 hs hn hf ih =>
    intro v hv hc
    have hN := Nrm.op k es h2 hs hn hf
    have hl : es.length ≤ 60 := Nat.le_trans (len_cnt hn) (by rw [cnt] at hc; exact hc)
    refine (plain_op (D := 20 * htL es + 60) hv (by omega) hl (fun t ht => ?_) (by have := txt_le hN; omega) (fun v e he hve => (ih e he hve ?_).mono ?_)).mono (by rw [Ex.ht]; omega)
    · obtain ⟨e, he, rfl⟩ := List.mem_map.mp ht
      have := hgt_plL es e he
      omega
    · have : cnt e ≤ cntL es := by
        clear ih hv hN hl hs hn hf h2
        rw [cnt] at hc
        clear hc
        induction es with
        | nil => cases he
        | cons u r ih2 =>
          rw [cntL]
          rcases List.mem_cons.mp he with rfl | he
          · omega
          · have := ih2 he; omega
      rw [cnt] at hc
      omega
    · have := ht_mem he; omega
end Mine
namespace Mine
open PySem PySem.W PySem.Calls PyProof.Rows PySem.Spec
open PySem.AutoSeq1 (wpAny_loadPart')
set_option maxRecDepth 100000
set_option maxHeartbeats 4000000
theorem iaddTup (l : Addr) (items : Array Value) (n : Nat) (b : Addr) (items2 : Array Value) (n2 : Nat) (hs0 : ¬(!items.isEmpty && Builtin.List.listTooLong (items.size + items2.size)) = true) (hs1 : items.size ≤ sizeLine) (hs2 : items.size + items2.size ≤ sizeLine + 1) :
    Meets (Builtin.«list.__iadd__» ⟨[.ref l, .ref b], []⟩) (fun _ R s => s.heap.get? l = some (listOf items n) ∧ s.heap.get? b = some (tupN items2 n2) ∧ R (.ok (.ret (Value.ref l))) { s with heap := s.heap.update l (Obj.mapSeq fun x => x ++ items2), toks := s.toks }) :=
  .of_wp fun prog w A R s h => by
    obtain ⟨hp, g, d, tk, os⟩ := s; obtain ⟨hl, hb, h⟩ := h; have f1 := AutoSeq1.idx_int; have f2 := AutoSeq1.sub_tuple_tuple; have f3 := AutoSeq1.sub_list_list; have f4 := AutoSeq1.sub_tuple_list; have f5 := AutoSeq1.sub_list_tuple;
    have hz' : (items ++ items2).size ≤ sizeLine + 1 := by rw [Array.size_append]; exact hs2
    wp_walk using (wpAny_updateSeq hl rfl (hz := hs1) (_hz' := hz')), wpAny_loadPart' hl, wpAny_loadPart' hb; exact ⟨_, rfl, h⟩
section
variable {prog : Program} {w : World} {A : Around} {E : Value → Shared → Prop} {s : Shared} {h₀ : Heap} {L d b : Addr} {m : Str → Option Value} {own rest : List (Addr × Obj)} {ys : List Value} {n : Nat} {Q : Value → Shared → Prop}
theorem fillI_list : fillsInplaceSlot (.type "list") "add" (Operator.Add == .Add) = pure false := by
  unfold fillsInplaceSlot
  show (typeLookup (.type "list") (dunderI "add") >>= fun fi => pure (fi.isSome && !isSeqSlot fi)) = pure false
  rw [PySem.F.slot_list_iadd.lookup]
  simp only [pure_bind]
  rw [show isSeqSlot (some (.builtin "list.__iadd__")) = true by decide +kernel]
  rfl
theorem seqI_list : seqSlot? (.type "list") (dunderI "add") = pure (some (.builtin "list.__iadd__")) := PyProof.Rows.seqSlot_of PySem.F.slot_list_iadd.lookup (by decide +kernel)
theorem bin1None {a b : Value} {T U nm : String} {Q : Option Value → Shared → Prop} (ha : s.TypeIs a T) (hb : s.TypeIs b U)
    (hfT : fillsNumberSlot (.type T) nm = pure false) (hfU : fillsNumberSlot (.type U) nm = pure false) (h : Q none s) : wpAny (model prog w) A (binaryOp1 nm a b) Q E s := by
  simp only [binaryOp1]
  refine wpAny_bind (wpAny_typeOf ha (wpAny_bind (wpAny_typeOf hb (wpAny_bind (wpAny_of_eq hfT ?_)))))
  by_cases e : (Value.type T == Value.type U) = true
  · rw [if_pos e]
    simp only [pure_bind, Bool.false_and, Bool.false_eq_true, if_false]
    exact wpAny_pure h
  · rw [if_neg e]
    refine wpAny_bind (wpAny_of_eq hfU ?_)
    simp only [pure_bind, Bool.false_and, Bool.false_eq_true, if_false]
    exact wpAny_pure h
theorem iaddRef {a : Addr} {b : Value} {U : String} (ha : s.TypeIs (.ref a) "list") (hb : s.TypeIs b U) (hfU : fillsNumberSlot (.type U) "add" = pure false)
    (hc : wpAny (model prog w) A (call (.builtin "list.__iadd__") [.ref a, b]) Q E s) : wpAny (model prog w) A (inplaceOp .Add (.ref a) b) Q E s := by
  unfold inplaceOp
  refine wpAny_holding ?_
  refine wpAny_bind (wpAny_typeOf ha (wpAny_bind (wpAny_of_eq fillI_list ?_)))
  show wpAny (model prog w) A (if false = true then _ else _) Q E s
  rw [if_neg Bool.false_ne_true]
  refine wpAny_bind (bin1None (nm := "add") ha hb noFill_list_add hfU ?_)
  refine wpAny_bind (wpAny_of_eq seqI_list ?_)
  exact wpAny_bind (wpAny_rule hc)
/-- a list grown in place by a list -/
theorem iaddL {ws : List Value} {n2 : Nat} (F : Fr h₀ L s.heap m) (N : News h₀ L s.heap (own ++ (d, listOf ys.toArray n) :: rest)) (h1 : ∀ p ∈ own, p.1 ≠ d) (h2 : ∀ p ∈ rest, p.1 ≠ d)
    (hb : s.heap.get? b = some (listOf ws.toArray n2)) (hz : ys.length + ws.length ≤ 100000)
    (h : ∀ h' n', Fr h₀ L h' m → News h₀ L h' (own ++ (d, listOf (ys ++ ws).toArray n') :: rest) → Q (.ref d) { s with heap := h' }) :
    wpAny (model prog w) A (inplaceOp .Add (.ref d) (.ref b)) Q E s := by
  have hm := N _ (List.mem_append_right own (List.Mem.head rest))
  have hsz : ys.toArray.size + ws.toArray.size ≤ sizeLine := by rw [List.size_toArray, List.size_toArray, sizeLine_eq]; omega
  obtain ⟨n', F', N'⟩ := listStep (fun a => a ++ ws.toArray) (zs := ys ++ ws) F N h1 h2 (by simp)
  exact iaddRef ⟨_, hm.1, rfl⟩ ⟨_, hb, rfl⟩ noFill_list_add (call_meets PySem.F.slot_list_iadd ⟨_, hm.1, rfl⟩ PySem.F.entry_list_iadd (PySem.F.args_list_iadd_2 _ _) (AutoSeq1.list___iadd___list_list_0 d ys.toArray n b ws.toArray n2 (extend_door hsz) (Nat.le_trans (Nat.le_add_right _ _) hsz) (Nat.le_succ_of_le hsz)) ⟨hm.1, hb, h _ n' F' N'⟩)
/-- a list grown in place by a tuple -/
theorem iaddT {ws : List Value} {n2 : Nat} (F : Fr h₀ L s.heap m) (N : News h₀ L s.heap (own ++ (d, listOf ys.toArray n) :: rest)) (h1 : ∀ p ∈ own, p.1 ≠ d) (h2 : ∀ p ∈ rest, p.1 ≠ d)
    (hb : s.heap.get? b = some (tupN ws.toArray n2)) (hz : ys.length + ws.length ≤ 100000)
    (h : ∀ h' n', Fr h₀ L h' m → News h₀ L h' (own ++ (d, listOf (ys ++ ws).toArray n') :: rest) → Q (.ref d) { s with heap := h' }) :
    wpAny (model prog w) A (inplaceOp .Add (.ref d) (.ref b)) Q E s := by
  have hm := N _ (List.mem_append_right own (List.Mem.head rest))
  have hsz : ys.toArray.size + ws.toArray.size ≤ sizeLine := by rw [List.size_toArray, List.size_toArray, sizeLine_eq]; omega
  obtain ⟨n', F', N'⟩ := listStep (fun a => a ++ ws.toArray) (zs := ys ++ ws) F N h1 h2 (by simp)
  exact iaddRef ⟨_, hm.1, rfl⟩ ⟨_, hb, rfl⟩ noFill_tuple_add (call_meets PySem.F.slot_list_iadd ⟨_, hm.1, rfl⟩ PySem.F.entry_list_iadd (PySem.F.args_list_iadd_2 _ _) (iaddTup d ys.toArray n b ws.toArray n2 (extend_door hsz) (Nat.le_trans (Nat.le_add_right _ _) hsz) (Nat.le_succ_of_le hsz)) ⟨hm.1, hb, h _ n' F' N'⟩)
end
end Mine
namespace Mine
open PySem PySem.W PySem.Calls PyProof.Rows PySem.Spec
set_option maxRecDepth 100000
theorem flatT_take {k : Bool} {ts : List Tr} {i : Nat} {t : Tr} (h : ts[i]? = some t) : flatT k (ts.take (i + 1)) = flatT k (ts.take i) ++ flT k t := by
  obtain ⟨hi, rfl⟩ := List.getElem?_eq_some_iff.mp h
  unfold flatT
  rw [List.take_succ_eq_append_getElem hi, List.flatMap_append]
  simp
theorem flatT_take_len (k : Bool) (ts : List Tr) (i : Nat) : (flatT k (ts.take i)).length ≤ (flatT k ts).length := by
  have h := congrArg List.length (congrArg (flatT k) (List.take_append_drop i ts))
  unfold flatT at h ⊢
  rw [List.flatMap_append, List.length_append] at h
  omega
theorem IsTrs.append {S : Facts} {us : List Value} {xs : List Tr} (h2 : IsTrs S us xs) : ∀ {vs : List Value} {ts : List Tr}, IsTrs S vs ts → IsTrs S (vs ++ us) (ts ++ xs)
  | _, _, .nil => h2
  | _, _, .cons a r => .cons a (IsTrs.append h2 r)
local macro_rules | `(tactic| k_inst) => `(tactic| (refine' instBase ?F ?h1 ?h2; (case F => k_asm); (case h1 => assumption); (case h2 => assumption)))
local macro_rules | `(tactic| k_room) => `(tactic| ((try simp only [depth_under_make, depth_under_kw, depth_in1, depth_deeper, depth_caller]); omega))
local macro_rules | `(tactic| k_units) => `(tactic| ((try simp only [units_in1, units_deeper, Around.mark_units, units_caller]); omega))
local macro_rules | `(tactic| walk_at "exec For") => `(tactic| (k_here; refine Hold.mk ?_))
local macro_rules | `(tactic| walk_at "truthy str") => `(tactic| (k_here; (with_reducible show wpAny _ _ (PySem.truthy (Value.str (Leaf.nm _) _)) _ _ _); refine truthy_nm ?_; intro _))
local macro_rules | `(tactic| walk_at "call builtin:len") => `(tactic| (k_here; (with_reducible show wpAny _ _ (call (Value.builtin "len") [Value.ref _] []) _ _ _); refine' lenB ?k1 ?k2 ?k3 ?_; (case k1 => k_asm); (case k2 => assumption); (case k3 => assumption); intro t' k'))
local macro_rules | `(tactic| walk_at "call type:zip") => `(tactic| (k_here; refine Hold.mk ?_))
local macro_rules | `(tactic| walk_at "compareOp Lt ref") => `(tactic| (k_here; (with_reducible show wpAny _ _ (compareOp CmpOp.Lt (Value.ref _) (Value.ref _)) _ _ _); refine Hold.mk ?_))
local macro_rules | `(tactic| walk_at "exec For Name Call cons nil") => `(tactic| (k_here; refine Hold.mk ?_))
local macro_rules | `(tactic| walk_at "exec For Name Name cons nil") => `(tactic| (k_here; refine Hold.mk ?_))
local macro_rules | `(tactic| walk_at "exec For Name Attribute cons nil") => `(tactic| (k_here; refine Hold.mk ?_))
local macro_rules | `(tactic| walk_at "exec For Name Subscript cons nil") => `(tactic| (k_here; refine Hold.mk ?_))
local macro_rules | `(tactic| walk_at "exec For Tuple Call cons nil") => `(tactic| (k_here; refine Hold.mk ?_))
local macro_rules | `(tactic| walk_at "exec For Name Tuple cons nil") => `(tactic| (k_here; refine Hold.mk ?_))
local macro_rules | `(tactic| walk_at "exec For Name Call") => `(tactic| (k_here; refine Hold.mk ?_))
local macro_rules | `(tactic| walk_at "exec For Name Name") => `(tactic| (k_here; refine Hold.mk ?_))
local macro_rules | `(tactic| walk_at "exec For Tuple Call") => `(tactic| (k_here; refine Hold.mk ?_))
local macro_rules | `(tactic| walk_at "exec While Compare cons nil") => `(tactic| (k_here; refine Hold.mk ?_))
local macro_rules | `(tactic| walk_at "exec While BoolOp cons nil") => `(tactic| (k_here; refine Hold.mk ?_))
local macro_rules | `(tactic| walk_at "exec While Compare") => `(tactic| (k_here; refine Hold.mk ?_))
local macro_rules | `(tactic| walk_at "exec While BoolOp") => `(tactic| (k_here; refine Hold.mk ?_))
local macro_rules | `(tactic| k_inst) => `(tactic| (first | (refine' instBase ?F ?h1 ?h2; (case F => k_asm); (case h1 => assumption); (case h2 => assumption)) | (refine' instBL ?F ?N ?h1 ?h2; (case F => k_asm); (case N => k_asm); (case h1 => assumption); (case h2 => k_mem))))
local macro_rules | `(tactic| walk_at "wpAt") => `(tactic| (dsimp only; ks_step "execs cons"; refine ks_wpAt_execs_cons ?_))
local macro_rules | `(tactic| walk_at "wpAt") => `(tactic| (ks_step "execs cons"; refine ks_wpAt_execs_cons ?_))
local macro_rules | `(tactic| walk_at "wpAt") => `(tactic| (ks_step "exec Expr"; with_unfolding_all refine ks_wpAt_Expr_any ?_))
local macro_rules | `(tactic| walk_at "wpAt") => `(tactic| (ks_step "exec If"; with_unfolding_all refine ks_wpAt_If ?_))
local macro_rules | `(tactic| walk_at "wpAt") => `(tactic| (ks_step "eval Call"; with_unfolding_all refine ks_wpAt_MethodCall ?_))
local macro_rules | `(tactic| walk_at "wpAt") => `(tactic| (ks_step "attributeBase Call"; k_here; k_dflt (with_unfolding_all refine ksN (by k_asm) (by k_asm) (by k_asm) (by k_asm) (by k_is) (by rfl) (by rfl) (by k_inst) (by k_is) (by rfl) (ProgOk.file (by assumption)) (by k_is) (by k_is) (by k_is) (by k_is) (by decide) (by rfl) (by rfl) (by rfl) (by rfl) (ProgOk.sup (by assumption)) (by first | boot_by_name | rfl | kernel_rfl) ?_; intro so' h' F' N' l1; (try k_lt l1))))
local macro_rules | `(tactic| walk_at "call ref") => `(tactic| (k_here; k_dflt (with_reducible show wpAny _ _ (call (Value.ref _) [_] []) _ _ _); refine Hold.mk ?_))
local macro_rules | `(tactic| walk_at "call builtin:isinstance") => `(tactic| (k_here; (with_reducible show wpAny _ _ (call (Value.builtin "isinstance") [Value.ref _, Value.type "str"] []) _ _ _); refine Hold.mk ?_))
local macro_rules | `(tactic| walk_at "eval ListComp") => `(tactic| (k_here; refine Hold.mk ?_))
local macro_rules | `(tactic| walk_at "call builtin:sorted") => `(tactic| (k_here; (show wpAny _ _ (call (Value.builtin "sorted") [Value.ref _] [(PySem.Str.ofString "key", _)]) _ _ _); refine Hold.mk ?_))
local macro_rules | `(tactic| walk_at "call type:tuple") => `(tactic| (k_here; refine Hold.mk ?_))
local macro_rules | `(tactic| walk_at "binaryOp Add ref ref") => `(tactic| (k_here; refine Hold.mk ?_))
local macro_rules | `(tactic| walk_at "inplaceOp Add ref ref") => `(tactic| (k_here; refine Hold.mk ?_))
local macro_rules | `(tactic| walk_at "inplaceOp Add ref") => `(tactic| (k_here; refine Hold.mk ?_))
local macro_rules | `(tactic| walk_at "call builtin:len") => `(tactic| (k_here; refine Hold.mk ?_))
local macro_rules | `(tactic| walk_at "subscriptTail Name Constant ref int") => `(tactic| (k_here; refine Hold.mk ?_))
local macro_rules | `(tactic| walk_at "subscriptTail Name BinOp ref int") => `(tactic| (k_here; refine Hold.mk ?_))
local macro_rules | `(tactic| walk_at "subscriptTail Name Name ref int") => `(tactic| (k_here; refine Hold.mk ?_))
local macro_rules | `(tactic| walk_at "subscriptTail Call Name cons nil Constant ref int") => `(tactic| (k_here; refine Hold.mk ?_))
local macro_rules | `(tactic| walk_at "subscriptTail Attribute Name Constant ref int") => `(tactic| (k_here; refine Hold.mk ?_))
local macro_rules | `(tactic| walk_at "subscriptTail Constant str BinOp str int") => `(tactic| (k_here; refine Hold.mk ?_))
local macro_rules | `(tactic| walk_at "subscriptTail Constant str Name str int") => `(tactic| (k_here; refine Hold.mk ?_))
local macro_rules | `(tactic| walk_at "subscriptTail Name Attribute ref str") => `(tactic| (k_here; refine Hold.mk ?_))
local macro_rules | `(tactic| walk_at "subscriptTail Name Subscript ref str") => `(tactic| (k_here; refine Hold.mk ?_))
local macro_rules | `(tactic| walk_at "subscriptTail Name Slice ref ref") => `(tactic| (k_here; refine Hold.mk ?_))
local macro_rules | `(tactic| walk_at "subscriptTail") => `(tactic| (k_here; refine Hold.mk ?_))
set_option maxHeartbeats 4000000
variable {prog : Program} {w : World} {A : Around} {s : Shared} {p : Program} {loose : List Str} {mg mb : Str → Option Value} {Q E : Value → Shared → Prop}
theorem joined_c {S : Facts} {k : Bool} {rl n D : Nat} {ts : List Tr} {vs : List Value} {t : Tok} (X : (Mine.frag.heap_1 w.params).In s.heap) (T : TopRead p loose mg mb s.heap) (hS : S.In s.heap)
    (hr : s.heap.get? rl = some (listOf vs.toArray n)) (ht : IsTrs S vs ts) (hv : vs.length ≤ 60) (h1 : 1 ≤ (flatT k ts).length) (h60 : (flatT k ts).length ≤ 60) (hz : ∀ u ∈ flatT k ts, u.txt.length ≤ 1000) (hg : ∀ u ∈ flatT k ts, 10 * u.hgt + 60 ≤ D)
    (hh : A.handled = none) (hdp : A.depth + D + 20 < recursionLimit) (hu : A.units + D + 20 < cLine)
    (hQ : ∀ v h' tk fs, s.heap.StaysIn h' → Fresh s.heap h' fs → IsTr (S.more fs) v (joinT k ts) → Q v { s with heap := h', toks := tk }) :
    wpAny (model prog w) A (call (.ref 837) [.str (kdName k) t, .ref rl] []) Q E s := by
  refine useCall (enter (binds := [("name", .str (kdName k) t), ("parts", .ref rl)]) X T.nolimit (by omega) (by k_is) (by k_is) (BindsTo.of_eq rfl) (locs rfl) ?_)
  intro L h₁ F N₁ hL
  k_steps
  rename Fr _ _ _ _ => F₁
  rename News _ _ _ _ => N₁
  rename_i dl _ _ _
  refine Hold.intro ?_
  refine forList (h₀ := s.heap) (L := L) (l := rl) (items := vs.toArray) (fun i m news => ∃ (ys : List Value) (n' : Nat) (fs : List (Addr × Obj)), news = (dl, listOf ys.toArray n') :: fs ∧ (∀ p ∈ fs, p.1 ≠ dl) ∧ IsTrs S ys (flatT k (ts.take i)) ∧
    ∀ y, y ≠ ("part" : Str) → m y = (if y = ("flat" : Str) then some (.ref dl) else List.lookup y [(("name" : Str), Value.str (kdName k) t), (("parts" : Str), Value.ref rl)].reverse)) ?_ ?_ ?_ ?_ hh (by with_unfolding_all rfl) (by with_unfolding_all rfl)
  · k_steps
    exact ⟨rfl, _, _, _, _, rfl, F₁, N₁, [], 0, [], rfl, (fun _ h => by cases h), by simpa [flatT] using IsTrs.nil, fun _ _ => rfl⟩
  · intro i m news h _ F _
    exact ⟨_, F.keep _ _ hr, rfl, n, rfl⟩
  · rintro i v m news it o h tk hv' ⟨ys, n', fs, rfl, hfd, hys, hm⟩ hn hit F N
    have hvi : vs[i]? = some v := by simpa using hv'
    obtain ⟨u, hu', hvu⟩ := ht.get hvi
    have hitd : it ≠ dl := fun z => hn _ (.head _) z.symm
    have hylen : ys.length ≤ 60 := by
      have a := hys.length
      have b := flatT_take_len k ts i
      omega
    have fin : ∀ {h'' : Heap} {tk'' n'' : Nat} {zs : List Value} {xs : List Tr} {m'' : Str → Option Value} {fs' : List (Addr × Obj)}, Fr s.heap L h'' m'' → News s.heap L h'' ((it, o) :: (dl, listOf (ys ++ zs).toArray n'') :: fs') → (∀ p ∈ fs', p.1 ≠ dl) → (∀ p ∈ fs', p.1 ≠ it) → IsTrs S zs xs → xs = flT k u →
        (∀ y, y ≠ ("part" : Str) → m'' y = (if y = ("flat" : Str) then some (.ref dl) else List.lookup y [(("name" : Str), Value.str (kdName k) t), (("parts" : Str), Value.ref rl)].reverse)) →
        ∃ m' news' h' tk', ({ s with heap := h'', toks := tk'' } : Shared) = { s with heap := h', toks := tk' } ∧ Fr s.heap L h' m' ∧ News s.heap L h' ((it, o) :: news') ∧ (∀ p ∈ news', p.1 ≠ it) ∧ ∃ (ys : List Value) (n' : Nat) (fs : List (Addr × Obj)), news' = (dl, listOf ys.toArray n') :: fs ∧ (∀ p ∈ fs, p.1 ≠ dl) ∧ IsTrs S ys (flatT k (ts.take (i + 1))) ∧
          ∀ y, y ≠ ("part" : Str) → m' y = (if y = ("flat" : Str) then some (.ref dl) else List.lookup y [(("name" : Str), Value.str (kdName k) t), (("parts" : Str), Value.ref rl)].reverse) := by
      rintro h'' tk'' n'' zs xs m'' fs' F'' N'' hf1 hf2 hz1 rfl hm''
      refine ⟨m'', _, h'', tk'', rfl, F'', N'', ?_, ys ++ zs, n'', fs', rfl, hf1, ?_, hm''⟩
      · intro p hp
        rcases List.mem_cons.mp hp with rfl | hp
        · exact hitd.symm
        · exact hf2 p hp
      · rw [flatT_take hu']
        exact hz1.append hys
    rw [mapOne hm] at F
    cases hvu with
    | @str l t' =>
      k_steps
      rename Fr _ _ _ _ => F'
      rename News _ _ _ _ => N'
      rename_i nl _ lo
      refine Hold.intro (iaddL (own := [(nl, listOf #[Value.str l.nm t'] 0), (it, o)]) (ws := [Value.str l.nm t']) (by k_asm) N' (fun q hq => ?_) hfd (N' _ (.head _)).1 (by simp; omega) ?_)
      · simp only [List.mem_cons, List.not_mem_nil, or_false] at hq
        rcases hq with rfl | rfl
        · exact Nat.ne_of_gt lo.2.1
        · exact hitd
      intro h₄ n₄ F₄ N₄
      k_steps
      rename Fr _ _ _ _ => F₅
      rename News _ _ _ _ => N₅
      refine fin (zs := [.str l.nm t']) (xs := [.str l]) (n'' := n₄) (fs' := (nl, listOf #[Value.str l.nm t'] 0) :: fs) F₅ (fun q hq => N₅ q ?_) (fun q hq => ?_) (fun q hq => ?_) (.cons .str .nil) rfl (fun y y1 => ?_)
      · simp only [List.mem_cons, List.cons_append, List.nil_append] at hq ⊢
        rcases hq with h | h | h | h <;> simp [h]
      · rcases List.mem_cons.mp hq with rfl | h
        · exact Nat.ne_of_gt lo.2.1
        · exact hfd q h
      · rcases List.mem_cons.mp hq with rfl | h
        · exact Nat.ne_of_gt lo.1
        · exact hn q (.tail _ h)
      · simp only [y1, if_false]
        split <;> rfl
    | @node a n2 k' t' us ws ha hwn hws =>
      have ha' := hS _ _ ha
      k_steps
      refine Hold.intro (IsiPair.tuple_str (F.keep _ _ ha') rfl ?_)
      k_steps
      refine item_tuple (j := 0) (x := Value.str (kdName k') t') ⟨_, F.keep _ _ ha', rfl, n2, rfl⟩ (by omega) (by omega) (by exact seqIndex_of (Int.le_refl 0) (by simp <;> omega)) (by simp) ?_
      k_steps
      · have hk : k' = k := by
          have := (by assumption : (kdName k' == kdName k) = true)
          revert this
          cases k <;> cases k' <;> decide
        subst hk
        refine slice_tuple_from (a := 1) (s := { s with heap := h, toks := _ }) F N ⟨_, F.keep _ _ ha', rfl, n2, rfl⟩ (Nat.le_refl 1) (by simp) (fun h₃ F₃ N₃ => ?_) (hsz := by rw [sizeLine_eq]; simp; omega)
        have hbig : ∀ q ∈ (it, o) :: (dl, listOf ys.toArray n') :: fs, q.1 ≠ h.objs.size + 1 := fun q hq => Nat.ne_of_lt (Nat.lt_succ_of_lt (Heap.lt_size (N q hq).1))
        have hb : h₃.get? (h.objs.size + 1) = some (tupN ws.toArray 0) := by simpa using (N₃ _ (.head _)).1
        k_steps
        refine Hold.intro (iaddT (own := [_, (it, o)]) (ws := ws) F₃ N₃ (fun q hq => ?_) hfd hb (by omega) ?_)
        · simp only [List.mem_cons, List.not_mem_nil, or_false] at hq
          rcases hq with rfl | rfl
          · exact (hbig _ (.tail _ (.head _))).symm
          · exact hitd
        intro h₄ n₄ F₄ N₄
        k_steps
        rename Fr _ _ _ _ => F₅
        rename News _ _ _ _ => N₅
        refine fin (zs := ws) (xs := us) (n'' := n₄) (fs' := (h.objs.size + 1, tupN (((Value.str (kdName k') t' :: ws).toArray.toList.drop 1).toArray) 0) :: fs) F₅ (fun q hq => N₅ q ?_) (fun q hq => ?_) (fun q hq => ?_) hws (by simp [flT]) (fun y y1 => ?_)
        · simp only [List.mem_cons, List.cons_append, List.nil_append] at hq ⊢
          rcases hq with h | h | h | h
          · exact .inr (.inl h)
          · exact .inr (.inr (.inl h))
          · exact .inl h
          · exact .inr (.inr (.inr h))
        · rcases List.mem_cons.mp hq with rfl | h
          · exact (hbig _ (.tail _ (.head _))).symm
          · exact hfd q h
        · rcases List.mem_cons.mp hq with rfl | h
          · exact (hbig _ (.head _)).symm
          · exact hn q (.tail _ h)
        · simp only [y1, if_false]
          split <;> rfl
      · have hk : k' ≠ k := by
          have := (by assumption : (kdName k' == kdName k) = false)
          revert this
          cases k <;> cases k' <;> decide
        rename Fr _ _ _ _ => F'
        rename News _ _ _ _ => N'
        rename_i nl _ lo
        refine Hold.intro (iaddL (own := [(nl, listOf #[Value.ref a] 0), (it, o)]) (ws := [Value.ref a]) (by k_asm) N' (fun q hq => ?_) hfd (N' _ (.head _)).1 (by simp; omega) ?_)
        · simp only [List.mem_cons, List.not_mem_nil, or_false] at hq
          rcases hq with rfl | rfl
          · exact Nat.ne_of_gt lo.2.1
          · exact hitd
        intro h₄ n₄ F₄ N₄
        k_steps
        rename Fr _ _ _ _ => F₅
        rename News _ _ _ _ => N₅
        refine fin (zs := [.ref a]) (xs := [.node k' us]) (n'' := n₄) (fs' := (nl, listOf #[Value.ref a] 0) :: fs) F₅ (fun q hq => N₅ q ?_) (fun q hq => ?_) (fun q hq => ?_) (.cons (.node ha hwn hws) .nil) (by simp [flT, hk]) (fun y y1 => ?_)
        · simp only [List.mem_cons, List.cons_append, List.nil_append] at hq ⊢
          rcases hq with h | h | h | h
          · exact .inr (.inl h)
          · exact .inr (.inr (.inl h))
          · exact .inl h
          · exact .inr (.inr (.inr h))
        · rcases List.mem_cons.mp hq with rfl | h
          · exact Nat.ne_of_gt lo.2.1
          · exact hfd q h
        · rcases List.mem_cons.mp hq with rfl | h
          · exact Nat.ne_of_gt lo.1
          · exact hn q (.tail _ h)
        · simp only [y1, if_false]
          split <;> rfl
  · rintro m news h tk ⟨ys, n', fs, rfl, hfd, hys, hm⟩ F N
    rw [mapOne hm] at F
    rw [List.take_of_length_le (by rw [List.size_toArray, ht.length]; exact Nat.le_refl _)] at hys
    have hyl := hys.length
    k_steps
    refine Hold.intro (lenN N (.head _) (by omega) ?_)
    intro t₂ tk₂
    k_steps
    · have e1 : ys.length = 1 := by
        have := (by assumption : ((ys.length : Int) = 1))
        omega
      obtain ⟨y, rfl⟩ := List.length_eq_one_iff.mp e1
      refine subB N (.head _) (by omega) (by omega) (v := y) rfl ?_
      refine hQ _ _ _ fs (by exact F.keep) (fun q hq => ⟨(N q (.tail _ hq)).1, (N q (.tail _ hq)).2.2⟩) ?_
      cases hft : flatT k ts with
      | nil => rw [hft] at h1; simp at h1
      | cons u r =>
        rw [hft] at hys
        cases hys with
        | cons a b =>
          cases b
          unfold joinT
          rw [hft]
          exact a.mono (S.sub_more fs)
    · have hne1 : ys.length ≠ 1 := by
        have := (by assumption : ((ys.length : Int) ≠ 1))
        omega
      rename Fr _ _ _ _ => F'
      rename News _ _ _ _ => N'
      rename_i Tt _ lo
      have mem : ∀ u ∈ flatT k ts, u.txt.length ≤ 1000 ∧ 10 * u.hgt + 60 ≤ D := fun u hu => ⟨hz u hu, hg u hu⟩
      refine Hold.intro (sortedKeyS (kz := (flatT k ts).map txS) (by k_asm) N' ⟨_, (N' _ (.tail _ (.head _))).1, rfl, _, rfl⟩ (by rw [List.length_map, hyl]) (by omega) ?_ ?_)
      · intro i v c hv hc h₂ tk₂ own F₂ N₂
        rw [List.getElem?_map, Option.map_eq_some_iff] at hc
        obtain ⟨t, ht', rfl⟩ := hc
        obtain ⟨t'', ht'', hvt⟩ := hys.get hv
        rw [ht'] at ht''
        cases ht''
        have hm' := mem t (List.mem_of_getElem? ht')
        refine text_tr t hvt hm'.1 _ _ _ _ (X.keeps F₂.keep) (T.keeps F₂.keep) (fun a o h => F₂.keep _ _ (hS a o h)) hh ?_ ?_ ?_
        · simp only [depth_in1, depth_deeper]; omega
        · simp only [units_in1, units_deeper]; omega
        · intro h₃ tk₃ x tx st hx
          exact ⟨h₃, tk₃, tx, rfl, by rw [show x = txS t from congrArg Str.mk (Array.toList_inj.mp (by simpa [txS] using hx))], frStay F₂ st, newsStay N₂ st⟩
      · intro D₂ h₂ tk₂ out c F₂ N₂ hne ho
        have hT := out_sorted hys ho
        have hTl := hT.length
        rw [(srtT_perm _).length_eq, Array.length_toList] at hTl
        k_steps
        refine Hold.intro (tupOfL F₂ N₂ (.head _) (by rw [sizeLine_eq]; omega) ?_)
        intro D₃ h₃ F₃ N₃ ne₃
        k_steps
        refine Hold.intro (tupAdd F₃ N₃ (.tail _ (.tail _ (.head _))) (.head _) (by exact Nat.zero_lt_one) (by omega) (by rw [sizeLine_eq]; simp; omega) ?_)
        intro D₄ h₄ F₄ N₄ ne₄
        k_steps
        refine hQ _ _ _ _ (by exact F₄.keep) (fun q hq => ⟨(N₄ q hq).1, (N₄ q hq).2.2⟩) ?_
        unfold joinT
        rw [oneT_two (by omega)]
        refine .node (vs := out.toList) (n := 0) (t := t) (.inr ?_) (by rw [Array.length_toList]; omega) (hT.mono (S.sub_more _))
        have e : (#[Value.str (kdName k) t] ++ out : Array Value) = (Value.str (kdName k) t :: out.toList).toArray := by
          apply Array.toList_inj.mp
          simp
        rw [← e]
        exact .head _
end Mine
namespace Mine
open PySem PySem.W PySem.Calls PyProof.Rows PySem.Spec
set_option maxRecDepth 100000
def accE (k : Bool) (e : Ex) : List Ex → Ex
  | [] => e
  | f :: l => mk k (e :: f :: l)
theorem acc_step (k : Bool) (e0 e : Ex) (l : List Ex) : mk k [accE k e0 l, e] = accE k e0 (l ++ [e]) := by
  cases l with
  | nil => rfl
  | cons f l => rw [accE, mk_mk]; rfl
theorem acc_nrm {k : Bool} {e0 : Ex} {l : List Ex} (h0 : Nrm e0) (h : ∀ e ∈ l, Nrm e) : Nrm (accE k e0 l) := by
  cases l with
  | nil => exact h0
  | cons f l =>
    have ha : ∀ e ∈ e0 :: f :: l, Nrm e := fun e he => by
      rcases List.mem_cons.mp he with rfl | he
      · exact h0
      · exact h e he
    exact nrm_mk ha (Nat.le_trans (by simp) (flat_len fun e he => (ha e he).fl_pos k))
theorem acc_cnt (k : Bool) (e0 : Ex) (l : List Ex) : cnt (accE k e0 l) = cnt e0 + cntL l := by
  cases l with
  | nil => rw [accE, cntL, Nat.add_zero]
  | cons f l => rw [accE, cnt_mk, cntL]
theorem acc_ht {k : Bool} {e0 : Ex} {l : List Ex} {N : Nat} (h0 : e0.ht < N) (h : ∀ e ∈ l, e.ht < N) : (accE k e0 l).ht < N + 1 := by
  cases l with
  | nil => exact Nat.lt_succ_of_lt h0
  | cons f l => exact mk_ht (fun e he => by
      rcases List.mem_cons.mp he with rfl | he
      · exact h0
      · exact h e he) (by omega)
theorem cntL_take (es : List Ex) (i : Nat) : cntL (es.take i) ≤ cntL es := by
  have h := congrArg cntL (List.take_append_drop i es)
  rw [cntL_append] at h
  omega
theorem cnt_mem {e : Ex} : ∀ {es : List Ex}, e ∈ es → cnt e ≤ cntL es
  | u :: r, h => by
    rw [cntL]
    rcases List.mem_cons.mp h with rfl | h
    · omega
    · have := cnt_mem h; omega
local macro_rules | `(tactic| k_inst) => `(tactic| (refine' instBase ?F ?h1 ?h2; (case F => k_asm); (case h1 => assumption); (case h2 => assumption)))
local macro_rules | `(tactic| k_room) => `(tactic| ((try simp only [depth_under_make, depth_under_kw, depth_in1, depth_deeper, depth_caller]); omega))
local macro_rules | `(tactic| k_units) => `(tactic| ((try simp only [units_in1, units_deeper, Around.mark_units, units_caller]); omega))
local macro_rules | `(tactic| walk_at "exec For") => `(tactic| (k_here; refine Hold.mk ?_))
local macro_rules | `(tactic| walk_at "truthy str") => `(tactic| (k_here; (with_reducible show wpAny _ _ (PySem.truthy (Value.str (Leaf.nm _) _)) _ _ _); refine truthy_nm ?_; intro _))
local macro_rules | `(tactic| walk_at "call builtin:len") => `(tactic| (k_here; (with_reducible show wpAny _ _ (call (Value.builtin "len") [Value.ref _] []) _ _ _); refine' lenB ?k1 ?k2 ?k3 ?_; (case k1 => k_asm); (case k2 => assumption); (case k3 => assumption); intro t' k'))
local macro_rules | `(tactic| walk_at "call type:zip") => `(tactic| (k_here; refine Hold.mk ?_))
local macro_rules | `(tactic| walk_at "compareOp Lt ref") => `(tactic| (k_here; (with_reducible show wpAny _ _ (compareOp CmpOp.Lt (Value.ref _) (Value.ref _)) _ _ _); refine Hold.mk ?_))
local macro_rules | `(tactic| walk_at "exec For Name Call cons nil") => `(tactic| (k_here; refine Hold.mk ?_))
local macro_rules | `(tactic| walk_at "exec For Name Name cons nil") => `(tactic| (k_here; refine Hold.mk ?_))
local macro_rules | `(tactic| walk_at "exec For Name Attribute cons nil") => `(tactic| (k_here; refine Hold.mk ?_))
local macro_rules | `(tactic| walk_at "exec For Name Subscript cons nil") => `(tactic| (k_here; refine Hold.mk ?_))
local macro_rules | `(tactic| walk_at "exec For Tuple Call cons nil") => `(tactic| (k_here; refine Hold.mk ?_))
local macro_rules | `(tactic| walk_at "exec For Name Tuple cons nil") => `(tactic| (k_here; refine Hold.mk ?_))
local macro_rules | `(tactic| walk_at "exec For Name Call") => `(tactic| (k_here; refine Hold.mk ?_))
local macro_rules | `(tactic| walk_at "exec For Name Name") => `(tactic| (k_here; refine Hold.mk ?_))
local macro_rules | `(tactic| walk_at "exec For Tuple Call") => `(tactic| (k_here; refine Hold.mk ?_))
local macro_rules | `(tactic| walk_at "exec While Compare cons nil") => `(tactic| (k_here; refine Hold.mk ?_))
local macro_rules | `(tactic| walk_at "exec While BoolOp cons nil") => `(tactic| (k_here; refine Hold.mk ?_))
local macro_rules | `(tactic| walk_at "exec While Compare") => `(tactic| (k_here; refine Hold.mk ?_))
local macro_rules | `(tactic| walk_at "exec While BoolOp") => `(tactic| (k_here; refine Hold.mk ?_))
local macro_rules | `(tactic| k_inst) => `(tactic| (first | (refine' instBase ?F ?h1 ?h2; (case F => k_asm); (case h1 => assumption); (case h2 => assumption)) | (refine' instBL ?F ?N ?h1 ?h2; (case F => k_asm); (case N => k_asm); (case h1 => assumption); (case h2 => k_mem))))
local macro_rules | `(tactic| walk_at "wpAt") => `(tactic| (dsimp only; ks_step "execs cons"; refine ks_wpAt_execs_cons ?_))
local macro_rules | `(tactic| walk_at "wpAt") => `(tactic| (ks_step "execs cons"; refine ks_wpAt_execs_cons ?_))
local macro_rules | `(tactic| walk_at "wpAt") => `(tactic| (ks_step "exec Expr"; with_unfolding_all refine ks_wpAt_Expr_any ?_))
local macro_rules | `(tactic| walk_at "wpAt") => `(tactic| (ks_step "exec If"; with_unfolding_all refine ks_wpAt_If ?_))
local macro_rules | `(tactic| walk_at "wpAt") => `(tactic| (ks_step "eval Call"; with_unfolding_all refine ks_wpAt_MethodCall ?_))
local macro_rules | `(tactic| walk_at "wpAt") => `(tactic| (ks_step "attributeBase Call"; k_here; k_dflt (with_unfolding_all refine ksN (by k_asm) (by k_asm) (by k_asm) (by k_asm) (by k_is) (by rfl) (by rfl) (by k_inst) (by k_is) (by rfl) (ProgOk.file (by assumption)) (by k_is) (by k_is) (by k_is) (by k_is) (by decide) (by rfl) (by rfl) (by rfl) (by rfl) (ProgOk.sup (by assumption)) (by first | boot_by_name | rfl | kernel_rfl) ?_; intro so' h' F' N' l1; (try k_lt l1))))
local macro_rules | `(tactic| walk_at "call ref") => `(tactic| (k_here; k_dflt (with_reducible show wpAny _ _ (call (Value.ref _) [_] []) _ _ _); refine Hold.mk ?_))
local macro_rules | `(tactic| walk_at "call builtin:isinstance") => `(tactic| (k_here; (with_reducible show wpAny _ _ (call (Value.builtin "isinstance") [Value.ref _, Value.type "str"] []) _ _ _); refine Hold.mk ?_))
local macro_rules | `(tactic| walk_at "call ref") => `(tactic| (k_here; k_dflt (with_reducible show wpAny _ _ (call (Value.ref _) [_, _] []) _ _ _); refine Hold.mk ?_))
local macro_rules | `(tactic| walk_at "call ref") => `(tactic| (k_here; k_dflt (with_reducible show wpAny _ _ (call (Value.ref _) [_, _, _] []) _ _ _); refine Hold.mk ?_))
local macro_rules | `(tactic| walk_at "subscriptTail Name Constant ref int") => `(tactic| (k_here; refine Hold.mk ?_))
local macro_rules | `(tactic| walk_at "subscriptTail Name BinOp ref int") => `(tactic| (k_here; refine Hold.mk ?_))
local macro_rules | `(tactic| walk_at "subscriptTail Name Name ref int") => `(tactic| (k_here; refine Hold.mk ?_))
local macro_rules | `(tactic| walk_at "subscriptTail Call Name cons nil Constant ref int") => `(tactic| (k_here; refine Hold.mk ?_))
local macro_rules | `(tactic| walk_at "subscriptTail Attribute Name Constant ref int") => `(tactic| (k_here; refine Hold.mk ?_))
local macro_rules | `(tactic| walk_at "subscriptTail Constant str BinOp str int") => `(tactic| (k_here; refine Hold.mk ?_))
local macro_rules | `(tactic| walk_at "subscriptTail Constant str Name str int") => `(tactic| (k_here; refine Hold.mk ?_))
local macro_rules | `(tactic| walk_at "subscriptTail Name Attribute ref str") => `(tactic| (k_here; refine Hold.mk ?_))
local macro_rules | `(tactic| walk_at "subscriptTail Name Subscript ref str") => `(tactic| (k_here; refine Hold.mk ?_))
local macro_rules | `(tactic| walk_at "subscriptTail Name Slice ref ref") => `(tactic| (k_here; refine Hold.mk ?_))
local macro_rules | `(tactic| walk_at "subscriptTail") => `(tactic| (k_here; refine Hold.mk ?_))
set_option maxHeartbeats 4000000
variable {prog : Program} {w : World} {A : Around} {s : Shared} {p : Program} {loose : List Str} {mg mb : Str → Option Value} {Q E : Value → Shared → Prop}
/-- what _law_built answers at a tree -/
def BuiltC (prog : Program) (w : World) (p : Program) (loose : List Str) (mg mb : Str → Option Value) (D U : Nat) (S : Facts) (kp kt : Addr) (v : Value) (e : Ex) : Prop :=
  ∀ (A : Around) (s : Shared) (Q : Value → Shared → Prop) (E : Value → Shared → Prop), ProgOk prog → (Mine.frag.heap_1 w.params).In s.heap → TopRead p loose mg mb s.heap → S.In s.heap → A.handled = none → A.depth + D < recursionLimit → A.units + U < cLine →
    (∀ v' h' tk fs, s.heap.StaysIn h' → Fresh s.heap h' fs → IsEx w.params (S.more fs) v' e → Q v' { s with heap := h', toks := tk }) → wpAny (model prog w) A (call (.ref 844) [v, .ref kp, .ref kt] []) Q E s
theorem built_leaf {S : Facts} {kp kt : Addr} {l : Leaf} {t : Tok} (hl : l.isVar = false) : BuiltC prog w p loose mg mb 20 20 S kp kt (.str l.nm t) (.leaf l) := by
  intro A s Q E P X T hS hh hdp hu hQ
  refine useCall (enter (binds := [("tree", .str l.nm t), ("plus", .ref kp), ("times", .ref kt)]) X T.nolimit (by omega) (by k_is) (by k_is) (BindsTo.of_eq rfl) (locs rfl) ?_)
  intro L h₁ F N₁ hL
  k_steps
  rename Fr _ _ _ _ => F'
  refine Hold.intro (symbol_f hl P (X.keeps F'.keep) (T.keeps F'.keep) (by simp only [depth_deeper]; omega) ?_)
  intro v h' tk fs st fr hv
  k_steps
  exact hQ v h' _ fs (fun b o e => st b o (F'.keep b o e)) (fun q hq => ⟨(fr q hq).1, noneOf F'.keep (fr q hq).2⟩) (hv S)
theorem built_op {S : Facts} {kp kt a n D U N : Nat} {k : Bool} {t : Tok} {vs : List Value} {es : List Ex} (hkp : IsKind w.params S kp true) (hkt : IsKind w.params S kt false) (ha : S a (tupN (Value.str (kdName k) t :: vs).toArray n)) (hvs : IsTrs S vs (es.map pl))
    (h2 : 2 ≤ es.length) (hn : ∀ e ∈ es, Nrm e) (hc : cntL es ≤ 60) (hN : ∀ e ∈ es, e.ht < N) (hD : 3 * N + 40 ≤ D) (hU : 20 * N + 200 ≤ U)
    (hE : ∀ (v : Value) (e : Ex), e ∈ es → IsTr S v (pl e) → BuiltC prog w p loose mg mb D U S kp kt v e) : BuiltC prog w p loose mg mb (D + 10) (U + 10) S kp kt (.ref a) (mk k es) := by
  intro A s Q E P X T hS hh hdp hu hQ
  have ha' := hS _ _ ha
  refine useCall (enter (binds := [("tree", .ref a), ("plus", .ref kp), ("times", .ref kt)]) X T.nolimit (by omega) (by k_is) (by k_is) (BindsTo.of_eq rfl) (locs rfl) ?_)
  intro L h₁ F N₁ hL
  have hkp' := hkp
  have hkt' := hkt
  cases hkp' with | mk p1 p2 p3 p4 =>
  cases hkt' with | mk q1 q2 q3 q4 =>
  have p1' := hS _ _ p1
  have p2' := hS _ _ p2
  have q1' := hS _ _ q1
  have q2' := hS _ _ q2
  k_steps
  refine Hold.intro (IsiPair.tuple_str (F.keep _ _ ha') rfl ?_)
  cases es with
  | nil => simp at h2
  | cons e0 er =>
  cases hvs with
  | @cons v0 _ vr _ hv0 hvr =>
  have hvl : vr.length = er.length := by have := hvr.length; rwa [List.length_map] at this
  have hel : er.length ≤ 60 := by
    have a := len_cnt hn
    rw [List.length_cons] at a
    omega
  k_steps
  refine item_tuple (j := 1) (x := v0) ⟨_, F.keep _ _ ha', rfl, n, rfl⟩ (by omega) (by omega) (by exact seqIndex_of (k := 1) (by omega) (by simp <;> omega)) (by simp) ?_
  k_steps
  refine Hold.intro (hE v0 e0 (.head _) hv0 _ _ _ _ P (X.keeps F.keep) (T.keeps F.keep) (fun a o h => F.keep _ _ (hS a o h)) hh (by simp only [depth_deeper]; omega) (by simp only [units_deeper]; omega) ?_)
  intro va h₂ tk₂ fs st₂ fr₂ hva
  have N₂ := (newsAddL F N₁ st₂ fr₂).1
  have F₂ := frStay F st₂
  clear F N₁
  rw [List.append_nil] at N₂
  k_steps
  rename Fr _ _ _ _ => F₃
  rename News _ _ _ _ => N₃
  rename Heap => h₃
  refine Hold.intro ?_
  refine forTuple (h₀ := s.heap) (L := L) (l := h₃.objs.size + 1) (items := vr.toArray) (fun i m news => ∃ (fs : List (Addr × Obj)) (va : Value), news = (h₃.objs.size + 1, ({ cls := .type "tuple", data := .seq vr.toArray } : Obj)) :: fs ∧ m "made" = some va ∧ IsEx w.params (S.more fs) va (accE k e0 (er.take i)) ∧
    ∀ y, y ≠ ("part" : Str) → y ≠ ("made" : Str) → m y = List.lookup y [(("tree" : Str), Value.ref a), (("plus" : Str), Value.ref kp), (("times" : Str), Value.ref kt)].reverse) ?_ ?_ ?_ ?_ hh (by with_unfolding_all rfl) (by with_unfolding_all rfl)
  · k_steps
    refine slice_tuple_from (a := 2) (s := { s with heap := h₃, toks := _ }) F₃ N₃ ⟨_, F₃.keep _ _ ha', rfl, n, rfl⟩ (by omega) (by simp) (fun h₄ F₄ N₄ => ?_) (hsz := by rw [sizeLine_eq]; simp; omega)
    have e : (((Value.str (kdName k) t :: v0 :: vr).toArray.toList.drop 2).toArray) = vr.toArray := by simp
    rw [e] at N₄
    exact ⟨rfl, _, _, _, _, rfl, F₄, N₄, fs, va, rfl, rfl, hva, fun y y1 y2 => by simp only [y2, if_false]⟩
  · rintro i m news h ⟨fs, va, rfl, _⟩ _ N
    exact ⟨_, (N _ (.head _)).1, rfl, _, rfl⟩
  · rintro i v m news it o h tk hv' ⟨fs, va, rfl, hmade, hacc, hm⟩ hn' hit F N
    have hvi : vr[i]? = some v := by simpa using hv'
    obtain ⟨u, hu', hvu⟩ := hvr.get hvi
    obtain ⟨e, he, hve⟩ : ∃ e, er[i]? = some e ∧ IsTr S v (pl e) := by
      rw [List.getElem?_map, Option.map_eq_some_iff] at hu'
      obtain ⟨e, he, rfl⟩ := hu'
      exact ⟨e, he, hvu⟩
    have hpair : ∀ x ∈ [(va, accE k e0 (er.take i)), (v, e)].map (·.2), Nrm x := fun x hx => by
      simp only [List.map_cons, List.map_nil, List.mem_cons, List.not_mem_nil, or_false] at hx
      rcases hx with rfl | rfl
      · exact acc_nrm (hn e0 (.head _)) fun y hy => hn y (.tail _ (List.mem_of_mem_take hy))
      · exact hn x (.tail _ (List.mem_of_getElem? he))
    have hn := hn'
    rw [mapTwo hm] at F
    simp only [hmade] at F
    k_steps
    refine item_tuple (j := 0) (x := Value.str (kdName k) t) ⟨_, F.keep _ _ ha', rfl, n, rfl⟩ (by omega) (by omega) (by exact seqIndex_of (Int.le_refl 0) (by simp <;> omega)) (by simp) ?_
    k_steps
    · have hk : k = true := by
        have := (by assumption : (kdName k == ("+" : Str)) = true)
        revert this
        cases k <;> decide
      subst hk
      rename Fr _ _ _ _ => F₅
      rename News _ _ _ _ => N₅
      have he2 : e ∈ e0 :: er := .tail _ (List.mem_of_getElem? he)
      refine Hold.intro (hE v e he2 hve _ _ _ _ P (X.keeps F₅.keep) (T.keeps F₅.keep) (fun a o h => F₅.keep _ _ (hS a o h)) hh (by simp only [depth_deeper]; omega) (by simp only [units_deeper]; omega) ?_)
      intro vb h₆ tk₆ fs₂ st₆ fr₆ hvb
      obtain ⟨N₆, nf⟩ := newsAddL F₅ N₅ st₆ fr₆
      have F₆ := frStay F₅ st₆
      clear F₅ N₅
      k_steps
      have hin : (S.more (fs₂ ++ fs)).In h₆ := fun a o h => moreAt hS F₆ N₆ (fun q hq => by
        rcases List.mem_append.mp hq with h | h
        · exact List.mem_append_left _ h
        · exact List.mem_append_right _ (.tail _ (.tail _ h))) h
      refine Hold.intro (mk_c (S := S.more (fs₂ ++ fs)) (N := N + 1) (ps := [(va, accE true e0 (er.take i)), (vb, e)]) (k := true) (kw := []) P (X.keeps F₆.keep) (T.keeps F₆.keep) hin (hkp.mono (S.sub_more _)) (.inl rfl) (fun q hq => ?_) (by simp) (by simp) ?_ ?_ (fun q hq => ?_) hh (by simp only [depth_deeper]; omega) (by simp only [units_deeper]; omega) ?_)
      · rcases List.mem_cons.mp hq with rfl | hq
        · exact hacc.mono fun a o h => by
            rcases h with h | h
            · exact .inl h
            · exact .inr (List.mem_append_right _ h)
        · rw [List.mem_singleton.mp hq]
          exact hvb.mono fun a o h => by
            rcases h with h | h
            · exact .inl h
            · exact .inr (List.mem_append_left _ h)
      · refine Nat.le_trans (flat_cnt hpair) ?_
        have c1 := cntL_take er i
        have c2 := cnt_mem he2
        simp only [List.map_cons, List.map_nil, cntL, acc_cnt] at c1 c2 hc ⊢
        omega
      · exact Nat.le_trans (by simp) (flat_len fun x hx => (hpair x hx).fl_pos true)
      · rcases List.mem_cons.mp hq with rfl | hq
        · exact acc_ht (hN e0 (.head _)) fun x hx => hN x (.tail _ (List.mem_of_mem_take hx))
        · rw [List.mem_singleton.mp hq]
          exact Nat.lt_succ_of_lt (hN e he2)
      intro vc h₇ tk₇ fs₃ st₇ fr₇ hvc
      obtain ⟨N₇, nf₇⟩ := newsAddL F₆ N₆ st₇ fr₇
      have F₇ := frStay F₆ st₇
      clear F₆ N₆ hin
      k_steps
      rename Fr _ _ _ _ => F₈
      rename News _ _ _ _ => N₈
      refine ⟨_, _, _, _, rfl, F₈, fun q hq => N₈ q ?_, ?_, fs₃ ++ (fs₂ ++ fs), vc, rfl, rfl, ?_, ?_⟩
      · simp only [List.mem_cons, List.mem_append] at hq ⊢
        rcases hq with h | h | h | h | h <;> simp [h]
      · intro q hq
        simp only [List.mem_cons, List.mem_append] at hq
        rcases hq with rfl | h | h | h
        · exact hn _ (.head _)
        · exact nf₇ q h (it, o) (List.mem_append_right _ (.head _))
        · exact nf q h (it, o) (.head _)
        · exact hn q (.tail _ h)
      · show IsEx w.params (S.more (fs₃ ++ (fs₂ ++ fs))) vc (accE true e0 (er.take (i + 1)))
        rw [List.take_add_one, he, Option.toList_some, ← acc_step]
        exact hvc.mono fun a o h => by
          rcases h with (h | h) | h
          · exact .inl h
          · exact .inr (List.mem_append_right _ h)
          · exact .inr (List.mem_append_left _ h)
      · intro y y1 y2
        simp only [y1, y2, if_false]
    · have hk : k = false := by
        have := (by assumption : (kdName k == ("+" : Str)) = false)
        revert this
        cases k <;> decide
      subst hk
      rename Fr _ _ _ _ => F₅
      rename News _ _ _ _ => N₅
      have he2 : e ∈ e0 :: er := .tail _ (List.mem_of_getElem? he)
      refine Hold.intro (hE v e he2 hve _ _ _ _ P (X.keeps F₅.keep) (T.keeps F₅.keep) (fun a o h => F₅.keep _ _ (hS a o h)) hh (by simp only [depth_deeper]; omega) (by simp only [units_deeper]; omega) ?_)
      intro vb h₆ tk₆ fs₂ st₆ fr₆ hvb
      obtain ⟨N₆, nf⟩ := newsAddL F₅ N₅ st₆ fr₆
      have F₆ := frStay F₅ st₆
      clear F₅ N₅
      k_steps
      have hin : (S.more (fs₂ ++ fs)).In h₆ := fun a o h => moreAt hS F₆ N₆ (fun q hq => by
        rcases List.mem_append.mp hq with h | h
        · exact List.mem_append_left _ h
        · exact List.mem_append_right _ (.tail _ (.tail _ h))) h
      refine Hold.intro (mk_c (S := S.more (fs₂ ++ fs)) (N := N + 1) (ps := [(va, accE false e0 (er.take i)), (vb, e)]) (k := false) (kw := []) P (X.keeps F₆.keep) (T.keeps F₆.keep) hin (hkt.mono (S.sub_more _)) (.inl rfl) (fun q hq => ?_) (by simp) (by simp) ?_ ?_ (fun q hq => ?_) hh (by simp only [depth_deeper]; omega) (by simp only [units_deeper]; omega) ?_)
      · rcases List.mem_cons.mp hq with rfl | hq
        · exact hacc.mono fun a o h => by
            rcases h with h | h
            · exact .inl h
            · exact .inr (List.mem_append_right _ h)
        · rw [List.mem_singleton.mp hq]
          exact hvb.mono fun a o h => by
            rcases h with h | h
            · exact .inl h
            · exact .inr (List.mem_append_left _ h)
      · refine Nat.le_trans (flat_cnt hpair) ?_
        have c1 := cntL_take er i
        have c2 := cnt_mem he2
        simp only [List.map_cons, List.map_nil, cntL, acc_cnt] at c1 c2 hc ⊢
        omega
      · exact Nat.le_trans (by simp) (flat_len fun x hx => (hpair x hx).fl_pos false)
      · rcases List.mem_cons.mp hq with rfl | hq
        · exact acc_ht (hN e0 (.head _)) fun x hx => hN x (.tail _ (List.mem_of_mem_take hx))
        · rw [List.mem_singleton.mp hq]
          exact Nat.lt_succ_of_lt (hN e he2)
      intro vc h₇ tk₇ fs₃ st₇ fr₇ hvc
      obtain ⟨N₇, nf₇⟩ := newsAddL F₆ N₆ st₇ fr₇
      have F₇ := frStay F₆ st₇
      clear F₆ N₆ hin
      k_steps
      rename Fr _ _ _ _ => F₈
      rename News _ _ _ _ => N₈
      refine ⟨_, _, _, _, rfl, F₈, fun q hq => N₈ q ?_, ?_, fs₃ ++ (fs₂ ++ fs), vc, rfl, rfl, ?_, ?_⟩
      · simp only [List.mem_cons, List.mem_append] at hq ⊢
        rcases hq with h | h | h | h | h <;> simp [h]
      · intro q hq
        simp only [List.mem_cons, List.mem_append] at hq
        rcases hq with rfl | h | h | h
        · exact hn _ (.head _)
        · exact nf₇ q h (it, o) (List.mem_append_right _ (.head _))
        · exact nf q h (it, o) (.head _)
        · exact hn q (.tail _ h)
      · show IsEx w.params (S.more (fs₃ ++ (fs₂ ++ fs))) vc (accE false e0 (er.take (i + 1)))
        rw [List.take_add_one, he, Option.toList_some, ← acc_step]
        exact hvc.mono fun a o h => by
          rcases h with (h | h) | h
          · exact .inl h
          · exact .inr (List.mem_append_right _ h)
          · exact .inr (List.mem_append_left _ h)
      · intro y y1 y2
        simp only [y1, y2, if_false]
  · rintro m news h tk ⟨fs, va, rfl, hmade, hacc, hm⟩ F N
    rw [mapTwo hm] at F
    simp only [hmade] at F
    k_steps
    have e1 : accE k e0 (er.take vr.toArray.size) = mk k (e0 :: er) := by
      rw [List.take_of_length_le (by rw [List.size_toArray, hvl]; exact Nat.le_refl _)]
      cases er with
      | nil => simp at h2
      | cons f l => rfl
    rw [e1] at hacc
    exact hQ va _ _ (_ :: fs) F.keep (fun q hq => ⟨(N q hq).1, (N q hq).2.2⟩) (hacc.mono fun a o h => by
      rcases h with h | h
      · exact .inl h
      · exact .inr (.tail _ h))
theorem BuiltC.mono {D D' U U' : Nat} {S : Facts} {kp kt : Addr} {v : Value} {e : Ex} (h : BuiltC prog w p loose mg mb D U S kp kt v e) (hd : D ≤ D') (hu : U ≤ U') : BuiltC prog w p loose mg mb D' U' S kp kt v e :=
  fun A s Q E P X T hS hh hdp hu hQ => h A s Q E P X T hS hh (by omega) (by omega) hQ
/-- _law_built of the tree of an expression makes the expression -/
theorem built_c {S : Facts} {kp kt : Addr} (hkp : IsKind w.params S kp true) (hkt : IsKind w.params S kt false) {e : Ex} (h : Nrm e) : ∀ {v : Value}, IsTr S v (pl e) → hv e = false → cnt e ≤ 60 → e.ht ≤ 10 → BuiltC prog w p loose mg mb (10 * e.ht + 200) (10 * e.ht + 500) S kp kt v e := by
  induction h with
  | leaf l =>
    intro v ht hl _ _
    rw [pl] at ht
    rw [hv] at hl
    cases ht
    exact (built_leaf hl).mono (by omega) (by omega)
  | op k es h2 hs hn hf ih =>
    intro v ht hl hc hh
    rw [pl, plL_map] at ht
    obtain ⟨es', p, q⟩ := perm_lift (srtT_perm (es.map pl)) rfl
    rw [← q] at ht
    rw [hv, hvL_any, List.any_eq_false] at hl
    rw [cnt] at hc
    rw [Ex.ht] at hh
    cases ht with
    | @node a n _ t _ vs ha hn' hvs =>
      rw [← mk_self hs hf, ← mk_perm p]
      have hht : (mk k es').ht = htL es + 1 := by rw [mk_perm p, mk_self hs hf, Ex.ht]
      rw [hht]
      refine (built_op (N := htL es + 1) (D := 10 * htL es + 200) (U := 10 * htL es + 500) hkp hkt ha hvs (by rw [p.length_eq]; exact h2) (fun e he => hn e (p.mem_iff.mp he)) (by rw [cntL_perm p]; exact hc) (fun e he => Nat.lt_succ_of_le (ht_mem (p.mem_iff.mp he))) (by omega) (by omega) ?_).mono (by omega) (by omega)
      intro v e he ht
      have he' := p.mem_iff.mp he
      have a1 := ht_mem he'
      have a2 := cnt_mem he'
      exact (ih e he' ht (by simpa using hl e he') (by omega) (by omega)).mono (by omega) (by omega)
end Mine
namespace Mine
open PySem PySem.W PySem.Calls PyProof.Rows PySem.Spec
set_option maxRecDepth 100000
def abcL (i : Int) : Leaf := if i = 0 then .a else if i = 1 then .b else .c
theorem abcL_var (i : Int) : (abcL i).isVar = false := by
  unfold abcL
  split
  · rfl
  · split <;> rfl
section
variable {prog : Program} {w : World} {A : Around} {E : Value → Shared → Prop} {s : Shared} {Q : Value → Shared → Prop}
theorem abcSub {value slice : PySem.Expr} {i : Int} {t u : Tok} (h0 : 0 ≤ i) (h1 : i < 3) (h : Q (.str (abcL i).nm s.toks) { s with toks := s.toks + 1 })
    (hs : subscripted slice false (.str "abc" t) (.int i u) = operate [.str "abc" t, .int i u] (getItem (.str "abc" t) (.int i u)) := by with_unfolding_all rfl)
    (ht : ∀ r, letTemporaryGo value (.str "abc" t) r = pure () := by intro _; with_unfolding_all rfl) :
    wpAny (model prog w) A (subscriptTail value slice (.str "abc" t) (.int i u)) Q E s := by
  have e : Txt.item ("abc" : Str) i = (abcL i).nm := by
    have : i = 0 ∨ i = 1 ∨ i = 2 := by omega
    rcases this with rfl | rfl | rfl <;> decide
  have hl : ("abc" : Str).length = 3 := by decide
  refine item_str (fitsSsize_of (N := 9223372036854775808) (by omega) (by omega) (Int.le_refl _)) (by rw [hl]; omega) (by rw [hl]; omega) (fun _ => ?_) hs ht
  rw [e]
  exact h
theorem abcAny {value slice : PySem.Expr} {i : Int} {t u : Tok} (h0 : 0 ≤ i) (h1 : i < 3) (h : ∀ l : Leaf, l.isVar = false → Q (.str l.nm s.toks) { s with toks := s.toks + 1 })
    (hs : subscripted slice false (.str "abc" t) (.int i u) = operate [.str "abc" t, .int i u] (getItem (.str "abc" t) (.int i u)) := by with_unfolding_all rfl)
    (ht : ∀ r, letTemporaryGo value (.str "abc" t) r = pure () := by intro _; with_unfolding_all rfl) :
    wpAny (model prog w) A (subscriptTail value slice (.str "abc" t) (.int i u)) Q E s := abcSub h0 h1 (h _ (abcL_var i)) hs ht
end
theorem good_leaf (l : Leaf) : GoodV [.leaf l] := ⟨Nat.le_refl _, Nat.le_succ _, fun e he => by rw [List.mem_singleton.mp he]; exact ⟨.leaf l, by rw [Ex.ht]; omega, by rw [cnt]; omega⟩⟩
theorem good_row (l m : Leaf) : GoodV [.leaf l, .leaf m] := ⟨Nat.le_succ _, Nat.le_refl _, fun e he => by
  rcases List.mem_cons.mp he with rfl | he
  · exact ⟨.leaf l, by rw [Ex.ht]; omega, by rw [cnt]; omega⟩
  · rw [List.mem_singleton.mp he]; exact ⟨.leaf m, by rw [Ex.ht]; omega, by rw [cnt]; omega⟩⟩
theorem good_op (k : Bool) (l m : Leaf) : GoodV [mk k [.leaf l, .leaf m]] := ⟨Nat.le_refl _, Nat.le_succ _, fun e he => by
  rw [List.mem_singleton.mp he]
  refine ⟨nrm_mk (fun e he => (good_row l m).2.2 e he |>.1) (by simp [flat, fl]), ?_, by rw [cnt_mk, cntL, cntL, cntL, cnt, cnt]; omega⟩
  have := mk_ht (k := k) (l := [.leaf l, .leaf m]) (N := 1) (fun e he => by
    rcases List.mem_cons.mp he with rfl | he
    · rw [Ex.ht]; omega
    · rw [List.mem_singleton.mp he, Ex.ht]; omega) (by decide)
  omega⟩
theorem sorted_two (S : Facts) {l m : Leaf} {vs : List Value} {ss : List Str} (h : StrsAre vs ss) (p : ss.Perm [l.nm, m.nm]) (q : sortedS ss = true) : IsTrs S vs (srtT [.str l, .str m]) := by
  obtain ⟨ls, pl', e⟩ := perm_lift (f := Leaf.nm) (l := [l, m]) p rfl
  have e2 : ls.map Tr.str = srtT [.str l, .str m] := by
    refine srtT_unique (pl'.map Tr.str) ?_
    match ls, pl'.length_eq with
    | [x, y], _ =>
      subst e
      have h1 : ltCps y.nm.cps.toList x.nm.cps.toList = false := by
        have : (!ltCps y.nm.cps.toList x.nm.cps.toList && risingS y.nm []) = true := q
        rw [Bool.and_eq_true] at this
        simpa using this.1
      rw [ltCps_eq] at h1
      refine List.pairwise_cons.mpr ⟨fun z hz => ?_, List.pairwise_singleton _ _⟩
      rw [List.mem_singleton.mp hz, Tr.txt, Tr.txt, ← nm_ch, ← nm_ch]
      simpa using h1
  rw [← e2]
  subst e
  clear pl' q p e2
  induction ls generalizing vs with
  | nil => cases h; exact .nil
  | cons x r ih =>
    cases h with
    | cons _ t h => exact .cons .str (ih h)
local macro_rules | `(tactic| k_inst) => `(tactic| (refine' instBase ?F ?h1 ?h2; (case F => k_asm); (case h1 => assumption); (case h2 => assumption)))
local macro_rules | `(tactic| k_room) => `(tactic| ((try simp only [depth_under_make, depth_under_kw, depth_in1, depth_deeper, depth_caller]); omega))
local macro_rules | `(tactic| k_units) => `(tactic| ((try simp only [units_in1, units_deeper, Around.mark_units, units_caller]); omega))
local macro_rules | `(tactic| walk_at "exec For") => `(tactic| (k_here; refine Hold.mk ?_))
local macro_rules | `(tactic| walk_at "truthy str") => `(tactic| (k_here; (with_reducible show wpAny _ _ (PySem.truthy (Value.str (Leaf.nm _) _)) _ _ _); refine truthy_nm ?_; intro _))
local macro_rules | `(tactic| walk_at "call builtin:len") => `(tactic| (k_here; (with_reducible show wpAny _ _ (call (Value.builtin "len") [Value.ref _] []) _ _ _); refine' lenB ?k1 ?k2 ?k3 ?_; (case k1 => k_asm); (case k2 => assumption); (case k3 => assumption); intro t' k'))
local macro_rules | `(tactic| walk_at "call type:zip") => `(tactic| (k_here; refine Hold.mk ?_))
local macro_rules | `(tactic| walk_at "compareOp Lt ref") => `(tactic| (k_here; (with_reducible show wpAny _ _ (compareOp CmpOp.Lt (Value.ref _) (Value.ref _)) _ _ _); refine Hold.mk ?_))
local macro_rules | `(tactic| walk_at "exec For Name Call cons nil") => `(tactic| (k_here; refine Hold.mk ?_))
local macro_rules | `(tactic| walk_at "exec For Name Name cons nil") => `(tactic| (k_here; refine Hold.mk ?_))
local macro_rules | `(tactic| walk_at "exec For Name Attribute cons nil") => `(tactic| (k_here; refine Hold.mk ?_))
local macro_rules | `(tactic| walk_at "exec For Name Subscript cons nil") => `(tactic| (k_here; refine Hold.mk ?_))
local macro_rules | `(tactic| walk_at "exec For Tuple Call cons nil") => `(tactic| (k_here; refine Hold.mk ?_))
local macro_rules | `(tactic| walk_at "exec For Name Tuple cons nil") => `(tactic| (k_here; refine Hold.mk ?_))
local macro_rules | `(tactic| walk_at "exec For Name Call") => `(tactic| (k_here; refine Hold.mk ?_))
local macro_rules | `(tactic| walk_at "exec For Name Name") => `(tactic| (k_here; refine Hold.mk ?_))
local macro_rules | `(tactic| walk_at "exec For Tuple Call") => `(tactic| (k_here; refine Hold.mk ?_))
local macro_rules | `(tactic| walk_at "exec While Compare cons nil") => `(tactic| (k_here; refine Hold.mk ?_))
local macro_rules | `(tactic| walk_at "exec While BoolOp cons nil") => `(tactic| (k_here; refine Hold.mk ?_))
local macro_rules | `(tactic| walk_at "exec While Compare") => `(tactic| (k_here; refine Hold.mk ?_))
local macro_rules | `(tactic| walk_at "exec While BoolOp") => `(tactic| (k_here; refine Hold.mk ?_))
local macro_rules | `(tactic| k_inst) => `(tactic| (first | (refine' instBase ?F ?h1 ?h2; (case F => k_asm); (case h1 => assumption); (case h2 => assumption)) | (refine' instBL ?F ?N ?h1 ?h2; (case F => k_asm); (case N => k_asm); (case h1 => assumption); (case h2 => k_mem))))
local macro_rules | `(tactic| walk_at "wpAt") => `(tactic| (dsimp only; ks_step "execs cons"; refine ks_wpAt_execs_cons ?_))
local macro_rules | `(tactic| walk_at "wpAt") => `(tactic| (ks_step "execs cons"; refine ks_wpAt_execs_cons ?_))
local macro_rules | `(tactic| walk_at "wpAt") => `(tactic| (ks_step "exec Expr"; with_unfolding_all refine ks_wpAt_Expr_any ?_))
local macro_rules | `(tactic| walk_at "wpAt") => `(tactic| (ks_step "exec If"; with_unfolding_all refine ks_wpAt_If ?_))
local macro_rules | `(tactic| walk_at "wpAt") => `(tactic| (ks_step "eval Call"; with_unfolding_all refine ks_wpAt_MethodCall ?_))
local macro_rules | `(tactic| walk_at "wpAt") => `(tactic| (ks_step "attributeBase Call"; k_here; k_dflt (with_unfolding_all refine ksN (by k_asm) (by k_asm) (by k_asm) (by k_asm) (by k_is) (by rfl) (by rfl) (by k_inst) (by k_is) (by rfl) (ProgOk.file (by assumption)) (by k_is) (by k_is) (by k_is) (by k_is) (by decide) (by rfl) (by rfl) (by rfl) (by rfl) (ProgOk.sup (by assumption)) (by first | boot_by_name | rfl | kernel_rfl) ?_; intro so' h' F' N' l1; (try k_lt l1))))
local macro_rules | `(tactic| walk_at "call ref") => `(tactic| (k_here; k_dflt (with_reducible show wpAny _ _ (call (Value.ref _) [_] []) _ _ _); refine Hold.mk ?_))
local macro_rules | `(tactic| walk_at "call builtin:isinstance") => `(tactic| (k_here; (with_reducible show wpAny _ _ (call (Value.builtin "isinstance") [Value.ref _, Value.type "str"] []) _ _ _); refine Hold.mk ?_))
local macro_rules | `(tactic| walk_at "call ref") => `(tactic| (k_here; k_dflt (with_reducible show wpAny _ _ (call (Value.ref _) [_, _] []) _ _ _); refine Hold.mk ?_))
local macro_rules | `(tactic| walk_at "call ref") => `(tactic| (k_here; k_dflt (with_reducible show wpAny _ _ (call (Value.ref _) [_, _, _] []) _ _ _); refine Hold.mk ?_))
local macro_rules | `(tactic| walk_at "subscriptTail") => `(tactic| (k_here; (with_reducible show wpAny _ _ (subscriptTail _ _ (Value.str _ _) (Value.int _ _)) _ _ _); refine Hold.mk ?_))
local macro_rules | `(tactic| walk_at "subscriptTail Name Constant ref int") => `(tactic| (k_here; (with_reducible show wpAny _ _ (subscriptTail _ _ (Value.str _ _) (Value.int _ _)) _ _ _); refine Hold.mk ?_))
local macro_rules | `(tactic| walk_at "subscriptTail Name BinOp ref int") => `(tactic| (k_here; (with_reducible show wpAny _ _ (subscriptTail _ _ (Value.str _ _) (Value.int _ _)) _ _ _); refine Hold.mk ?_))
local macro_rules | `(tactic| walk_at "subscriptTail Name Name ref int") => `(tactic| (k_here; (with_reducible show wpAny _ _ (subscriptTail _ _ (Value.str _ _) (Value.int _ _)) _ _ _); refine Hold.mk ?_))
local macro_rules | `(tactic| walk_at "subscriptTail Call Name cons nil Constant ref int") => `(tactic| (k_here; (with_reducible show wpAny _ _ (subscriptTail _ _ (Value.str _ _) (Value.int _ _)) _ _ _); refine Hold.mk ?_))
local macro_rules | `(tactic| walk_at "subscriptTail Attribute Name Constant ref int") => `(tactic| (k_here; (with_reducible show wpAny _ _ (subscriptTail _ _ (Value.str _ _) (Value.int _ _)) _ _ _); refine Hold.mk ?_))
local macro_rules | `(tactic| walk_at "subscriptTail Constant str BinOp str int") => `(tactic| (k_here; (with_reducible show wpAny _ _ (subscriptTail _ _ (Value.str _ _) (Value.int _ _)) _ _ _); refine Hold.mk ?_))
local macro_rules | `(tactic| walk_at "subscriptTail Constant str Name str int") => `(tactic| (k_here; (with_reducible show wpAny _ _ (subscriptTail _ _ (Value.str _ _) (Value.int _ _)) _ _ _); refine Hold.mk ?_))
local macro_rules | `(tactic| walk_at "subscriptTail Name Attribute ref str") => `(tactic| (k_here; (with_reducible show wpAny _ _ (subscriptTail _ _ (Value.str _ _) (Value.int _ _)) _ _ _); refine Hold.mk ?_))
local macro_rules | `(tactic| walk_at "subscriptTail Name Subscript ref str") => `(tactic| (k_here; (with_reducible show wpAny _ _ (subscriptTail _ _ (Value.str _ _) (Value.int _ _)) _ _ _); refine Hold.mk ?_))
local macro_rules | `(tactic| walk_at "call builtin:sorted") => `(tactic| (k_here; refine Hold.mk ?_))
local macro_rules | `(tactic| walk_at "call type:tuple") => `(tactic| (k_here; refine Hold.mk ?_))
local macro_rules | `(tactic| walk_at "binaryOp Add ref ref") => `(tactic| (k_here; refine Hold.mk ?_))
set_option maxHeartbeats 4000000
variable {prog : Program} {w : World} {A : Around} {s : Shared} {p : Program} {loose : List Str} {mg mb : Str → Option Value} {Q E : Value → Shared → Prop}
theorem value_c {S : Facts} {kp kt : Addr} {num : Int} {t : Tok} (hkp : IsKind w.params S kp true) (hkt : IsKind w.params S kt false) (P : ProgOk prog) (X : (Mine.frag.heap_1 w.params).In s.heap) (T : TopRead p loose mg mb s.heap) (hS : S.In s.heap) (hh : A.handled = none)
    (hdp : A.depth + 60 < recursionLimit) (hu : A.units + 300 < cLine)
    (hQ : ∀ T h' tk fs vx ll us es n1 n2, s.heap.StaysIn h' → Fresh s.heap h' fs → (T, tupN #[vx, .ref ll] n1) ∈ fs → (ll, listOf us.toArray n2) ∈ fs → SubVal w.params (S.more fs) vx es → GoodV es → (∀ e ∈ es, hv e = false) → IsTrs (S.more fs) us (es.map pl) → Q (.ref T) { s with heap := h', toks := tk }) :
    wpAny (model prog w) A (call (.ref 851) [.int num t, .ref kp, .ref kt] []) Q E s := by
  refine useCall (enter (binds := [("number", .int num t), ("plus", .ref kp), ("times", .ref kt)]) X T.nolimit (by omega) (by k_is) (by k_is) (BindsTo.of_eq rfl) (locs rfl) ?_)
  intro L h₁ F N₁ hL
  have hkp' := hkp
  have hkt' := hkt
  cases hkp' with | mk p1 p2 p3 p4 =>
  cases hkt' with | mk q1 q2 q3 q4 =>
  have p1' := hS _ _ p1
  have p2' := hS _ _ p2
  have q1' := hS _ _ q1
  have q2' := hS _ _ q2
  k_steps
  obtain ⟨i0, i1⟩ := fmod_in (u := num.fdiv 4) (n := 3) (by decide)
  obtain ⟨j0, j1⟩ := fmod_in (u := num.fdiv 12) (n := 3) (by decide)
  refine Hold.intro (abcAny i0 i1 fun one v1 => ?_)
  k_steps
  refine Hold.intro (abcAny j0 j1 fun oth v2 => ?_)
  k_steps
  refine unpackItemsN_ (by k_asm) (by k_asm) (News.isTup (by k_asm) (.head _)) hh (by with_unfolding_all rfl) ?_
  intro h₂ F₂ N₂
  k_steps
  rename Fr _ _ _ _ => F₃
  rename News _ _ _ _ => N₃
  refine Hold.intro (symbol_f v1 P (X.keeps F₃.keep) (T.keeps F₃.keep) (by simp only [depth_deeper]; omega) ?_)
  intro va h₄ tk₄ fa st₄ fr₄ hva
  obtain ⟨N₄, _⟩ := newsAddL F₃ N₃ st₄ fr₄
  have F₄ := frStay F₃ st₄
  clear F₃ N₃
  k_steps
  refine Hold.intro (symbol_f v2 P (X.keeps F₄.keep) (T.keeps F₄.keep) (by simp only [depth_deeper]; omega) ?_)
  intro vb h₅ tk₅ fb st₅ fr₅ hvb
  obtain ⟨N₅, _⟩ := newsAddL F₄ N₄ st₅ fr₅
  have F₅ := frStay F₄ st₅
  clear F₄ N₄
  k_steps
  refine unpackItemsN_ (by k_asm) (by k_asm) (News.isTup (by k_asm) (.head _)) hh (by with_unfolding_all rfl) ?_
  intro h₆ F₆ N₆
  k_steps
  · rename Fr _ _ _ _ => F₇
    rename News _ _ _ _ => N₇
    exact hQ _ _ _ _ va _ [_] [.leaf one] _ _ (by exact F₇.keep) (fun q hq => ⟨(N₇ q hq).1, (N₇ q hq).2.2⟩) (.head _) (.tail _ (.head _))
      (.one ((hva S).mono fun a o h => by
        rcases h with h | h
        · exact .inl h
        · exact .inr (.tail _ (.tail _ (.tail _ (List.mem_append_right _ (List.mem_append_left _ h))))))) (good_leaf one) (fun e he => by rw [List.mem_singleton.mp he, hv]; exact v1) (.cons (by rw [pl]; exact .str) .nil)
  · rename Fr _ _ _ _ => F₇
    rename News _ _ _ _ => N₇
    refine Hold.intro (mk_c (S := S.more (fb ++ fa)) (N := 1) (ps := [(va, .leaf one), (vb, .leaf oth)]) (k := false) (kw := []) P (X.keeps F₇.keep) (T.keeps F₇.keep) (fun a o h => moreAt hS F₇ N₇ (fun q hq => by
      rcases List.mem_append.mp hq with h | h
      · exact .tail _ (List.mem_append_left _ h)
      · exact .tail _ (List.mem_append_right _ (List.mem_append_left _ h))) h) (hkt.mono (S.sub_more _)) (.inl rfl) (fun q hq => ?_) (by simp) (by simp) (by simp [flat, fl]) (by simp [flat, fl]) (fun q hq => ?_) hh (by simp only [depth_deeper]; omega) (by simp only [units_deeper]; omega) ?_)
    · rcases List.mem_cons.mp hq with rfl | hq
      · exact (hva S).mono fun a o h => by
          rcases h with h | h
          · exact .inl h
          · exact .inr (List.mem_append_right _ h)
      · rw [List.mem_singleton.mp hq]
        exact (hvb S).mono fun a o h => by
          rcases h with h | h
          · exact .inl h
          · exact .inr (List.mem_append_left _ h)
    · rcases List.mem_cons.mp hq with rfl | hq
      · show (Ex.leaf one).ht < 1
        rw [Ex.ht]; omega
      · rw [List.mem_singleton.mp hq]
        show (Ex.leaf oth).ht < 1
        rw [Ex.ht]; omega
    intro vc h₈ tk₈ fc st₈ fr₈ hvc
    obtain ⟨N₈, _⟩ := newsAddL F₇ N₇ st₈ fr₈
    have F₈ := frStay F₇ st₈
    clear F₇ N₇
    k_steps
    rename Fr _ _ _ _ => F₉
    rename News _ _ _ _ => N₉
    refine Hold.intro (sorted_N_str (vs := [_, _]) (ss := [one.nm, oth.nm]) F₉ N₉ ⟨_, (N₉ _ (.head _)).1, rfl, _, rfl⟩ (.cons _ _ (.cons _ _ .nil)) (by show 2 < 64; decide) (fun ha vs' ss' ep Fa Na hst hpm hso => ?_))
    have hTr := sorted_two S hst hpm hso
    have hTl := hTr.length
    rw [(srtT_perm _).length_eq] at hTl
    have hTl2 : vs'.length = 2 := hTl
    k_steps
    refine Hold.intro (tupOfL Fa Na (.head _) (by rw [sizeLine_eq, List.size_toArray, hTl2]; decide) ?_)
    intro D₁ g₁ G₁ M₁ ne₁
    k_steps
    refine Hold.intro (tupAdd (xs := #[_]) (n1 := 0) G₁ M₁ (.tail _ (.tail _ (.tail _ (.head _)))) (.head _) (by exact Nat.zero_lt_one) (by rw [List.size_toArray, hTl2]; decide) (by simp only [List.size_toArray, List.length_cons, List.length_nil, sizeLine_eq, hTl2] <;> omega) ?_)
    intro D₂ g₂ G₂ M₂ ne₂
    k_steps
    rename Fr _ _ _ _ => F₇
    rename News _ _ _ _ => N₇
    refine hQ _ _ _ _ vc _ [_] [mk false [.leaf one, .leaf oth]] _ _ (by exact F₇.keep) (fun q hq => ⟨(N₇ q hq).1, (N₇ q hq).2.2⟩) (.head _) (.tail _ (.head _))
      (.one (hvc.mono fun a o h => ?_)) (good_op false one oth) (fun e he => ?_) (.cons ?_ .nil)
    · rcases h with (h | h) | h
      · exact .inl h
      · rcases List.mem_append.mp h with h | h
        · exact .inr ((.tail _ <| .tail _ <| .tail _ <| .tail _ <| .tail _ <| .tail _ <| .tail _ <| List.mem_append_right _ (.tail _ (List.mem_append_left _ h))))
        · exact .inr ((.tail _ <| .tail _ <| .tail _ <| .tail _ <| .tail _ <| .tail _ <| .tail _ <| List.mem_append_right _ (.tail _ (List.mem_append_right _ (List.mem_append_left _ h)))))
      · exact .inr ((.tail _ <| .tail _ <| .tail _ <| .tail _ <| .tail _ <| .tail _ <| .tail _ <| List.mem_append_left _ h))
    · rw [List.mem_singleton.mp he]
      unfold mk
      rw [hv, hvL_perm (srt_perm _)]
      simp [flat, fl, hvL, hv, v1, v2]
    · have e : pl (mk false [.leaf one, .leaf oth]) = .node false (srtT [.str one, .str oth]) := by
        rw [pl_mk]
        simp [flat, fl, pl]
      rw [e]
      refine .node (t := tk₈) (vs := vs') (n := 0) (.inr (.tail _ (.tail _ ?_))) (by omega) (hTr.mono (S.sub_more _))
      have e2 : (#[Value.str (kdName false) tk₈] ++ vs'.toArray : Array Value) = (Value.str (kdName false) tk₈ :: vs').toArray := by simp
      rw [← e2]
      exact .head _
  · rename Fr _ _ _ _ => F₇
    rename News _ _ _ _ => N₇
    refine Hold.intro (mk_c (S := S.more (fb ++ fa)) (N := 1) (ps := [(va, .leaf one), (vb, .leaf oth)]) (k := true) (kw := []) P (X.keeps F₇.keep) (T.keeps F₇.keep) (fun a o h => moreAt hS F₇ N₇ (fun q hq => by
      rcases List.mem_append.mp hq with h | h
      · exact .tail _ (List.mem_append_left _ h)
      · exact .tail _ (List.mem_append_right _ (List.mem_append_left _ h))) h) (hkp.mono (S.sub_more _)) (.inl rfl) (fun q hq => ?_) (by simp) (by simp) (by simp [flat, fl]) (by simp [flat, fl]) (fun q hq => ?_) hh (by simp only [depth_deeper]; omega) (by simp only [units_deeper]; omega) ?_)
    · rcases List.mem_cons.mp hq with rfl | hq
      · exact (hva S).mono fun a o h => by
          rcases h with h | h
          · exact .inl h
          · exact .inr (List.mem_append_right _ h)
      · rw [List.mem_singleton.mp hq]
        exact (hvb S).mono fun a o h => by
          rcases h with h | h
          · exact .inl h
          · exact .inr (List.mem_append_left _ h)
    · rcases List.mem_cons.mp hq with rfl | hq
      · show (Ex.leaf one).ht < 1
        rw [Ex.ht]; omega
      · rw [List.mem_singleton.mp hq]
        show (Ex.leaf oth).ht < 1
        rw [Ex.ht]; omega
    intro vc h₈ tk₈ fc st₈ fr₈ hvc
    obtain ⟨N₈, _⟩ := newsAddL F₇ N₇ st₈ fr₈
    have F₈ := frStay F₇ st₈
    clear F₇ N₇
    k_steps
    rename Fr _ _ _ _ => F₉
    rename News _ _ _ _ => N₉
    refine Hold.intro (sorted_N_str (vs := [_, _]) (ss := [one.nm, oth.nm]) F₉ N₉ ⟨_, (N₉ _ (.head _)).1, rfl, _, rfl⟩ (.cons _ _ (.cons _ _ .nil)) (by show 2 < 64; decide) (fun ha vs' ss' ep Fa Na hst hpm hso => ?_))
    have hTr := sorted_two S hst hpm hso
    have hTl := hTr.length
    rw [(srtT_perm _).length_eq] at hTl
    have hTl2 : vs'.length = 2 := hTl
    k_steps
    refine Hold.intro (tupOfL Fa Na (.head _) (by rw [sizeLine_eq, List.size_toArray, hTl2]; decide) ?_)
    intro D₁ g₁ G₁ M₁ ne₁
    k_steps
    refine Hold.intro (tupAdd (xs := #[_]) (n1 := 0) G₁ M₁ (.tail _ (.tail _ (.tail _ (.head _)))) (.head _) (by exact Nat.zero_lt_one) (by rw [List.size_toArray, hTl2]; decide) (by simp only [List.size_toArray, List.length_cons, List.length_nil, sizeLine_eq, hTl2] <;> omega) ?_)
    intro D₂ g₂ G₂ M₂ ne₂
    k_steps
    rename Fr _ _ _ _ => F₇
    rename News _ _ _ _ => N₇
    refine hQ _ _ _ _ vc _ [_] [mk true [.leaf one, .leaf oth]] _ _ (by exact F₇.keep) (fun q hq => ⟨(N₇ q hq).1, (N₇ q hq).2.2⟩) (.head _) (.tail _ (.head _))
      (.one (hvc.mono fun a o h => ?_)) (good_op true one oth) (fun e he => ?_) (.cons ?_ .nil)
    · rcases h with (h | h) | h
      · exact .inl h
      · rcases List.mem_append.mp h with h | h
        · exact .inr ((.tail _ <| .tail _ <| .tail _ <| .tail _ <| .tail _ <| .tail _ <| .tail _ <| List.mem_append_right _ (.tail _ (List.mem_append_left _ h))))
        · exact .inr ((.tail _ <| .tail _ <| .tail _ <| .tail _ <| .tail _ <| .tail _ <| .tail _ <| List.mem_append_right _ (.tail _ (List.mem_append_right _ (List.mem_append_left _ h)))))
      · exact .inr ((.tail _ <| .tail _ <| .tail _ <| .tail _ <| .tail _ <| .tail _ <| .tail _ <| List.mem_append_left _ h))
    · rw [List.mem_singleton.mp he]
      unfold mk
      rw [hv, hvL_perm (srt_perm _)]
      simp [flat, fl, hvL, hv, v1, v2]
    · have e : pl (mk true [.leaf one, .leaf oth]) = .node true (srtT [.str one, .str oth]) := by
        rw [pl_mk]
        simp [flat, fl, pl]
      rw [e]
      refine .node (t := tk₈) (vs := vs') (n := 0) (.inr (.tail _ (.tail _ ?_))) (by omega) (hTr.mono (S.sub_more _))
      have e2 : (#[Value.str (kdName true) tk₈] ++ vs'.toArray : Array Value) = (Value.str (kdName true) tk₈ :: vs').toArray := by simp
      rw [← e2]
      exact .head _
  · rename Fr _ _ _ _ => F₇
    rename News _ _ _ _ => N₇
    refine hQ _ _ _ _ _ _ [_, _] [.leaf one, .leaf oth] _ _ (by exact F₇.keep) (fun q hq => ⟨(N₇ q hq).1, (N₇ q hq).2.2⟩) (.head _) (.tail _ (.head _))
      (.row (n := 0) (vs := [va, vb]) (.inr (.tail _ (.tail _ (.head _)))) (.cons ((hva S).mono fun a o h => ?_) (.cons ((hvb S).mono fun a o h => ?_) .nil)) (by simp)) (good_row one oth) (fun e he => ?_) (.cons (by rw [pl]; exact .str) (.cons (by rw [pl]; exact .str) .nil))
    · rcases h with h | h
      · exact .inl h
      · exact .inr (.tail _ (.tail _ (.tail _ (.tail _ (List.mem_append_right _ (List.mem_append_left _ h))))))
    · rcases h with h | h
      · exact .inl h
      · exact .inr (.tail _ (.tail _ (.tail _ (.tail _ (List.mem_append_left _ h)))))
    · rcases List.mem_cons.mp he with rfl | he
      · rw [hv]; exact v1
      · rw [List.mem_singleton.mp he, hv]; exact v2
end Mine
namespace Mine
open PySem PySem.W PySem.Calls PyProof.Rows PySem.Spec
/-- the rows of the letters a, b, c -/
inductive Abc (S : Facts) : List Leaf → List (Str × Value) → Prop
  | nil : Abc S [] []
  | cons {l : Leaf} {ls : List Leaf} {kvs : List (Str × Value)} {a : Addr} {n : Nat} {t : Tok} : S a (listOf #[.str l.nm t] n) → Abc S ls kvs → Abc S (l :: ls) ((l.nm, .ref a) :: kvs)
theorem Abc.mono {S S' : Facts} {ls : List Leaf} {kvs : List (Str × Value)} (h : Abc S ls kvs) (hs : S.sub S') : Abc S' ls kvs := by
  induction h with
  | nil => exact .nil
  | cons a _ ih => exact .cons (hs _ _ a) ih
theorem Abc.snoc {S : Facts} {ls : List Leaf} {kvs : List (Str × Value)} {l : Leaf} {a : Addr} {n : Nat} {t : Tok} (h : Abc S ls kvs) (ha : S a (listOf #[.str l.nm t] n)) : Abc S (ls ++ [l]) (kvs ++ [(l.nm, .ref a)]) := by
  induction h with
  | nil => exact .cons ha .nil
  | cons b _ ih => exact .cons b ih
theorem Abc.keys {S : Facts} {ls : List Leaf} {kvs : List (Str × Value)} (h : Abc S ls kvs) : kvs.map (·.1) = ls.map Leaf.nm := by
  induction h with
  | nil => rfl
  | cons b _ ih => rw [List.map_cons, List.map_cons, ih]
theorem stored_new {kvs : List (Str × Value)} {k : Str} {v : Value} (h : k ∉ kvs.map (·.1)) : stored kvs k v = kvs ++ [(k, v)] := by
  unfold stored
  rw [if_neg]
  simp only [List.any_eq_true, decide_eq_true_eq, not_exists, not_and]
  rintro q hq rfl
  exact h (List.mem_map_of_mem hq)
theorem Abc.turn {S : Facts} {i : Nat} {kvs : List (Str × Value)} {a : Addr} {n : Nat} {t : Tok} (h : Abc S ([Leaf.a, .b, .c].take i) kvs) (hi : i < 3) (ha : S a (listOf #[.str (abcL (0 + (i : Int))).nm t] n)) :
    Abc S ([Leaf.a, .b, .c].take (i + 1)) (stored kvs (abcL (0 + (i : Int))).nm (.ref a)) := by
  have hj : i = 0 ∨ i = 1 ∨ i = 2 := by omega
  rcases hj with rfl | rfl | rfl
  · rw [stored_new (by rw [h.keys]; decide)]; exact h.snoc (l := .a) ha
  · rw [stored_new (by rw [h.keys]; decide)]; exact h.snoc (l := .b) ha
  · rw [stored_new (by rw [h.keys]; decide)]; exact h.snoc (l := .c) ha
/-- what the values stand for -/
def sgOf (es ey : List Ex) : Leaf → List Ex
  | .x => es
  | .y => ey
  | _ => []
def ValRows (S : Facts) (kvs : List (Str × Value)) (f : Leaf → List Tr) : Prop := ∀ l : Leaf, ∃ a n us, valueAt kvs l.nm = some (.ref a) ∧ S a (listOf (us : List Value).toArray n) ∧ IsTrs S us (f l)
theorem ValRows.mono {S S' : Facts} {kvs : List (Str × Value)} {f : Leaf → List Tr} (h : ValRows S kvs f) (hs : S.sub S') : ValRows S' kvs f := fun l => by
  obtain ⟨a, n, us, p, q, r⟩ := h l
  exact ⟨a, n, us, p, hs _ _ q, r.mono hs⟩
theorem valueAt_hd {kvs : List (Str × Value)} {k : Str} {v : Value} : valueAt ((k, v) :: kvs) k = some v := by simp [valueAt]
theorem valueAt_tl {kvs : List (Str × Value)} {k k' : Str} {v : Value} (h : k' ≠ k) : valueAt ((k', v) :: kvs) k = valueAt kvs k := by simp [valueAt, h]
theorem valRows {S : Facts} {abc : List (Str × Value)} {l1 l2 n1 n2 : Nat} {us uy : List Value} {es ey : List Ex} (h : Abc S [.a, .b, .c] abc) (hl1 : S l1 (listOf us.toArray n1)) (hus : IsTrs S us (es.map pl)) (hl2 : S l2 (listOf uy.toArray n2)) (huy : IsTrs S uy (ey.map pl)) :
    ValRows S (stored (stored abc "x" (.ref l1)) "y" (.ref l2)) (fun l => (sg (sgOf es ey) l).map pl) := by
  have e1 : stored abc "x" (.ref l1) = abc ++ [(("x" : Str), Value.ref l1)] := stored_new (by rw [h.keys]; decide)
  have e2 : stored (abc ++ [(("x" : Str), Value.ref l1)]) "y" (.ref l2) = (abc ++ [(("x" : Str), Value.ref l1)]) ++ [(("y" : Str), Value.ref l2)] := stored_new (by rw [List.map_append, h.keys]; show ("y" : Str) ∉ [Leaf.a.nm, Leaf.b.nm, Leaf.c.nm, ("x" : Str)]; decide)
  rw [e1, e2]
  cases h with | @cons _ _ _ a1 m1 t1 p1 h => cases h with | @cons _ _ _ a2 m2 t2 p2 h => cases h with | @cons _ _ _ a3 m3 t3 p3 h => cases h with | nil =>
  intro l
  cases l with
  | a => exact ⟨a1, m1, [.str Leaf.a.nm t1], valueAt_hd, p1, .cons .str .nil⟩
  | b => exact ⟨a2, m2, [.str Leaf.b.nm t2], (valueAt_tl (by decide)).trans valueAt_hd, p2, .cons .str .nil⟩
  | c => exact ⟨a3, m3, [.str Leaf.c.nm t3], (valueAt_tl (by decide)).trans ((valueAt_tl (by decide)).trans valueAt_hd), p3, .cons .str .nil⟩
  | x => exact ⟨l1, n1, us, (valueAt_tl (by decide)).trans ((valueAt_tl (by decide)).trans ((valueAt_tl (by decide)).trans valueAt_hd)), hl1, hus⟩
  | y => exact ⟨l2, n2, uy, (valueAt_tl (by decide)).trans ((valueAt_tl (by decide)).trans ((valueAt_tl (by decide)).trans ((valueAt_tl (by decide)).trans valueAt_hd))), hl2, huy⟩
section
variable {prog : Program} {w : World} {A : Around} {E : Value → Shared → Prop} {s : Shared} {h₀ : Heap} {L : Addr} {m : Str → Option Value}
theorem setItemD {D : Addr} {oD : Obj} {kvs : List (Str × Value)} {rest : List (Addr × Obj)} {k : Str} {t : Tok} {v : Value} {Q : Unit → Shared → Prop} (F : Fr h₀ L s.heap m) (N : News h₀ L s.heap ((D, oD) :: rest)) (ho : oD.IsDictOf (strKind prog w) kvs) (off : ∀ p ∈ rest, p.1 ≠ D) (hsz : kvs.length ≤ 60)
    (h : ∀ oD' h' tk, oD'.IsDictOf (strKind prog w) (stored kvs k v) → Fr h₀ L h' m → News h₀ L h' ((D, oD') :: rest) → Q () { s with heap := h', toks := tk }) : wpAny (model prog w) A (setItem (.ref D) (.str k t) v) Q E s := by
  have z := N _ (.head _)
  refine wpAny_setItem_pairs (knd := strKind prog w) (k := k) (strKind_is _ _ _ _) (Heap.dictOf_iff.mpr ⟨_, z.1, ho⟩) (fun h' hd hs => ?_) (by rw [sizeLine_eq]; omega)
  obtain ⟨oD', e', ho'⟩ := Heap.dictOf_iff.mp hd
  refine h oD' h' _ ho' ⟨F.ns.sameBut hs (Ne.symm z.2.1), fun b ob e => hs.extBut b ob (fun q => by rw [q, z.2.2] at e; cases e) (F.keep b ob e), F.above⟩ fun p hp => ?_
  rcases List.mem_cons.mp hp with rfl | hp
  · exact ⟨e', z.2⟩
  · exact ⟨hs.extBut _ _ (off p hp) (N p (.tail _ hp)).1, (N p (.tail _ hp)).2⟩
/-- a value of the dict by its letter -/
theorem valD {value slice : PySem.Expr} {D : Addr} {oD : Obj} {kvs : List (Str × Value)} {k : Str} {t : Tok} {v : Value} {Q : Value → Shared → Prop} (hD : s.heap.get? D = some oD) (ho : oD.IsDictOf (strKind prog w) kvs) (hv : valueAt kvs k = some v)
    (h : Q v { s with toks := s.toks + 1 }) (hs : subscripted slice false (.ref D) (.str k t) = operate [.ref D, .str k t] (getItem (.ref D) (.str k t)) := by with_unfolding_all rfl)
    (ht : ∀ r, letTemporaryGo value (.ref D) r = pure () := by intro _; with_unfolding_all rfl) :
    wpAny (model prog w) A (subscriptTail value slice (.ref D) (.str k t)) Q E s :=
  have d : s.heap.DictOf (strKind prog w) D kvs := Heap.dictOf_iff.mpr ⟨_, hD, ho⟩
  subscriptTail_builtin d.typeIs slot_dict_getitem.lookup (wpAny_getItem_of (knd := strKind prog w) (strKind_is _ _ _ _) d.mapOf hv h) hs ht
end
end Mine
namespace Mine
open PySem PySem.W PySem.Calls PyProof.Rows PySem.Spec
theorem hvL_fl (k : Bool) (e : Ex) : hvL (fl k e) = hv e := by
  cases e with
  | leaf l => simp [fl, hvL, hv]
  | op k' es =>
    rw [hv]
    show hvL (if k' = k then es else [Ex.op k' es]) = hvL es
    split
    · rfl
    · rw [hvL, hv, hvL, Bool.or_false]
theorem hvL_append : ∀ a b : List Ex, hvL (a ++ b) = (hvL a || hvL b) := fun a b => by rw [hvL_any, hvL_any, hvL_any, List.any_append]
theorem hvL_flat (k : Bool) : ∀ l : List Ex, hvL (flat k l) = hvL l
  | [] => rfl
  | e :: r => by
    have ih := hvL_flat k r
    unfold flat at ih ⊢
    rw [List.flatMap_cons, hvL_append, hvL_fl, ih, hvL]
theorem hv_mk (k : Bool) (l : List Ex) : hv (mk k l) = hvL l := by
  unfold mk
  rw [hv, hvL_perm (srt_perm _), hvL_flat]
theorem hvL_false {l : List Ex} (h : ∀ e ∈ l, hv e = false) : hvL l = false := by
  rw [hvL_any]
  cases q : l.any hv with
  | false => rfl
  | true =>
    obtain ⟨e, he, hq⟩ := List.any_eq_true.mp q
    rw [h e he] at hq
    cases hq
theorem anewE_hv {σ : Leaf → List Ex} (hσ : ∀ l, ∀ e ∈ sg σ l, hv e = false) (terms : List (List Leaf)) : ∀ e ∈ anewE σ terms, hv e = false := by
  intro e he
  obtain ⟨t, _, he⟩ := List.mem_flatMap.mp he
  have h1 : ∀ e ∈ t.flatMap (sg σ), hv e = false := fun e he => by
    obtain ⟨l, _, hl⟩ := List.mem_flatMap.mp he
    exact hσ l e hl
  unfold termE at he
  split at he
  · exact h1 e he
  · rw [List.mem_singleton.mp he, hv_mk]
    exact hvL_false h1
theorem told_hv {es ey : List Ex} (h1 : ∀ e ∈ es, hv e = false) (h2 : ∀ e ∈ ey, hv e = false) (terms : List (List Leaf)) : hv (mk true (anewE (sgOf es ey) terms)) = false := by
  rw [hv_mk]
  refine hvL_false (anewE_hv (fun l e he => ?_) terms)
  cases l with
  | a => rw [List.mem_singleton.mp he]; rfl
  | b => rw [List.mem_singleton.mp he]; rfl
  | c => rw [List.mem_singleton.mp he]; rfl
  | x => exact h1 e he
  | y => exact h2 e he
end Mine
namespace Mine
open PySem PySem.W PySem.Calls PyProof.Rows PySem.Spec
set_option maxRecDepth 100000
/-- how far the law's walk has come -/
inductive St : Nat → Prop where
  | mk {n : Nat} : St n
theorem Hold.mkG {p : Prop} {n : Nat} (_ : St n) (h : Hold p) : p := h
/-- a def with cells entered, one object that changes hidden from the base -/
theorem enterC {prog : Program} {w : World} {A : Around} {K : Frag} {R : Result → Shared → Prop} {s : Shared} {name qual : Str} {params : Arguments} {body : List Stmt} {scope : Scope} {dV kV doc pm cdv ct oc : Value} {an od : Option Addr} {osl : Array (Option Value)} {f r : Addr} {ob : Obj} {args : Args} {binds : List (Str × Value)} {m₀ : Str → Option Value} (cl : Addr → List (Str × Addr))
    (X : K.In (less s.heap r)) (hr : s.heap.get? r = some ob) (hlim : s.heap.NoLimit) (hroom : A.depth < recursionLimit)
    (ho : K.lookup f = some ⟨oc, od, .func (fnOf name qual params body scope dV kV doc pm an cdv ct), osl⟩) (hcd : codeIn K cdv qual = true)
    (hbind : BindsTo s (fnOf name qual params body scope dV kV doc pm an cdv ct) args binds)
    (hkind : ∀ n, ∀ x ∈ binds, scope.names.lookup x.1 = some .local ∨ (scope.names.lookup x.1 = some .cell ∧ ((cellsFrom n scope.names []).lookup x.1).isSome = true))
    (hnd : ((cellsFrom 0 scope.names []).map (·.1)).Nodup)
    (hcl : ∀ L, cellsFrom (L + 1) scope.names [] = cl L) (hmL : ∀ L, bindL (envOfC qual scope L f cdv).kindOf binds (fun _ => none) = m₀) (hmC : ∀ L y, bindC (envOfC qual scope L f cdv).kindOf binds (fun _ => none) y = none)
    (h : ∀ L h₁ tk cells, Fr (less s.heap r) L h₁ m₀ → News (less s.heap r) L h₁ (cells ++ [(r, ob)]) →
      CellsAre (fun _ => none) (cl L) cells → r < L →
      wpAny (model prog w) (A.deeper (envX qual scope L f cdv (cl L))) (execs body (envX qual scope L f cdv (cl L)))
        (fun fl s' => R (.ok (.ret (match fl with | .ret v => v | _ => .none))) s') (fun _ _ => False)
        { s with heap := h₁, toks := tk })
    (hco : scope.isCoroutine = false := by rfl) (hgen : scope.isGenerator = false := by rfl) (hk : scope.kind = .function := by rfl) : codeAny (model prog w) A (.call (.ref f) args) R s := by
  have X' : K.In s.heap := X.keeps fun b o e => less_of e
  refine codeAny_call_function (fd := fnOf name qual params body scope dV kV doc pm an cdv ct) (body := body) hroom (X' _ _ ho) rfl hco hgen rfl (codeRec_of X' hcd) (hbind _ _ _ _ ?_)
  refine wpAny_newFunctionEnv_cells hk (hkind _) fun env' he s' x => ?_
  subst he
  refine ⟨hlim.keeps x.toInCall.keep, codeAny_func ?_⟩
  obtain ⟨h₁, tk, rfl, _⟩ := x.done
  have hk₁ := x.toInCall.keep
  obtain ⟨cells, NC, Y⟩ := Cl.news (h₀ := s.heap) (Nat.le_refl _) fun n c hm => ⟨x.cell n c (lookup_of_mem_nodup (cellsFrom_names scope.names 0 (s.heap.objs.size + 1) [] [] rfl ▸ hnd) hm), x.above n c hm⟩
  have e0 : envOfC qual scope s.heap.objs.size f cdv = envX qual scope s.heap.objs.size f cdv (cl s.heap.objs.size) := by unfold envOfC envX; rw [hcl]
  have e1 : (bindC (envOfC qual scope s.heap.objs.size f cdv).kindOf binds fun _ => none) = fun _ => none := funext fun y => hmC _ y
  have Y' : CellsAre (fun _ => none) (cl s.heap.objs.size) cells := by
    rw [← hcl, ← e1]; exact Y
  have ns := x.toInCall.ns
  have ns' : h₁.Ns s.heap.objs.size m₀ := by rw [← hmL s.heap.objs.size]; exact ns
  show wpAny (model prog w) (A.deeper (envOfC qual scope s.heap.objs.size f cdv)) (execs body (envOfC qual scope s.heap.objs.size f cdv)) _ _ _
  rw [e0]
  refine wpAny_mono (h s.heap.objs.size h₁ tk cells ⟨ns', fun b o e => hk₁ b o (less_of e), Nat.le_of_eq (hideAll_size _ _)⟩ (fun p hp => ?_) Y' (Heap.lt_size hr)) (fun _ _ x => x) (fun _ _ x => x.elim)
  rcases List.mem_append.mp hp with hp | hp
  · refine ⟨(NC p hp).1, (NC p hp).2.1, ?_⟩
    cases q : (less s.heap r).get? p.1 with
    | none => rfl
    | some o => have := less_of q; rw [(NC p hp).2.2] at this; cases this
  · rw [List.mem_singleton.mp hp]
    exact ⟨hk₁ _ _ hr, Nat.ne_of_lt (Heap.lt_size hr), less_none⟩
/-- the facts of a ledger -/
def FS (fs : List (Addr × Obj)) : Facts := fun a o => (a, o) ∈ fs
theorem FS.sub {fs gs : List (Addr × Obj)} (h : ∀ p ∈ fs, p ∈ gs) : (FS fs).sub (FS gs) := fun _ _ q => h _ q
theorem more_sub {fs gs hs : List (Addr × Obj)} (h1 : ∀ p ∈ gs, p ∈ hs) (h2 : ∀ p ∈ fs, p ∈ hs) : (Facts.more (FS fs) gs).sub (FS hs) := fun _ _ q => by
  rcases q with q | q
  · exact h2 _ q
  · exact h1 _ q
theorem FS.inL {h₀ h : Heap} {L : Addr} {fs news : List (Addr × Obj)} (N : News h₀ L h news) (hs : ∀ p ∈ fs, p ∈ news) : (FS fs).In h := fun _ _ q => (N _ (hs _ q)).1
/-- the ledger of the law's frame -/
abbrev led (L r : Nat) (c1 c2 c3 c4 c5 ob : Obj) (fs : List (Addr × Obj)) : List (Addr × Obj) := (L + 1 + 1 + 1 + 1 + 1, c1) :: (L + 1 + 1 + 1 + 1, c2) :: (L + 1 + 1 + 1, c3) :: (L + 1 + 1, c4) :: (L + 1, c5) :: (r, ob) :: fs
/-- none of them is a cell or the table -/
def OffC (L r : Nat) (fs : List (Addr × Obj)) : Prop := ∀ p ∈ fs, @Ne Nat p.1 (L + 1 + 1 + 1 + 1 + 1) ∧ @Ne Nat p.1 (L + 1 + 1 + 1 + 1) ∧ @Ne Nat p.1 (L + 1 + 1 + 1) ∧ @Ne Nat p.1 (L + 1 + 1) ∧ @Ne Nat p.1 (L + 1) ∧ @Ne Nat p.1 r
theorem OffC.nil {L r : Nat} : OffC L r [] := fun _ h => by cases h
theorem OffC.app {L r : Nat} {fs gs : List (Addr × Obj)} (h1 : OffC L r fs) (h2 : OffC L r gs) : OffC L r (fs ++ gs) := fun p hp => by
  rcases List.mem_append.mp hp with h | h
  · exact h1 p h
  · exact h2 p h
theorem OffC.of {L r : Nat} {c1 c2 c3 c4 c5 ob : Obj} {fs gs : List (Addr × Obj)} (nf : ∀ p ∈ gs, ∀ q ∈ led L r c1 c2 c3 c4 c5 ob fs, p.1 ≠ q.1) : OffC L r gs := fun p hp =>
  ⟨nf p hp _ (.head _), nf p hp _ (.tail _ (.head _)), nf p hp _ (.tail _ (.tail _ (.head _))), nf p hp _ (.tail _ (.tail _ (.tail _ (.head _)))), nf p hp _ (.tail _ (.tail _ (.tail _ (.tail _ (.head _))))), nf p hp _ (.tail _ (.tail _ (.tail _ (.tail _ (.tail _ (.head _))))))⟩
/-- the ledger grown by new facts -/
theorem ledAdd {h₀ h h' : Heap} {L r : Nat} {m : Str → Option Value} {c1 c2 c3 c4 c5 ob : Obj} {fs gs : List (Addr × Obj)} (F : Fr h₀ L h m) (N : News h₀ L h (led L r c1 c2 c3 c4 c5 ob fs)) (o : OffC L r fs) (st : h.StaysIn h') (fr : Fresh h h' gs) :
    ∃ fs', Fr h₀ L h' m ∧ News h₀ L h' (led L r c1 c2 c3 c4 c5 ob fs') ∧ OffC L r fs' ∧ (∀ p ∈ fs, p ∈ fs') ∧ ∀ p ∈ gs, p ∈ fs' := by
  obtain ⟨N', nf⟩ := newsAddL F N st fr
  refine ⟨gs ++ fs, frStay F st, fun p hp => N' p ?_, (OffC.of nf).app o, fun p hp => List.mem_append_right _ hp, fun p hp => List.mem_append_left _ hp⟩
  simp only [List.mem_cons, List.mem_append] at hp ⊢
  rcases hp with h | h | h | h | h | h | h | h <;> simp [h]
section
variable {L r : Nat} {c1 c2 c3 c4 c5 ob : Obj} {fs : List (Addr × Obj)}
theorem upd1 (o : OffC L r fs) (hr : @LT.lt Nat _ r L) : UpdF (L + 1 + 1 + 1 + 1 + 1) c1 (led L r c1 c2 c3 c4 c5 ob fs) (fun x => led L r x c2 c3 c4 c5 ob fs) :=
  .head fun p hp => by
    simp only [List.mem_cons] at hp
    rcases hp with rfl | rfl | rfl | rfl | rfl | hp
    · k_ne
    · k_ne
    · k_ne
    · k_ne
    · k_ne
    · exact (o p hp).1
theorem upd2 (o : OffC L r fs) (hr : @LT.lt Nat _ r L) : UpdF (L + 1 + 1 + 1 + 1) c2 (led L r c1 c2 c3 c4 c5 ob fs) (fun x => led L r c1 x c3 c4 c5 ob fs) :=
  .tail (by k_ne) (.head fun p hp => by
    simp only [List.mem_cons] at hp
    rcases hp with rfl | rfl | rfl | rfl | hp
    · k_ne
    · k_ne
    · k_ne
    · k_ne
    · exact (o p hp).2.1)
theorem upd3 (o : OffC L r fs) (hr : @LT.lt Nat _ r L) : UpdF (L + 1 + 1 + 1) c3 (led L r c1 c2 c3 c4 c5 ob fs) (fun x => led L r c1 c2 x c4 c5 ob fs) :=
  .tail (by k_ne) (.tail (by k_ne) (.head fun p hp => by
    simp only [List.mem_cons] at hp
    rcases hp with rfl | rfl | rfl | hp
    · k_ne
    · k_ne
    · k_ne
    · exact (o p hp).2.2.1))
theorem upd4 (o : OffC L r fs) (hr : @LT.lt Nat _ r L) : UpdF (L + 1 + 1) c4 (led L r c1 c2 c3 c4 c5 ob fs) (fun x => led L r c1 c2 c3 x c5 ob fs) :=
  .tail (by k_ne) (.tail (by k_ne) (.tail (by k_ne) (.head fun p hp => by
    simp only [List.mem_cons] at hp
    rcases hp with rfl | rfl | hp
    · k_ne
    · k_ne
    · exact (o p hp).2.2.2.1)))
end

def Leaf.ix : Leaf → Int
  | .a => 0
  | .b => 1
  | .c => 2
  | .x => 3
  | .y => 4
def leafAt (i : Int) : Leaf := if i = 0 then .a else if i = 1 then .b else if i = 2 then .c else if i = 3 then .x else .y
theorem leafAt_ix {i : Int} (h0 : 0 ≤ i) (h1 : i < 5) : (leafAt i).ix = i := by
  have : i = 0 ∨ i = 1 ∨ i = 2 ∨ i = 3 ∨ i = 4 := by omega
  rcases this with rfl | rfl | rfl | rfl | rfl <;> rfl
/-- a row of numbers that stand for letters -/
def IsTerm (S : Facts) (v : Value) (term : List Leaf) : Prop := ∃ rl n us, v = .ref rl ∧ S rl (listOf us.toArray n) ∧ IntsAre us (term.map Leaf.ix)
inductive IsTerms (S : Facts) : List Value → List (List Leaf) → Prop
  | nil : IsTerms S [] []
  | cons {v : Value} {t : List Leaf} {vs : List Value} {ts : List (List Leaf)} (h : IsTerm S v t) (r : IsTerms S vs ts) : IsTerms S (v :: vs) (t :: ts)
theorem IsTerm.mono {S S' : Facts} (hs : S.sub S') {v : Value} {t : List Leaf} (h : IsTerm S v t) : IsTerm S' v t := by
  obtain ⟨rl, n, us, e, h1, h2⟩ := h
  exact ⟨rl, n, us, e, hs _ _ h1, h2⟩
theorem IsTerms.mono {S S' : Facts} (hs : S.sub S') : ∀ {vs : List Value} {ts : List (List Leaf)}, IsTerms S vs ts → IsTerms S' vs ts
  | _, _, .nil => .nil
  | _, _, .cons a b => .cons (a.mono hs) (b.mono hs)
theorem IsTerms.snoc {S : Facts} {v : Value} {t : List Leaf} : ∀ {vs : List Value} {ts : List (List Leaf)}, IsTerms S vs ts → IsTerm S v t → IsTerms S (vs ++ [v]) (ts ++ [t])
  | _, _, .nil, h => .cons h .nil
  | _, _, .cons a r, h => .cons a (r.snoc h)
theorem IsTerms.length {S : Facts} : ∀ {vs : List Value} {ts : List (List Leaf)}, IsTerms S vs ts → vs.length = ts.length
  | _, _, .nil => rfl
  | _, _, .cons _ r => by rw [List.length_cons, List.length_cons, r.length]
theorem mem_led {L r : Nat} {c1 c2 c3 c4 c5 ob : Obj} {fs : List (Addr × Obj)} {p : Addr × Obj} (h : p ∈ fs) : p ∈ led L r c1 c2 c3 c4 c5 ob fs := .tail _ (.tail _ (.tail _ (.tail _ (.tail _ (.tail _ h)))))
theorem intsSnoc {n : Int} {t : Tok} : ∀ {vs : List Value} {ns : List Int}, IntsAre vs ns → IntsAre (vs ++ [.int n t]) (ns ++ [n])
  | _, _, .nil => .cons n t .nil
  | _, _, .cons n' t' h => .cons n' t' (intsSnoc h)
theorem off1_mem {D : Addr} : ∀ {l : List (Addr × Obj)}, LCg.Off1 D l → ∀ p ∈ l, p.1 ≠ D
  | [], _, p, h => by cases h
  | _ :: _, x, p, h => by
    rcases List.mem_cons.mp h with rfl | h
    · exact x.1
    · exact off1_mem x.2 p h
theorem small_zero {n : Nat} (h : n ≤ 1000) : Builtin.Range.small 0 (n : Int) 1 = true := by
  unfold Builtin.Range.small
  have e : Builtin.Range.rangeSize 0 (n : Int) 1 = (n : Int) := by
    rw [rangeSize_one]
    split
    · omega
    · omega
  rw [e, fits_long 0 (by decide) (by decide), fits_long _ (by omega) (by omega), fits_long _ (by omega) (by omega), if_pos (by decide), fits_long _ (by omega) (by omega)]
  simp
section
variable {M : Model} {A : Around} {E : Value → Shared → Prop} {s : Shared} {K : Frag} {h₀ : Heap} {L : Addr} {m mg mb : Str → Option Value} {p : Program} {loose : List Str} {x : Str} {pos : Pos} {v : Value} {env : Env} {Q : Value → Shared → Prop}
theorem nameG_B (F : Fr h₀ L s.heap m) (X : K.In h₀) (T : TopRead p loose mg mb h₀) (e : nsIn K mainGlobals x = some none) (hv : bootBuiltins x = some v) (hn : x ≠ "__name__") (h : Q v s) (hg : env.globals = mainGlobals) (hb : env.builtins = builtinsNs)
    (hk : env.scope.kind = .function) (hx : env.kindOf x = some .globalImplicit) (hd : (x == ("__debug__" : Str)) = false) : wpAny M A (eval (.Name x pos) env) Q E s :=
  Name_function_global hk hx (loadGlobal_builtin (env := env) (by rw [hg]; exact T.g.keeps F.keep) (mg_none_of X T.g e) (by rw [hb]; exact T.b.keeps F.keep) ((T.builtins x hn).trans hv) h) hd
end
/-- what the law holds ready -/
structure Kit (w : World) (fs : List (Addr × Obj)) (kp kt nl ll ra rb rc rx ry : Addr) (ws : List Value) : Prop where
  nums : (nl, listOf ws.toArray 0) ∈ fs
  lvs : (ll, listOf [Value.ref ra, Value.ref rb, Value.ref rc, Value.ref rx, Value.ref ry].toArray 0) ∈ fs
  plus : IsKind w.params (FS fs) kp true
  times : IsKind w.params (FS fs) kt false
  a : IsEx w.params (FS fs) (.ref ra) (.leaf .a)
  b : IsEx w.params (FS fs) (.ref rb) (.leaf .b)
  c : IsEx w.params (FS fs) (.ref rc) (.leaf .c)
  x : IsEx w.params (FS fs) (.ref rx) (.leaf .x)
  y : IsEx w.params (FS fs) (.ref ry) (.leaf .y)
theorem Kit.mono {w : World} {fs gs : List (Addr × Obj)} {kp kt nl ll ra rb rc rx ry : Addr} {ws : List Value} (h : Kit w fs kp kt nl ll ra rb rc rx ry ws) (s : ∀ p ∈ fs, p ∈ gs) : Kit w gs kp kt nl ll ra rb rc rx ry ws :=
  ⟨s _ h.nums, s _ h.lvs, h.plus.mono (FS.sub s), h.times.mono (FS.sub s), h.a.mono (FS.sub s), h.b.mono (FS.sub s), h.c.mono (FS.sub s), h.x.mono (FS.sub s), h.y.mono (FS.sub s)⟩
theorem Kit.leaf {w : World} {fs : List (Addr × Obj)} {kp kt nl ll ra rb rc rx ry : Addr} {ws : List Value} (h : Kit w fs kp kt nl ll ra rb rc rx ry ws) (l : Leaf) :
    ∃ v, [Value.ref ra, Value.ref rb, Value.ref rc, Value.ref rx, Value.ref ry][l.ix.toNat]? = some v ∧ IsEx w.params (FS fs) v (.leaf l) := by
  cases l
  · exact ⟨_, rfl, h.a⟩
  · exact ⟨_, rfl, h.b⟩
  · exact ⟨_, rfl, h.c⟩
  · exact ⟨_, rfl, h.x⟩
  · exact ⟨_, rfl, h.y⟩
theorem ix_range (l : Leaf) : 0 ≤ l.ix ∧ l.ix < 5 := by cases l <;> decide
theorem IsExs.snoc {P : Params} {S : Facts} {v : Value} {e : Ex} : ∀ {vs : List Value} {es : List Ex}, IsExs P S vs es → IsEx P S v e → IsExs P S (vs ++ [v]) (es ++ [e])
  | _, _, .nil, h => .cons h .nil
  | _, _, .cons a r, h => .cons a (r.snoc h)
theorem exsPairs {P : Params} {S : Facts} {vs : List Value} {es : List Ex} (h : IsExs P S vs es) : ∃ ps : List (Value × Ex), ps.map (·.1) = vs ∧ ps.map (·.2) = es ∧ Bears P S ps :=
  ⟨vs.zip es, List.map_fst_zip (Nat.le_of_eq h.length), List.map_snd_zip (Nat.le_of_eq h.length.symm), h.bears⟩
theorem IsTerms.get {S : Facts} : ∀ {vs : List Value} {ts : List (List Leaf)}, IsTerms S vs ts → ∀ {i : Nat} {v : Value}, vs[i]? = some v → ∃ t, ts[i]? = some t ∧ IsTerm S v t
  | _, _, .nil, i, v, h => by simp at h
  | _, _, .cons a b, 0, v, h => by simp at h; subst h; exact ⟨_, rfl, a⟩
  | _, _, .cons a b, i + 1, v, h => by simp at h; exact IsTerms.get b h
/-- what _law_joined asks of the trees of expressions -/
theorem joinOk {k : Bool} {l : List Ex} (hN : ∀ e ∈ l, Nrm e) (hc : cntL l ≤ 60) (hh : ∀ e ∈ l, e.ht ≤ 5) : (flatT k (l.map pl)).length ≤ 60 ∧ (1 ≤ l.length → 1 ≤ (flatT k (l.map pl)).length) ∧ ∀ u ∈ flatT k (l.map pl), u.txt.length ≤ 1000 ∧ 10 * u.hgt + 60 ≤ 120 := by
  have p := flatT_pl k l
  refine ⟨?_, fun h1 => ?_, fun u hu => ?_⟩
  · rw [p.length_eq, List.length_map]
    exact Nat.le_trans (flat_cnt hN) hc
  · rw [p.length_eq, List.length_map]
    exact Nat.le_trans h1 (flat_len fun e he => (hN e he).fl_pos k)
  · obtain ⟨f, hf, rfl⟩ := List.mem_map.mp (p.mem_iff.mp hu)
    obtain ⟨e, he, hf'⟩ := List.mem_flatMap.mp hf
    have hn := ((hN e he).fl_mem hf').1
    have h1 := txt_le hn
    have h2 := cnt_mem hf
    rw [cntL_flat] at h2
    have h3 := hgt_pl f
    have h4 : f.ht < 6 := flat_ht (k := k) (es := l) (fun e he => Nat.lt_succ_of_le (hh e he)) hf
    omega
theorem leafs_pl (term : List Leaf) : term.map Tr.str = (term.map Ex.leaf).map pl := by
  rw [List.map_map]
  exact List.map_congr_left fun l _ => by simp [pl]
theorem leafs_ok (term : List Leaf) (h : term.length ≤ 20) : (∀ e ∈ term.map Ex.leaf, Nrm e) ∧ cntL (term.map .leaf) ≤ 60 ∧ ∀ e ∈ term.map Ex.leaf, e.ht ≤ 5 := by
  refine ⟨fun e he => ?_, by rw [cntL_leafs]; omega, fun e he => ?_⟩
  · obtain ⟨l, _, rfl⟩ := List.mem_map.mp he; exact .leaf l
  · obtain ⟨l, _, rfl⟩ := List.mem_map.mp he; rw [Ex.ht]; omega
theorem prods_pl {terms : List (List Leaf)} (h : ∀ t ∈ terms, 1 ≤ t.length) : (terms.map fun t => joinT false (t.map .str)) = (terms.map prodE).map pl := by
  rw [List.map_map]
  exact List.map_congr_left fun t ht => (prod_pl (h t ht)).symm
theorem prods_ok {terms : List (List Leaf)} (h3 : terms.length ≤ 3) (h : ∀ t ∈ terms, 1 ≤ t.length ∧ t.length ≤ 4) : (∀ e ∈ terms.map prodE, Nrm e) ∧ cntL (terms.map prodE) ≤ 60 ∧ ∀ e ∈ terms.map prodE, e.ht ≤ 5 := by
  refine ⟨fun e he => ?_, ?_, fun e he => ?_⟩
  · obtain ⟨t, ht, rfl⟩ := List.mem_map.mp he; exact prodE_nrm (h t ht).1
  · have := cntL_le (n := 4) (l := terms.map prodE) fun e he => by
      obtain ⟨t, ht, rfl⟩ := List.mem_map.mp he
      rw [cnt_prod]; exact (h t ht).2
    rw [List.length_map] at this
    omega
  · obtain ⟨t, ht, rfl⟩ := List.mem_map.mp he
    have := @prodE_ht t
    omega
section
variable {prog : Program} {w : World} {A : Around} {E : Value → Shared → Prop} {s : Shared} {Q : Value → Shared → Prop}
theorem letterSub {value slice : PySem.Expr} {l : Leaf} {t u : Tok} (h : Q (.str l.nm s.toks) { s with toks := s.toks + 1 })
    (hs : subscripted slice false (.str "abcxy" t) (.int l.ix u) = operate [.str "abcxy" t, .int l.ix u] (getItem (.str "abcxy" t) (.int l.ix u)) := by with_unfolding_all rfl)
    (ht : ∀ r, letTemporaryGo value (.str "abcxy" t) r = pure () := by intro _; with_unfolding_all rfl) :
    wpAny (model prog w) A (subscriptTail value slice (.str "abcxy" t) (.int l.ix u)) Q E s := by
  have e : Txt.item ("abcxy" : Str) l.ix = l.nm := by cases l <;> decide
  have hl : ("abcxy" : Str).length = 5 := by decide
  have ir := ix_range l
  refine item_str (fitsSsize_of (N := 9223372036854775808) (by omega) (by omega) (Int.le_refl _)) (by rw [hl]; omega) (by rw [hl]; omega) (fun _ => ?_) hs ht
  rw [e]
  exact h
end
theorem tbOf {h : Heap} {r : Nat} {ob : Obj} (h4 : r = 474) (t : Tb h) (hr : h.get? r = some ob) : ∀ h', (less h r).StaysIn h' → h'.get? r = some ob → Tb h' := fun h' st hr' => by
  subst h4
  refine t.at (fun o e => st _ _ (less_get e (by decide))) fun o e => ?_
  rw [hr] at e
  cases e
  exact hr'
theorem tb478 {h : Heap} (t : Tb h) : ∃ o, h.get? 478 = some o := by
  obtain ⟨ps, ⟨o, vs, file, tf, flags, tg, inF, text, tt, op, a, r⟩, _⟩ := t
  exact ⟨_, a⟩
theorem tbOf2 {h₀ h : Heap} {r : Nat} {ob : Obj} (h4 : r = 474) (t : Tb h) (st : h₀.StaysIn h) (h8 : ∃ o, h₀.get? 478 = some o) (hr : h.get? r = some ob) : ∀ h', h₀.StaysIn h' → h'.get? r = some ob → Tb h' := fun h' st' hr' => by
  subst h4
  obtain ⟨o8, e8⟩ := h8
  refine t.at (fun o e => ?_) fun o e => ?_
  · rw [st _ _ e8] at e
    cases e
    exact st' _ _ e8
  · rw [hr] at e
    cases e
    exact hr'
section
variable {prog : Program} {w : World} {A : Around} {E : Value → Shared → Prop} {s : Shared} {h₀ : Heap} {L r : Nat} {m mg mb : Str → Option Value} {p : Program} {loose : List Str} {c1 c2 c3 c4 c5 ob : Obj} {fs : List (Addr × Obj)} {Q : Value → Shared → Prop}
/-- «==» of two expressions of the ledger -/
theorem ledEq {va vb : Value} {ea eb : Ex} (r474 : r = 474) (X : (Mine.frag.heap_1 w.params).In h₀) (T : TopRead p loose mg mb h₀) (B : Bm mg h₀) (hg : h₀.get? r = none) (hL : @LT.lt Nat _ r L) (F : Fr h₀ L s.heap m) (N : News h₀ L s.heap (led L r c1 c2 c3 c4 c5 ob fs)) (o : OffC L r fs)
    (tb : Tb s.heap) (hh : A.handled = none) (hdp : A.depth + 40 < recursionLimit) (hu : A.units + 250 < cLine) (ha : IsEx w.params (FS fs) va ea) (hb : IsEx w.params (FS fs) vb eb) (h1 : ea.ht ≤ 4) (h2 : eb.ht ≤ 4)
    (hQ : ∀ h' tk g' ob', Fr h₀ L h' m → News h₀ L h' (led L r c1 c2 c3 c4 c5 ob' fs) → Tb h' → GK s.gens g' → Q (.bool (ea.eqb eb)) { s with heap := h', toks := tk, gens := g' }) :
    wpAny (model prog w) A (compareOp .Eq va vb) Q E s := by
  have gs : h₀.StaysIn (less s.heap 474) := less_stays F.keep (r474 ▸ hg)
  have up : ∀ {v : Value} {e : Ex}, IsEx w.params (FS fs) v e → IsEx w.params (at_ (less s.heap 474)) v e := fun h => h.mono fun a ob' hm => less_get (N _ (mem_led hm)).1 (r474 ▸ (o _ hm).2.2.2.2.2)
  refine eq_ex w 5 ea eb (by omega) (by omega) (g := less s.heap 474) (X.keeps gs) (T.keeps gs) (B.keeps gs) (fun b o e => less_of e) less_none tb hh (by omega) (by omega) (up ha) (up hb) ?_
  intro h' tk g' st tb' _ gk
  obtain ⟨ps, hob'⟩ := tb'.obj
  subst r474
  obtain ⟨F', N'⟩ := chgBack (d := 474) (own := [(L + 1 + 1 + 1 + 1 + 1, c1), (L + 1 + 1 + 1 + 1, c2), (L + 1 + 1 + 1, c3), (L + 1 + 1, c4), (L + 1, c5)]) (rest := fs) F N (fun q hq => by
    have hL' : (474 : Nat) < L := hL
    simp only [List.mem_cons, List.not_mem_nil, or_false] at hq
    rcases hq with rfl | rfl | rfl | rfl | rfl
    · exact (show (L + 1 + 1 + 1 + 1 + 1 : Nat) ≠ (474 : Nat) by omega)
    · exact (show (L + 1 + 1 + 1 + 1 : Nat) ≠ (474 : Nat) by omega)
    · exact (show (L + 1 + 1 + 1 : Nat) ≠ (474 : Nat) by omega)
    · exact (show (L + 1 + 1 : Nat) ≠ (474 : Nat) by omega)
    · exact (show (L + 1 : Nat) ≠ (474 : Nat) by omega)) (fun q hq => (o q hq).2.2.2.2.2) st hob'
  exact hQ h' tk g' _ F' N' tb' gk
end
theorem lenNk {prog : Program} {w : World} {A : Around} {E : Value → Shared → Prop} {s : Shared} {h₀ : Heap} {L l : Addr} {news : List (Addr × Obj)} {vs : List Value} {n k : Nat} {Q : Value → Shared → Prop}
    (N : News h₀ L s.heap news) (hm : (l, listOf vs.toArray n) ∈ news) (hk : vs.length = k) (hn : k ≤ 1000) (h : ∀ t j, Q (.int (k : Int) t) { s with toks := j }) : wpAny (model prog w) A (call (.builtin "len") [.ref l] []) Q E s := by
  subst hk
  refine len_list (items := vs.toArray) ⟨_, (N _ hm).1, rfl, _, rfl⟩ (by simp only [List.size_toArray]; omega) ?_
  simp only [List.size_toArray]
  exact h _ _
local macro_rules | `(tactic| k_inst) => `(tactic| (refine' instBase ?F ?h1 ?h2; (case F => k_asm); (case h1 => assumption); (case h2 => assumption)))
local macro_rules | `(tactic| k_room) => `(tactic| ((try simp only [depth_under_make, depth_under_kw, depth_in1, depth_deeper, depth_caller]); omega))
local macro_rules | `(tactic| k_units) => `(tactic| ((try simp only [units_in1, units_deeper, Around.mark_units, units_caller]); omega))
local macro_rules | `(tactic| walk_at "exec For") => `(tactic| (k_here; refine Hold.mk ?_))
local macro_rules | `(tactic| walk_at "truthy str") => `(tactic| (k_here; (with_reducible show wpAny _ _ (PySem.truthy (Value.str (Leaf.nm _) _)) _ _ _); refine truthy_nm ?_; intro _))
local macro_rules | `(tactic| walk_at "call builtin:len") => `(tactic| (k_here; (with_reducible show wpAny _ _ (call (Value.builtin "len") [Value.ref _] []) _ _ _); refine' lenB ?k1 ?k2 ?k3 ?_; (case k1 => k_asm); (case k2 => assumption); (case k3 => assumption); intro t' k'))
local macro_rules | `(tactic| walk_at "call type:zip") => `(tactic| (k_here; refine Hold.mk ?_))
local macro_rules | `(tactic| walk_at "compareOp Lt ref") => `(tactic| (k_here; (with_reducible show wpAny _ _ (compareOp CmpOp.Lt (Value.ref _) (Value.ref _)) _ _ _); refine Hold.mk ?_))
local macro_rules | `(tactic| walk_at "exec For Name Call cons nil") => `(tactic| (k_here; refine Hold.mk ?_))
local macro_rules | `(tactic| walk_at "exec For Name Name cons nil") => `(tactic| (k_here; refine Hold.mk ?_))
local macro_rules | `(tactic| walk_at "exec For Name Attribute cons nil") => `(tactic| (k_here; refine Hold.mk ?_))
local macro_rules | `(tactic| walk_at "exec For Name Subscript cons nil") => `(tactic| (k_here; refine Hold.mk ?_))
local macro_rules | `(tactic| walk_at "exec For Tuple Call cons nil") => `(tactic| (k_here; refine Hold.mk ?_))
local macro_rules | `(tactic| walk_at "exec For Name Tuple cons nil") => `(tactic| (k_here; refine Hold.mk ?_))
local macro_rules | `(tactic| walk_at "exec For Name Call") => `(tactic| (k_here; refine Hold.mk ?_))
local macro_rules | `(tactic| walk_at "exec For Name Name") => `(tactic| (k_here; refine Hold.mk ?_))
local macro_rules | `(tactic| walk_at "exec For Tuple Call") => `(tactic| (k_here; refine Hold.mk ?_))
local macro_rules | `(tactic| walk_at "exec While Compare cons nil") => `(tactic| (k_here; refine Hold.mk ?_))
local macro_rules | `(tactic| walk_at "exec While BoolOp cons nil") => `(tactic| (k_here; refine Hold.mk ?_))
local macro_rules | `(tactic| walk_at "exec While Compare") => `(tactic| (k_here; refine Hold.mk ?_))
local macro_rules | `(tactic| walk_at "exec While BoolOp") => `(tactic| (k_here; refine Hold.mk ?_))
local macro_rules | `(tactic| k_inst) => `(tactic| (first | (refine' instBase ?F ?h1 ?h2; (case F => k_asm); (case h1 => assumption); (case h2 => assumption)) | (refine' instBL ?F ?N ?h1 ?h2; (case F => k_asm); (case N => k_asm); (case h1 => assumption); (case h2 => k_mem))))
local macro_rules | `(tactic| walk_at "wpAt") => `(tactic| (dsimp only; ks_step "execs cons"; refine ks_wpAt_execs_cons ?_))
local macro_rules | `(tactic| walk_at "wpAt") => `(tactic| (ks_step "execs cons"; refine ks_wpAt_execs_cons ?_))
local macro_rules | `(tactic| walk_at "wpAt") => `(tactic| (ks_step "exec Expr"; with_unfolding_all refine ks_wpAt_Expr_any ?_))
local macro_rules | `(tactic| walk_at "wpAt") => `(tactic| (ks_step "exec If"; with_unfolding_all refine ks_wpAt_If ?_))
local macro_rules | `(tactic| walk_at "wpAt") => `(tactic| (ks_step "eval Call"; with_unfolding_all refine ks_wpAt_MethodCall ?_))
local macro_rules | `(tactic| walk_at "wpAt") => `(tactic| (ks_step "attributeBase Call"; k_here; k_dflt (with_unfolding_all refine ksN (by k_asm) (by k_asm) (by k_asm) (by k_asm) (by k_is) (by rfl) (by rfl) (by k_inst) (by k_is) (by rfl) (ProgOk.file (by assumption)) (by k_is) (by k_is) (by k_is) (by k_is) (by decide) (by rfl) (by rfl) (by rfl) (by rfl) (ProgOk.sup (by assumption)) (by first | boot_by_name | rfl | kernel_rfl) ?_; intro so' h' F' N' l1; (try k_lt l1))))
local macro_rules | `(tactic| walk_at "call ref") => `(tactic| (k_here; k_dflt (with_reducible show wpAny _ _ (call (Value.ref _) [_] []) _ _ _); refine Hold.mk ?_))
local macro_rules | `(tactic| walk_at "call ref") => `(tactic| (k_here; k_dflt (with_reducible show wpAny _ _ (call (Value.ref _) [_, _] []) _ _ _); refine Hold.mk ?_))
local macro_rules | `(tactic| walk_at "call ref") => `(tactic| (k_here; k_dflt (with_reducible show wpAny _ _ (call (Value.ref _) [_, _, _] []) _ _ _); refine Hold.mk ?_))
local macro_rules | `(tactic| walk_at "eval ListComp") => `(tactic| (k_here; refine Hold.mk ?_))
local macro_rules | `(tactic| walk_at "exec Assign cons ListComp") => `(tactic| (k_here; refine Hold.mk ?_))
local macro_rules | `(tactic| walk_at "call type:range") => `(tactic| (k_here; refine Hold.mkG (n := 1) (by assumption) ?_))
local macro_rules | `(tactic| walk_at "call type:enumerate") => `(tactic| (k_here; refine Hold.mkG (n := 2) (by assumption) ?_))
local macro_rules | `(tactic| walk_at "call builtin:list.append") => `(tactic| (k_here; refine Hold.mkG (n := 2) (by assumption) ?_))
local macro_rules | `(tactic| walk_at "subscriptTail") => `(tactic| (k_here; (with_reducible show wpAny _ _ (subscriptTail _ _ (Value.ref _) (Value.int _ _)) _ _ _); refine Hold.mkG (n := 1) (by assumption) ?_))
local macro_rules | `(tactic| walk_at "subscriptTail Name Constant ref int") => `(tactic| (k_here; (with_reducible show wpAny _ _ (subscriptTail _ _ (Value.ref _) (Value.int _ _)) _ _ _); refine Hold.mkG (n := 1) (by assumption) ?_))
local macro_rules | `(tactic| walk_at "subscriptTail Name BinOp ref int") => `(tactic| (k_here; (with_reducible show wpAny _ _ (subscriptTail _ _ (Value.ref _) (Value.int _ _)) _ _ _); refine Hold.mkG (n := 1) (by assumption) ?_))
local macro_rules | `(tactic| walk_at "subscriptTail Name Name ref int") => `(tactic| (k_here; (with_reducible show wpAny _ _ (subscriptTail _ _ (Value.ref _) (Value.int _ _)) _ _ _); refine Hold.mkG (n := 1) (by assumption) ?_))
local macro_rules | `(tactic| walk_at "subscriptTail Call Name cons nil Constant ref int") => `(tactic| (k_here; (with_reducible show wpAny _ _ (subscriptTail _ _ (Value.ref _) (Value.int _ _)) _ _ _); refine Hold.mkG (n := 1) (by assumption) ?_))
local macro_rules | `(tactic| walk_at "subscriptTail Attribute Name Constant ref int") => `(tactic| (k_here; (with_reducible show wpAny _ _ (subscriptTail _ _ (Value.ref _) (Value.int _ _)) _ _ _); refine Hold.mkG (n := 1) (by assumption) ?_))
local macro_rules | `(tactic| walk_at "subscriptTail Constant str BinOp str int") => `(tactic| (k_here; (with_reducible show wpAny _ _ (subscriptTail _ _ (Value.ref _) (Value.int _ _)) _ _ _); refine Hold.mkG (n := 1) (by assumption) ?_))
local macro_rules | `(tactic| walk_at "subscriptTail Constant str Name str int") => `(tactic| (k_here; (with_reducible show wpAny _ _ (subscriptTail _ _ (Value.ref _) (Value.int _ _)) _ _ _); refine Hold.mkG (n := 1) (by assumption) ?_))
local macro_rules | `(tactic| walk_at "subscriptTail Name Attribute ref str") => `(tactic| (k_here; (with_reducible show wpAny _ _ (subscriptTail _ _ (Value.ref _) (Value.int _ _)) _ _ _); refine Hold.mkG (n := 1) (by assumption) ?_))
local macro_rules | `(tactic| walk_at "subscriptTail Name Subscript ref str") => `(tactic| (k_here; (with_reducible show wpAny _ _ (subscriptTail _ _ (Value.ref _) (Value.int _ _)) _ _ _); refine Hold.mkG (n := 1) (by assumption) ?_))
local macro_rules | `(tactic| walk_at "subscriptTail") => `(tactic| (k_here; (with_reducible show wpAny _ _ (subscriptTail _ _ (Value.str _ _) (Value.int _ _)) _ _ _); refine Hold.mkG (n := 3) (by assumption) ?_))
local macro_rules | `(tactic| walk_at "subscriptTail Name Constant ref int") => `(tactic| (k_here; (with_reducible show wpAny _ _ (subscriptTail _ _ (Value.str _ _) (Value.int _ _)) _ _ _); refine Hold.mkG (n := 3) (by assumption) ?_))
local macro_rules | `(tactic| walk_at "subscriptTail Name BinOp ref int") => `(tactic| (k_here; (with_reducible show wpAny _ _ (subscriptTail _ _ (Value.str _ _) (Value.int _ _)) _ _ _); refine Hold.mkG (n := 3) (by assumption) ?_))
local macro_rules | `(tactic| walk_at "subscriptTail Name Name ref int") => `(tactic| (k_here; (with_reducible show wpAny _ _ (subscriptTail _ _ (Value.str _ _) (Value.int _ _)) _ _ _); refine Hold.mkG (n := 3) (by assumption) ?_))
local macro_rules | `(tactic| walk_at "subscriptTail Call Name cons nil Constant ref int") => `(tactic| (k_here; (with_reducible show wpAny _ _ (subscriptTail _ _ (Value.str _ _) (Value.int _ _)) _ _ _); refine Hold.mkG (n := 3) (by assumption) ?_))
local macro_rules | `(tactic| walk_at "subscriptTail Attribute Name Constant ref int") => `(tactic| (k_here; (with_reducible show wpAny _ _ (subscriptTail _ _ (Value.str _ _) (Value.int _ _)) _ _ _); refine Hold.mkG (n := 3) (by assumption) ?_))
local macro_rules | `(tactic| walk_at "subscriptTail Constant str BinOp str int") => `(tactic| (k_here; (with_reducible show wpAny _ _ (subscriptTail _ _ (Value.str _ _) (Value.int _ _)) _ _ _); refine Hold.mkG (n := 3) (by assumption) ?_))
local macro_rules | `(tactic| walk_at "subscriptTail Constant str Name str int") => `(tactic| (k_here; (with_reducible show wpAny _ _ (subscriptTail _ _ (Value.str _ _) (Value.int _ _)) _ _ _); refine Hold.mkG (n := 3) (by assumption) ?_))
local macro_rules | `(tactic| walk_at "subscriptTail Name Attribute ref str") => `(tactic| (k_here; (with_reducible show wpAny _ _ (subscriptTail _ _ (Value.str _ _) (Value.int _ _)) _ _ _); refine Hold.mkG (n := 3) (by assumption) ?_))
local macro_rules | `(tactic| walk_at "subscriptTail Name Subscript ref str") => `(tactic| (k_here; (with_reducible show wpAny _ _ (subscriptTail _ _ (Value.str _ _) (Value.int _ _)) _ _ _); refine Hold.mkG (n := 3) (by assumption) ?_))
local macro_rules | `(tactic| walk_at "compareOp Eq ref ref") => `(tactic| (k_here; refine Hold.mkG (n := 3) (by assumption) ?_))
local macro_rules | `(tactic| walk_at "compareOp NotEq ref ref") => `(tactic| (k_here; refine Hold.mkG (n := 3) (by assumption) ?_))
local macro_rules | `(tactic| walk_at "compareOp NotEq ref") => `(tactic| (k_here; refine Hold.mkG (n := 3) (by assumption) ?_))
local macro_rules | `(tactic| walk_at "compareOp NotEq") => `(tactic| (k_here; refine Hold.mkG (n := 3) (by assumption) ?_))
local macro_rules | `(tactic| walk_at "eval Name") => `(tactic| (k_here; k_inBlock; k_dflt (refine' nameG_B ?k0 ?k1 ?k2 ?e ?v ?n ?_ ?g ?b ?k ?x ?d; (case g => rfl); (case b => rfl); (case k => rfl); (case x => rfl); (case d => decide); (case k0 => k_asm); (case k1 => k_asm); (case k2 => k_asm); (case e => k_is); (case v => boot_fast); (case n => decide); k_whole)))
local macro_rules | `(tactic| walk_at "binaryOp Add ref ref") => `(tactic| (k_here; refine Hold.mkG (n := 4) (by assumption) ?_))
local macro_rules | `(tactic| walk_at "eval DictComp") => `(tactic| (k_here; refine Hold.mkG (n := 5) (by assumption) ?_))
local macro_rules | `(tactic| walk_at "eval Dict") => `(tactic| (k_here; refine Hold.mkG (n := 7) (by assumption) ?_))
local macro_rules | `(tactic| walk_at "inplaceOp Add ref ref") => `(tactic| (k_here; refine Hold.mkG (n := 6) (by assumption) ?_))
local macro_rules | `(tactic| walk_at "subscriptTail") => `(tactic| (k_here; (with_reducible show wpAny _ _ (subscriptTail _ _ (Value.ref _) (Value.str _ _)) _ _ _); refine Hold.mkG (n := 6) (by assumption) ?_))
local macro_rules | `(tactic| walk_at "subscriptTail Name Constant ref int") => `(tactic| (k_here; (with_reducible show wpAny _ _ (subscriptTail _ _ (Value.ref _) (Value.str _ _)) _ _ _); refine Hold.mkG (n := 6) (by assumption) ?_))
local macro_rules | `(tactic| walk_at "subscriptTail Name BinOp ref int") => `(tactic| (k_here; (with_reducible show wpAny _ _ (subscriptTail _ _ (Value.ref _) (Value.str _ _)) _ _ _); refine Hold.mkG (n := 6) (by assumption) ?_))
local macro_rules | `(tactic| walk_at "subscriptTail Name Name ref int") => `(tactic| (k_here; (with_reducible show wpAny _ _ (subscriptTail _ _ (Value.ref _) (Value.str _ _)) _ _ _); refine Hold.mkG (n := 6) (by assumption) ?_))
local macro_rules | `(tactic| walk_at "subscriptTail Call Name cons nil Constant ref int") => `(tactic| (k_here; (with_reducible show wpAny _ _ (subscriptTail _ _ (Value.ref _) (Value.str _ _)) _ _ _); refine Hold.mkG (n := 6) (by assumption) ?_))
local macro_rules | `(tactic| walk_at "subscriptTail Attribute Name Constant ref int") => `(tactic| (k_here; (with_reducible show wpAny _ _ (subscriptTail _ _ (Value.ref _) (Value.str _ _)) _ _ _); refine Hold.mkG (n := 6) (by assumption) ?_))
local macro_rules | `(tactic| walk_at "subscriptTail Constant str BinOp str int") => `(tactic| (k_here; (with_reducible show wpAny _ _ (subscriptTail _ _ (Value.ref _) (Value.str _ _)) _ _ _); refine Hold.mkG (n := 6) (by assumption) ?_))
local macro_rules | `(tactic| walk_at "subscriptTail Constant str Name str int") => `(tactic| (k_here; (with_reducible show wpAny _ _ (subscriptTail _ _ (Value.ref _) (Value.str _ _)) _ _ _); refine Hold.mkG (n := 6) (by assumption) ?_))
local macro_rules | `(tactic| walk_at "subscriptTail Name Attribute ref str") => `(tactic| (k_here; (with_reducible show wpAny _ _ (subscriptTail _ _ (Value.ref _) (Value.str _ _)) _ _ _); refine Hold.mkG (n := 6) (by assumption) ?_))
local macro_rules | `(tactic| walk_at "subscriptTail Name Subscript ref str") => `(tactic| (k_here; (with_reducible show wpAny _ _ (subscriptTail _ _ (Value.ref _) (Value.str _ _)) _ _ _); refine Hold.mkG (n := 6) (by assumption) ?_))
local macro_rules | `(tactic| walk_at "call ref") => `(tactic| (k_here; k_dflt (with_reducible show wpAny _ _ (call (Value.ref _) [_, _, _] [_, _]) _ _ _); refine Hold.mk ?_))
local macro_rules | `(tactic| walk_at "subscriptTail Name Slice ref ref") => `(tactic| (k_here; refine Hold.mk ?_))
local macro_rules | `(tactic| walk_at "setItem ref str ref") => `(tactic| (k_here; refine Hold.mk ?_))
local macro_rules | `(tactic| walk_at "assign Tuple cons ref") => `(tactic| (k_here; refine Hold.mk ?_))
local macro_rules | `(tactic| walk_at "call builtin:len") => `(tactic| (k_here; refine Hold.mk ?_))
variable {prog : Program} {w : World} {A : Around} {s : Shared} {p : Program} {loose : List Str} {mg mb : Str → Option Value} {Q E : Value → Shared → Prop}
set_option maxHeartbeats 40000000
theorem law_c {rs n r : Nat} {ob : Obj} {vs : List Value} {ns : List Int} (h4 : r = 474) (P : ProgOk prog) (X : (Mine.frag.heap_1 w.params).In (less s.heap r)) (T : TopRead p loose mg mb (less s.heap r)) (B : Bm mg (less s.heap r)) (hob : s.heap.get? r = some ob) (ht : Tb s.heap)
    (hr : (less s.heap r).get? rs = some (listOf vs.toArray n)) (hi : IntsAre vs ns) (h63 : ns.length ≤ 63) (hh : A.handled = none) (hdp : A.depth + 400 < recursionLimit) (hu : A.units + 2000 < cLine)
    (hQ : ∀ h' tk g', (less s.heap r).StaysIn h' → Tb h' → GK s.gens g' → Q (.bool true) { s with heap := h', toks := tk, gens := g' }) :
    wpAny (model prog w) A (call (.ref 856) [.ref rs] []) Q E s := by
  have low : (less s.heap r).StaysIn s.heap := fun b o e => less_of e
  refine useCall (enterC (r := r) (binds := [("script", .ref rs)]) (m₀ := fun y => if y = ("script" : Str) then some (.ref rs) else none) (fun L => [("values", L + 1 + 1 + 1 + 1 + 1), ("road", L + 1 + 1 + 1 + 1), ("leaves", L + 1 + 1 + 1), ("times", L + 1 + 1), ("numbers", L + 1)]) X hob (T.nolimit.keeps low) (by omega) (by k_is) (by k_is) (BindsTo.of_eq rfl) (fun n x hx => by rw [List.mem_singleton.mp hx]; exact .inl rfl) (by decide) (fun _ => by with_unfolding_all rfl) (fun _ => by with_unfolding_all rfl) (fun _ _ => by with_unfolding_all rfl) ?_)
  intro L h₁ tk₁ cells F N Y l474
  have l474 : @LT.lt Nat _ r L := l474
  have Y' := kc_five Y
  obtain ⟨c1, c2, c3, c4, c5, rfl, d1, d2, d3, d4, d5⟩ := Y'
  simp only [List.cons_append, List.nil_append] at N
  (try k_fold)
  k_steps
  refine kmk_slice_ints (s := { s with heap := h₁, toks := _ }) (c := (ns.take 9).length) F N ⟨_, F.keep _ _ hr, rfl, n, rfl⟩ .none (.int 9 _) hi (kmk_upto hi (by omega)) rfl (fun D ws h₂ F₂ N₂ lD hws _ _ => ?_) (by with_unfolding_all rfl) (by intro _; with_unfolding_all rfl) (by have := hi.length; rw [List.size_toArray, sizeLine_eq]; omega)
  k_lt lD
  k_steps
  rename Fr _ _ _ _ => F₃
  rename News _ _ _ _ => N₃
  rename IntsAre _ (_ ++ _) => hnums
  rename_i nl ws' _ lo _ c5' e5
  have N₀ : News (less s.heap r) L _ (led L r c1 c2 c3 c4 c5' ob [(nl, listOf ws'.toArray 0)]) := fun q hq => N₃ q (by
    simp only [List.mem_cons, List.not_mem_nil, or_false] at hq ⊢
    rcases hq with h | h | h | h | h | h | h <;> simp [h])
  have o₀ : OffC L r [(nl, listOf ws'.toArray 0)] := fun q hq => by
    rw [List.mem_singleton.mp hq]
    refine ⟨?_, ?_, ?_, ?_, ?_, ?_⟩ <;> (show @Ne Nat nl _; omega)
  clear N₃ lo lD
  refine Hold.intro (arity_c (X.keeps F₃.keep) (T.keeps F₃.keep) (by simp only [depth_deeper]; omega) ?_)
  intro ax ad h₄ tk₄ st₄ a1 a2 a3 a4
  obtain ⟨f₄, F₄, N₄, o₄, s₄, g₄⟩ := ledAdd (gs := [(ax, _), (ad, _)]) F₃ N₀ o₀ st₄ (fun q hq => by
    rcases List.mem_cons.mp hq with rfl | hq
    · exact ⟨a3, a1⟩
    · rw [List.mem_singleton.mp hq]; exact ⟨a4, a2⟩)
  have hnl := s₄ _ (.head _)
  have ga := g₄ _ (.head _)
  have gd := g₄ _ (.tail _ (.head _))
  clear F₃ N₀ o₀ s₄ g₄ st₄ a1 a2
  k_steps
  refine Hold.intro (kind_c (k := true) (ad := ad) (X.keeps F₄.keep) (T.keeps F₄.keep) a3 a4 (by simp only [depth_deeper]; omega) (by simp only [units_deeper]; omega) ?_)
  intro kp h₅ tk₅ f₅ st₅ fr₅ hkp
  obtain ⟨fs1, F₅, N₅, o₅, s₅, g₅⟩ := ledAdd F₄ N₄ o₄ st₅ fr₅
  have hkp := (hkp (FS f₄) ga gd).mono (more_sub g₅ s₅)
  have hnl := s₅ _ hnl
  clear F₄ N₄ o₄ s₅ g₅ st₅ fr₅ ga gd a3 a4
  k_steps
  rename Fr _ _ _ _ => F₆
  rename News _ _ _ _ => N₆
  refine Hold.intro (arity_c (X.keeps F₆.keep) (T.keeps F₆.keep) (by simp only [depth_deeper]; omega) ?_)
  intro ax2 ad2 h₇ tk₇ st₇ a1 a2 a3 a4
  obtain ⟨f₇, F₇, N₇, o₇, s₇, g₇⟩ := ledAdd (gs := [(ax2, _), (ad2, _)]) F₆ N₆ o₅ st₇ (fun q hq => by
    rcases List.mem_cons.mp hq with rfl | hq
    · exact ⟨a3, a1⟩
    · rw [List.mem_singleton.mp hq]; exact ⟨a4, a2⟩)
  have hkp := hkp.mono (FS.sub s₇)
  have hnl := s₇ _ hnl
  have ga := g₇ _ (.head _)
  have gd := g₇ _ (.tail _ (.head _))
  clear F₆ N₆ o₅ s₇ g₇ st₇ a1 a2
  k_steps
  refine Hold.intro (kind_c (k := false) (ad := ad2) (X.keeps F₇.keep) (T.keeps F₇.keep) a3 a4 (by simp only [depth_deeper]; omega) (by simp only [units_deeper]; omega) ?_)
  intro kt h₈ tk₈ f₈ st₈ fr₈ hkt
  obtain ⟨fs2, F₈, N₈, o₈, s₈, g₈⟩ := ledAdd F₇ N₇ o₇ st₈ fr₈
  have hkt := (hkt (FS f₇) ga gd).mono (more_sub g₈ s₈)
  have hkp := hkp.mono (FS.sub s₈)
  have hnl := s₈ _ hnl
  clear F₇ N₇ o₇ s₈ g₈ st₈ fr₈ ga gd a3 a4
  k_steps
  refine storeX_C (c := L + 1 + 1) F₈ N₈ rfl (upd4 o₈ l474) d4 (fun h₉ c4' F₉ N₉ e4 => ?_) rfl rfl
  clear F₈ N₈
  k_steps
  refine Hold.intro (symbol_f (l := .a) rfl P (X.keeps F₉.keep) (T.keeps F₉.keep) (by simp only [depth_deeper]; omega) ?_)
  intro va hh0 tkk0 gs0 st fr hva
  obtain ⟨fl0, G0, M0, oo0, sb, gb⟩ := ledAdd F₉ N₉ o₈ st fr
  have hva := (hva (FS fs2)).mono (more_sub gb sb)
  have hkp := hkp.mono (FS.sub sb)
  have hkt := hkt.mono (FS.sub sb)
  have hnl := sb _ hnl
  clear F₉ N₉ o₈ sb gb st fr
  k_steps
  refine Hold.intro (symbol_f (l := .b) rfl P (X.keeps G0.keep) (T.keeps G0.keep) (by simp only [depth_deeper]; omega) ?_)
  intro vb hh1 tkk1 gs1 st fr hvb
  obtain ⟨fl1, G1, M1, oo1, sb, gb⟩ := ledAdd G0 M0 oo0 st fr
  have hvb := (hvb (FS fl0)).mono (more_sub gb sb)
  have hkp := hkp.mono (FS.sub sb)
  have hkt := hkt.mono (FS.sub sb)
  have hnl := sb _ hnl
  have hva := hva.mono (FS.sub sb)
  clear G0 M0 oo0 sb gb st fr
  k_steps
  refine Hold.intro (symbol_f (l := .c) rfl P (X.keeps G1.keep) (T.keeps G1.keep) (by simp only [depth_deeper]; omega) ?_)
  intro vc hh2 tkk2 gs2 st fr hvc
  obtain ⟨fl2, G2, M2, oo2, sb, gb⟩ := ledAdd G1 M1 oo1 st fr
  have hvc := (hvc (FS fl1)).mono (more_sub gb sb)
  have hkp := hkp.mono (FS.sub sb)
  have hkt := hkt.mono (FS.sub sb)
  have hnl := sb _ hnl
  have hva := hva.mono (FS.sub sb)
  have hvb := hvb.mono (FS.sub sb)
  clear G1 M1 oo1 sb gb st fr
  k_steps
  refine Hold.intro (dot_c (l := .x) rfl P (X.keeps G2.keep) (T.keeps G2.keep) (by simp only [depth_deeper]; omega) ?_)
  intro vx hh3 tkk3 gs3 st fr hvx
  obtain ⟨fl3, G3, M3, oo3, sb, gb⟩ := ledAdd G2 M2 oo2 st fr
  have hvx := (hvx (FS fl2)).mono (more_sub gb sb)
  have hkp := hkp.mono (FS.sub sb)
  have hkt := hkt.mono (FS.sub sb)
  have hnl := sb _ hnl
  have hva := hva.mono (FS.sub sb)
  have hvb := hvb.mono (FS.sub sb)
  have hvc := hvc.mono (FS.sub sb)
  clear G2 M2 oo2 sb gb st fr
  k_steps
  refine Hold.intro (dot_c (l := .y) rfl P (X.keeps G3.keep) (T.keeps G3.keep) (by simp only [depth_deeper]; omega) ?_)
  intro vy hh4 tkk4 gs4 st fr hvy
  obtain ⟨fl4, G4, M4, oo4, sb, gb⟩ := ledAdd G3 M3 oo3 st fr
  have hvy := (hvy (FS fl3)).mono (more_sub gb sb)
  have hkp := hkp.mono (FS.sub sb)
  have hkt := hkt.mono (FS.sub sb)
  have hnl := sb _ hnl
  have hva := hva.mono (FS.sub sb)
  have hvb := hvb.mono (FS.sub sb)
  have hvc := hvc.mono (FS.sub sb)
  have hvx := hvx.mono (FS.sub sb)
  clear G3 M3 oo3 sb gb st fr
  obtain ⟨ra, rfl⟩ := hva.isRef
  obtain ⟨rb, rfl⟩ := hvb.isRef
  obtain ⟨rc, rfl⟩ := hvc.isRef
  obtain ⟨rx, rfl⟩ := hvx.isRef
  obtain ⟨ry, rfl⟩ := hvy.isRef
  k_steps
  rename Fr _ _ _ _ => F₁₀
  rename News _ _ _ _ => N₁₀
  rename_i ll _ lo
  have N₁₁ : News (less s.heap r) L _ (led L r c1 c2 c3 c4' c5' ob ((ll, listOf [Value.ref ra, Value.ref rb, Value.ref rc, Value.ref rx, Value.ref ry].toArray 0) :: fl4)) := fun q hq => N₁₀ q (by
    simp only [List.mem_cons] at hq ⊢
    rcases hq with h | h | h | h | h | h | h | h <;> simp [h])
  have o₁₁ : OffC L r ((ll, listOf [Value.ref ra, Value.ref rb, Value.ref rc, Value.ref rx, Value.ref ry].toArray 0) :: fl4) := OffC.app (fs := [_]) (fun q hq => by
    rw [List.mem_singleton.mp hq]
    refine ⟨?_, ?_, ?_, ?_, ?_, ?_⟩ <;> (show @Ne Nat ll _; omega)) oo4
  clear N₁₀ lo oo4
  refine storeX_C (c := L + 1 + 1 + 1) F₁₀ N₁₁ rfl (upd3 o₁₁ l474) d3 (fun h₁₂ c3' F₁₂ N₁₂ e3 => ?_) rfl rfl
  clear F₁₀ N₁₁
  k_steps
  refine Hold.intro ?_
  have stg1 : St 1 := .mk
  obtain ⟨nums, hnum, hlen9⟩ : ∃ nums, IntsAre ws' nums ∧ 9 ≤ nums.length := ⟨_, hnums, by simp⟩
  have hitem : ∀ i : Nat, i < 9 → ∃ z t, ws'[i]? = some (.int z t) := fun i hi => by
    obtain ⟨t, ht⟩ := hnum.get i (nums.getD i 0) (by rw [List.getD_eq_getElem?_getD, List.getElem?_eq_getElem (by omega)]; rfl)
    exact ⟨_, t, ht⟩
  obtain ⟨z0, t0, hz0⟩ := hitem 0 (by omega)
  have m0 : 0 ≤ z0.fmod 2 := Int.fmod_nonneg_of_pos _ (by decide)
  have m1 : z0.fmod 2 < 2 := Int.fmod_lt_of_pos _ (by decide)
  have hll : (ll, listOf [Value.ref ra, Value.ref rb, Value.ref rc, Value.ref rx, Value.ref ry].toArray 0) ∈ ((ll, listOf [Value.ref ra, Value.ref rb, Value.ref rc, Value.ref rx, Value.ref ry].toArray 0) :: fl4) := .head _
  obtain ⟨fs, hfs⟩ : ∃ fs, fs = ((ll, listOf [Value.ref ra, Value.ref rb, Value.ref rc, Value.ref rx, Value.ref ry].toArray 0) :: fl4) := ⟨_, rfl⟩
  have sub0 : ∀ p ∈ fl4, p ∈ fs := fun p hp => by rw [hfs]; exact .tail _ hp
  rw [← hfs] at hll N₁₂ o₁₁
  have hkp := hkp.mono (FS.sub sub0)
  have hkt := hkt.mono (FS.sub sub0)
  have hva := hva.mono (FS.sub sub0)
  have hvb := hvb.mono (FS.sub sub0)
  have hvc := hvc.mono (FS.sub sub0)
  have hvx := hvx.mono (FS.sub sub0)
  have hvy := hvy.mono (FS.sub sub0)
  have hnl := sub0 _ hnl
  clear hfs sub0
  obtain ⟨N, hN⟩ : ∃ N : Nat, z0.fmod 2 + 2 = (N : Int) := ⟨(z0.fmod 2 + 2).toNat, by omega⟩
  refine assignRC (a := 0) (b := z0.fmod 2 + 2) (n := N) (fun ys news => ∃ (fs' : List (Addr × Obj)) (terms : List (List Leaf)), news = led L r c1 c2 c3' c4' c5' ob fs' ∧ OffC L r fs' ∧ (∀ q ∈ fs, q ∈ fs') ∧ IsTerms (FS fs') ys terms ∧ ∀ t ∈ terms, 1 ≤ t.length ∧ t.length ≤ 3) F₁₂
    (by with_unfolding_all rfl) hh (by with_unfolding_all rfl) ?_ ?_ ?_ (by with_unfolding_all rfl) (fun _ => by with_unfolding_all rfl) (fun _ => by with_unfolding_all rfl) (by with_unfolding_all rfl) (by decide) (fun _ _ => by with_unfolding_all rfl) (by with_unfolding_all rfl) (by with_unfolding_all rfl) ?_ ?_ ?_
  · rw [hN]; exact small_zero (by omega)
  · rw [rangeSize_one, hN]
    split
    · omega
    · have := hN; omega
  · rw [sizeLine_eq]; omega
  · k_steps
    refine Hold.intro (subB N₁₂ (mem_led hnl) (by omega) (by omega) hz0 ?_)
    k_steps
    refine Hold.intro (rangeNew F₁₂ N₁₂ (fun rr h' tk u v F' N' hr => ?_))
    k_steps
    exact ⟨_, _, _, _, _, _, _, rfl, rfl, F', N', hr, fs, [], rfl, o₁₁, fun _ h => h, .nil, fun _ h => by cases h⟩
  · rintro v ys news I oI C oC K oK D h tk ⟨t, rfl⟩ hltN ⟨fs', terms, rfl, hoff, hsub, hterms, hok⟩ hoK F N off
    obtain ⟨z1, t1, hz1⟩ := hitem (1 + ys.length) (by omega)
    have q0 : 0 ≤ z1.fmod 3 := Int.fmod_nonneg_of_pos _ (by decide)
    have q1 : z1.fmod 3 < 3 := Int.fmod_lt_of_pos _ (by decide)
    obtain ⟨M, hM⟩ : ∃ M : Nat, z1.fmod 3 + 1 = (M : Int) := ⟨(z1.fmod 3 + 1).toNat, by omega⟩
    have hz1' : ws'[((1 : Int) + (0 + (ys.length : Int))).toNat]? = some (.int z1 t1) := by
      rw [show ((1 : Int) + (0 + (ys.length : Int))).toNat = 1 + ys.length by omega]; exact hz1
    have hnl' := hsub _ hnl
    k_steps
    refine Hold.intro (compR (a := 0) (b := z1.fmod 3 + 1) (n := M) (fun us news' => news' = (I, oI) :: (C, oC) :: (K, oK) :: (D, LCg.lst ys) :: led L r c1 c2 c3' c4' c5' ob fs' ∧ ∃ is, IntsAre us is ∧ ∀ i ∈ is, 0 ≤ i ∧ i < 5) F hh ?_ ?_ ?_ (by with_unfolding_all rfl) (by decide) (by with_unfolding_all rfl) (by decide) (by with_unfolding_all rfl) ?_ ?_ ?_)
    · rw [hM]; exact small_zero (by omega)
    · rw [rangeSize_one, hM]
      split
      · omega
      · have := hM; omega
    · rw [sizeLine_eq]; omega
    · k_steps
      refine Hold.intro (subB N (.tail _ (.tail _ (.tail _ (.tail _ (mem_led hnl'))))) (by omega) (by omega) hz1' ?_)
      k_steps
      refine Hold.intro (rangeNew F N (fun rr h' tk u v F' N' hr => ?_))
      k_steps
      exact ⟨_, _, _, _, _, _, _, rfl, rfl, F', N', hr, rfl, [], .nil, fun _ h => by cases h⟩
    · rintro v us news I2 oI2 C2 oC2 D2 m2 h2 tk2 ⟨t2, rfl⟩ hltM ⟨rfl, is, his, hib⟩ hC hm F N off2 ne1 ne2 ne3
      have hj : us.length = 0 ∨ us.length = 1 ∨ us.length = 2 := by omega
      rcases hj with e | e | e
      · have hm' : m2 "j" = some (.int 0 t2) := by rw [hm, e]; rfl
        clear hm
        k_steps
        refine Hold.intro (subB N (.tail _ (.tail _ (.tail _ (.tail _ (.tail _ (.tail _ (.tail _ (mem_led hnl')))))))) (by omega) (by omega) hz1' ?_)
        k_steps
        rename Fr _ _ _ _ => F'
        refine ⟨_, _, _, rfl, F', N, off2, rfl, is ++ [_], intsSnoc his, fun i hi => ?_⟩
        rcases List.mem_append.mp hi with h | h
        · exact hib i h
        · rw [List.mem_singleton.mp h]
          exact ⟨Int.fmod_nonneg_of_pos _ (by decide), Int.fmod_lt_of_pos _ (by decide)⟩
      · have hm' : m2 "j" = some (.int 1 t2) := by rw [hm, e]; rfl
        clear hm
        k_steps
        refine Hold.intro (subB N (.tail _ (.tail _ (.tail _ (.tail _ (.tail _ (.tail _ (.tail _ (mem_led hnl')))))))) (by omega) (by omega) hz1' ?_)
        k_steps
        rename Fr _ _ _ _ => F'
        refine ⟨_, _, _, rfl, F', N, off2, rfl, is ++ [_], intsSnoc his, fun i hi => ?_⟩
        rcases List.mem_append.mp hi with h | h
        · exact hib i h
        · rw [List.mem_singleton.mp h]
          exact ⟨Int.fmod_nonneg_of_pos _ (by decide), Int.fmod_lt_of_pos _ (by decide)⟩
      · have hm' : m2 "j" = some (.int 2 t2) := by rw [hm, e]; rfl
        clear hm
        k_steps
        refine Hold.intro (subB N (.tail _ (.tail _ (.tail _ (.tail _ (.tail _ (.tail _ (.tail _ (mem_led hnl')))))))) (by omega) (by omega) hz1' ?_)
        k_steps
        rename Fr _ _ _ _ => F'
        refine ⟨_, _, _, rfl, F', N, off2, rfl, is ++ [_], intsSnoc his, fun i hi => ?_⟩
        rcases List.mem_append.mp hi with h | h
        · exact hib i h
        · rw [List.mem_singleton.mp h]
          exact ⟨Int.fmod_nonneg_of_pos _ (by decide), Int.fmod_lt_of_pos _ (by decide)⟩
    · rintro D2 h2 tk2 us news2 hul ⟨rfl, is, his, hib⟩ F2 N2 off2
      have d2 := off1_mem off2
      have hl2 : is.length = us.length := his.length.symm
      have e1 : (is.map leafAt).map Leaf.ix = is := by
        rw [List.map_map]
        conv => rhs; rw [← List.map_id is]
        exact List.map_congr_left fun i hi => leafAt_ix (hib i hi).1 (hib i hi).2
      have sub2 : ∀ q ∈ fs', q ∈ (D2, LCg.lst us) :: fs' := fun q hq => .tail _ hq
      refine ⟨h2, tk2, led L r c1 c2 c3' c4' c5' ob ((D2, LCg.lst us) :: fs'), rfl, F2, fun q hq => N2 q ?_, fun q hq => ?_, (D2, LCg.lst us) :: fs', terms ++ [is.map leafAt], rfl, OffC.app (fs := [_]) (fun q hq => ?_) hoff, fun q hq => sub2 q (hsub q hq), (hterms.mono (FS.sub sub2)).snoc ⟨D2, us.length, us, rfl, .head _, by rw [e1]; exact his⟩, fun t ht => ?_⟩
      · simp only [List.mem_cons] at hq ⊢
        rcases hq with h | h | h | h | h | h | h | h | h | h | h | h <;> simp [h]
      · simp only [List.mem_cons] at hq
        have dI := d2 _ (.head _)
        have dC := d2 _ (.tail _ (.head _))
        have dK := d2 _ (.tail _ (.tail _ (.head _)))
        have dD := d2 _ (.tail _ (.tail _ (.tail _ (.head _))))
        rcases hq with h | h | h | h | h | h | h | h
        · exact off q (by simp [h])
        · exact off q (by simp [h])
        · exact off q (by simp [h])
        · exact off q (by simp [h])
        · exact off q (by simp [h])
        · exact off q (by simp [h])
        · rw [h]; exact ⟨dI.symm, dC.symm, dK.symm, dD.symm⟩
        · exact off q (mem_led h)
      · rw [List.mem_singleton.mp hq]
        exact ⟨(d2 _ (.tail _ (.tail _ (.tail _ (.tail _ (.head _)))))).symm, (d2 _ (.tail _ (.tail _ (.tail _ (.tail _ (.tail _ (.head _))))))).symm, (d2 _ (.tail _ (.tail _ (.tail _ (.tail _ (.tail _ (.tail _ (.head _)))))))).symm,
          (d2 _ (.tail _ (.tail _ (.tail _ (.tail _ (.tail _ (.tail _ (.tail _ (.head _))))))))).symm, (d2 _ (.tail _ (.tail _ (.tail _ (.tail _ (.tail _ (.tail _ (.tail _ (.tail _ (.head _)))))))))).symm, (d2 _ (.tail _ (.tail _ (.tail _ (.tail _ (.tail _ (.tail _ (.tail _ (.tail _ (.tail _ (.head _))))))))))).symm⟩
      · rcases List.mem_append.mp ht with h | h
        · exact hok t h
        · rw [List.mem_singleton.mp h, List.length_map]; omega
  · rintro D h tk ys news hl ⟨fs', terms, rfl, hoff, hsub, hterms, hok⟩ F N off
    have htl := hterms.length
    have h2 : 2 ≤ terms.length := by omega
    have h3 : terms.length ≤ 3 := by omega
    have hoff := OffC.app (fs := [(D, LCg.lst ys)]) (fun q hq => by
      rw [List.mem_singleton.mp hq]
      exact ⟨(off _ (.head _)).symm, (off _ (.tail _ (.head _))).symm, (off _ (.tail _ (.tail _ (.head _)))).symm, (off _ (.tail _ (.tail _ (.tail _ (.head _))))).symm, (off _ (.tail _ (.tail _ (.tail _ (.tail _ (.head _)))))).symm, (off _ (.tail _ (.tail _ (.tail _ (.tail _ (.tail _ (.head _))))))).symm⟩) hoff
    have hN2 : News (less s.heap r) L h (led L r c1 c2 c3' c4' c5' ob ([(D, LCg.lst ys)] ++ fs')) := fun q hq => N q (by
      simp only [List.mem_cons, List.cons_append, List.nil_append] at hq ⊢
      rcases hq with h | h | h | h | h | h | h | h <;> simp [h])
    obtain ⟨gs, hgs⟩ : ∃ gs, gs = [(D, LCg.lst ys)] ++ fs' := ⟨_, rfl⟩
    have hD : (D, LCg.lst ys) ∈ gs := hgs ▸ .head _
    have sub1 : ∀ q ∈ fs', q ∈ gs := fun q hq => by rw [hgs]; exact .tail _ hq
    have sub2 : ∀ q ∈ fs, q ∈ gs := fun q hq => sub1 q (hsub q hq)
    rw [← hgs] at hN2 hoff
    have hterms := hterms.mono (FS.sub sub1)
    have hkp := hkp.mono (FS.sub sub2)
    have hkt := hkt.mono (FS.sub sub2)
    have hva := hva.mono (FS.sub sub2)
    have hvb := hvb.mono (FS.sub sub2)
    have hvc := hvc.mono (FS.sub sub2)
    have hvx := hvx.mono (FS.sub sub2)
    have hvy := hvy.mono (FS.sub sub2)
    have hnl := sub2 _ hnl
    have hll := sub2 _ hll
    clear N off hsub o₁₁ N₁₂ F₁₂ hgs sub1 sub2 hz0 m0 m1 hN hnums hnum hlen9
    (try k_fold)
    k_steps
    refine Hold.intro ?_
    have stg2 : St 2 := .mk
    rename Fr _ _ _ _ => F₀
    rename News _ _ _ _ => N₀
    rename_i ml _ lo h₁₃
    have K : Kit w gs kp kt nl ll ra rb rc rx ry ws' := ⟨hnl, hll, hkp, hkt, hva, hvb, hvc, hvx, hvy⟩
    clear hnl hll hkp hkt hva hvb hvc hvx hvy
    obtain ⟨z4, t4, hz4⟩ := hitem 4 (by omega)
    obtain ⟨z5, t5, hz5⟩ := hitem 5 (by omega)
    have hoML : ∀ q ∈ gs, @Ne Nat q.1 ml := fun q hq => Nat.ne_of_lt (allLt_get gs lo.2.2.2.2.2.2 q hq)
    refine forTupleS (h₀ := less s.heap r) (L := L) (items := #[.int z4 t4, .int z5 t5]) (fun l i m news => ∃ (c2' : Obj) (u : Option Value) (fs' : List (Addr × Obj)) (mv : List Value) (n' : Nat), news = (ml, listOf mv.toArray n') :: led L r c1 c2' c3' c4' c5' ob fs' ∧ c2'.data = .cell u ∧ OffC L r fs' ∧ (∀ q ∈ fs', @Ne Nat q.1 ml) ∧ (∀ q ∈ gs, q ∈ fs') ∧
        (l, ({ cls := .type "tuple", data := .seq #[.int z4 t4, .int z5 t5] } : Obj)) ∈ fs' ∧ mv.length = i ∧ (∀ v ∈ mv, IsEx w.params (FS fs') v (sumE terms)) ∧
        ∀ y, y ≠ ("products" : Str) → m y = (if y = ("made" : Str) then some (.ref ml) else if y = ("terms" : Str) then some (.ref D) else if y = ("plus" : Str) then some (.ref kp) else if y = ("script" : Str) then some (.ref rs) else none)) ?_ ?_ ?_ ?_ hh (by with_unfolding_all rfl)
    · k_steps
      refine Hold.intro (subB N₀ (.tail _ (mem_led K.nums)) (by omega) (by omega) hz4 ?_)
      k_steps
      refine Hold.intro (subB N₀ (.tail _ (mem_led K.nums)) (by omega) (by omega) hz5 ?_)
      k_steps
      rename Fr _ _ _ _ => F₁
      rename News _ _ _ _ => N₁
      rename_i tt _ lt
      refine ⟨tt, rfl, _, _, _, _, rfl, F₁, fun q hq => N₁ q ?_, c2, none, (tt, ({ cls := .type "tuple", data := .seq #[.int z4 t4, .int z5 t5] } : Obj)) :: gs, [], 0, rfl, d2, OffC.app (fs := [_]) (fun q hq => ?_) hoff, fun q hq => ?_, fun q hq => .tail _ hq, .head _, rfl, (fun _ h => by cases h), fun y _ => rfl⟩
      · simp only [List.mem_cons] at hq ⊢
        rcases hq with h | h | h | h | h | h | h | h | h <;> simp [h]
      · rw [List.mem_singleton.mp hq]
        refine ⟨?_, ?_, ?_, ?_, ?_, ?_⟩ <;> (show @Ne Nat tt _; omega)
      · rcases List.mem_cons.mp hq with rfl | hq
        · show @Ne Nat tt ml; omega
        · exact hoML q hq
    · rintro l i m news h ⟨c2', u, fs', mv, n', rfl, hc2, hoC, hoM, hsub, hlt, hml, hmv, hm⟩ F N
      exact ⟨_, (N _ (.tail _ (mem_led hlt))).1, rfl, _, rfl⟩
    · rintro l i v m news it o h tk hv ⟨c2', u, fs', mv, n', rfl, hc2, hoC, hoM, hsub, hlt, hml, hmv, hm⟩ hn hit F N
      rw [mapOne hm] at F
      have nl4 : @Ne Nat it (L + 1 + 1 + 1 + 1) := (hn _ (.tail _ (.tail _ (.head _)))).symm
      refine storeX_C (c := L + 1 + 1 + 1 + 1) F N rfl (UpdF.tail (by k_ne) (UpdF.tail (by k_ne) (upd2 hoC l474))) hc2 (fun h₂ c2'' F₂ N₂ e2 => ?_) rfl rfl
      (try dsimp only at N₂)
      clear N F
      obtain ⟨zr, tr, hvr⟩ : ∃ z t, v = .int z t := by
        match i, hv with
        | 0, hv => simp at hv; exact ⟨_, _, hv.symm⟩
        | 1, hv => simp at hv; exact ⟨_, _, hv.symm⟩
        | k + 2, hv => simp at hv
      subst hvr
      have K' := K.mono hsub
      have hterms' := hterms.mono (FS.sub hsub)
      have hD' := hsub _ hD
      k_steps
      refine Hold.intro (assignEn (its := ys.toArray) (fun zs news => ∃ fs2, news = (it, o) :: (ml, listOf mv.toArray n') :: led L r c1 c2'' c3' c4' c5' ob fs2 ∧ OffC L r fs2 ∧ (∀ q ∈ fs2, @Ne Nat q.1 ml ∧ @Ne Nat q.1 it) ∧ (∀ q ∈ fs', q ∈ fs2) ∧ IsExs w.params (FS fs2) zs ((terms.take zs.length).map prodE)) F₂
        (by with_unfolding_all rfl) hh (by with_unfolding_all rfl) (by rw [List.size_toArray, sizeLine_eq]; omega) (by with_unfolding_all rfl) (by decide) (by with_unfolding_all rfl) (by decide) (by with_unfolding_all rfl) (by with_unfolding_all rfl) (by decide) (by with_unfolding_all rfl) (by with_unfolding_all rfl) ?_ ?_ ?_)
      · k_steps
        refine Hold.intro (enumNew (k := ys.length) F₂ N₂ (.tail _ (.tail _ (mem_led hD'))) ⟨_, _, rfl⟩ ⟨fs', rfl, hoC, fun q hq => ⟨hoM q hq, hn q (.tail _ (mem_led hq))⟩, fun _ h => h, by simpa using IsExs.nil⟩)
      · rintro tp v2 zs news own wr C oC D2 m2 h3 tk3 hv2 ⟨fs2, rfl, hoC2, hoM2, hsub2, hzs⟩ hC hm1 hm2 F3 N3 off3 hwr
        simp only [List.cons_append] at N3
        have K2 := K'.mono hsub2
        have hv2' : ys[zs.length]? = some v2 := by simpa using hv2
        obtain ⟨term, hterm, rl, nr, us, rfl, hrl, hus⟩ := hterms'.get hv2'
        have hrl := hsub2 _ hrl
        have htm := List.mem_of_getElem? hterm
        have hok1 := hok term htm
        have husl : us.length = term.length := by have := hus.length; rwa [List.length_map] at this
        k_steps
        rename Fr _ _ _ _ => F3
        refine Hold.intro (compL (its := us.toArray) (J := fun ws news => news = (C, oC) :: (D2, LCg.lst zs) :: (it, o) :: (ml, listOf mv.toArray n') :: led L r c1 c2'' c3' c4' c5' ob (fs2 ++ own) ∧ IsExs w.params (FS fs2) ws ((term.take ws.length).map .leaf)) F3 hh (by rw [List.size_toArray, sizeLine_eq]; omega) (by with_unfolding_all rfl) (by decide) (by with_unfolding_all rfl) (by decide) (by with_unfolding_all rfl) ?_ ?_ ?_)
        · k_steps
          exact ⟨rl, _, _, _, rfl, rfl, F3, N3, fun ws n' j => by rw [j.1]; exact .inr ⟨_, .tail _ (.tail _ (.tail _ (.tail _ (mem_led (List.mem_append_left _ hrl))))), rfl, _, rfl⟩, rfl, by simpa using IsExs.nil⟩
        · rintro v ws news I2 oI2 C2 oC2 D3 m3 h4 tk4 hv ⟨rfl, hws⟩ hC' hm' F4 N4 off4 e1 e2 e3
          have hv' : us[ws.length]? = some v := by simpa using hv
          have hlt : ws.length < term.length := by rw [← husl]; exact (List.getElem?_eq_some_iff.mp hv').1
          obtain ⟨l, hl⟩ : ∃ l, term[ws.length]? = some l := ⟨_, List.getElem?_eq_getElem hlt⟩
          obtain ⟨tl, htl'⟩ := hus.get ws.length l.ix (by rw [List.getElem?_map, hl]; rfl)
          rw [htl'] at hv'
          cases hv'
          obtain ⟨v', hv', hve⟩ := K2.leaf l
          have ir := ix_range l
          k_steps
          rename Fr _ _ _ _ => F4
          refine Hold.intro (subB N4 (.tail _ (.tail _ (.tail _ (.tail _ (.tail _ (.tail _ (.tail _ (mem_led (List.mem_append_left _ K2.lvs)))))))) ) ir.1 (by omega) hv' ?_)
          refine ⟨_, _, _, rfl, F4, N4, off4, rfl, ?_⟩
          rw [List.length_append, List.length_singleton, List.take_add_one, hl, Option.toList_some, List.map_append]
          exact hws.snoc hve
        · rintro D3 h4 tk4 ws news hwl ⟨rfl, hws⟩ F4 N4 off4
          rw [List.size_toArray, husl] at hwl
          rw [hwl, List.take_length] at hws
          k_steps
          rename Fr _ _ _ _ => F4
          obtain ⟨ps, q1, q2, q3⟩ := exsPairs hws
          have hpl : ps.length = term.length := by have := congrArg List.length q2; rwa [List.length_map, List.length_map] at this
          have hleaf : ∀ q ∈ ps, ∃ l, q.2 = .leaf l := fun q hq => by
            have := List.mem_map_of_mem (f := (·.2)) hq
            rw [q2] at this
            obtain ⟨l, _, e⟩ := List.mem_map.mp this
            exact ⟨l, e.symm⟩
          have hfl : flat false (ps.map (·.2)) = term.map .leaf := by rw [q2, flat_leafs]
          refine Hold.intro (road_c (S := FS fs2) (ps := ps) (M := 1) (k := false) (n := ws.length) P (X.keeps F4.keep) (T.keeps F4.keep) (FS.inL N4 fun q hq => .tail _ (.tail _ (.tail _ (.tail _ (.tail _ (mem_led (List.mem_append_left _ hq))))))) K2.times (by rw [q1]; exact (N4 _ (.head _)).1) q3 (by omega) (by omega) (by rw [hfl, List.length_map]; omega) (fun q hq => ?_) (fun f hf => ?_) (fun q hq => ?_) hh (by simp only [depth_deeper]; omega) (by simp only [units_deeper]; omega) ?_)
          · obtain ⟨l, e⟩ := hleaf q hq
            rw [e]; exact Nat.le_refl _
          · rw [hfl] at hf
            obtain ⟨l, _, rfl⟩ := List.mem_map.mp hf
            rw [Ex.ht]; omega
          · obtain ⟨l, e⟩ := hleaf q hq
            rw [e, Ex.ht]; omega
          intro v h5 tk5 fs3 st5 fr5 hv5
          rw [q2] at hv5
          obtain ⟨N5, nf5⟩ := newsAddL F4 N4 st5 fr5
          refine ⟨h5, tk5, (it, o) :: (ml, listOf mv.toArray n') :: led L r c1 c2'' c3' c4' c5' ob (fs3 ++ fs2), rfl, frStay F4 st5, fun q hq => N5 q ?_, fun q hq => ?_, fs3 ++ fs2, rfl, OffC.app (fun q hq => ?_) hoC2, fun q hq => ?_, fun q hq => List.mem_append_right _ (hsub2 q hq), ?_⟩
          · simp only [List.mem_cons, List.mem_append, List.cons_append] at hq ⊢
            rcases hq with h | h | h | h | h | h | h | h | h | h | (h | h) | h <;> simp [h]
          · simp only [List.mem_cons, List.mem_append] at hq
            rcases hq with h | h | h | h | h | h | h | h | h | h
            · exact off3 q (by simp [h])
            · exact off3 q (by simp [h])
            · exact off3 q (by simp [h])
            · exact off3 q (by simp [h])
            · exact off3 q (by simp [h])
            · exact off3 q (by simp [h])
            · exact off3 q (by simp [h])
            · exact off3 q (by simp [h])
            · refine ⟨nf5 q h _ (.tail _ (.head _)), nf5 q h _ (.tail _ (.tail _ (.head _))), fun hm => ?_⟩
              obtain ⟨o', ho'⟩ := hwr _ hm
              exact nf5 q h _ (.tail _ (.tail _ (.tail _ (.tail _ (.tail _ (mem_led (List.mem_append_right _ ho'))))))) rfl
            · exact off3 q (.tail _ (.tail _ (mem_led h)))
          · have z := fun x hx => nf5 q hq x (.tail _ (.tail _ (.tail _ (.tail _ (.tail _ hx)))))
            exact ⟨z _ (.head _), z _ (.tail _ (.head _)), z _ (.tail _ (.tail _ (.head _))), z _ (.tail _ (.tail _ (.tail _ (.head _)))), z _ (.tail _ (.tail _ (.tail _ (.tail _ (.head _))))), z _ (.tail _ (.tail _ (.tail _ (.tail _ (.tail _ (.head _))))))⟩
          · rcases List.mem_append.mp hq with h | h
            · exact ⟨nf5 q h _ (.tail _ (.tail _ (.tail _ (.tail _ (.head _))))), nf5 q h _ (.tail _ (.tail _ (.tail _ (.head _))))⟩
            · exact hoM2 q h
          · rw [List.length_append, List.length_singleton, List.take_add_one, hterm, Option.toList_some, List.map_append]
            refine IsExs.snoc (hzs.mono (FS.sub fun q hq => List.mem_append_right _ hq)) (hv5.mono (more_sub (fun q hq => List.mem_append_left _ hq) (fun q hq => List.mem_append_right _ hq)))
      · rintro D2 h3 tk3 zs news hzl ⟨fs2, rfl, hoC2, hoM2, hsub2, hzs⟩ F3 N3 off3
        rw [List.size_toArray, htl] at hzl
        rw [hzl, List.take_length] at hzs
        have K2 := K'.mono hsub2
        k_steps
        obtain ⟨ps, q1, q2, q3⟩ := exsPairs hzs
        have hpl : ps.length = terms.length := by have := congrArg List.length q2; rwa [List.length_map, List.length_map] at this
        have hpr : ∀ q ∈ ps, ∃ t, q.2 = prodE t := fun q hq => by
          have := List.mem_map_of_mem (f := (·.2)) hq
          rw [q2] at this
          obtain ⟨l, _, e⟩ := List.mem_map.mp this
          exact ⟨l, e.symm⟩
        have hfl : flat true (ps.map (·.2)) = terms.map prodE := by rw [q2, flat_prods]
        refine Hold.intro (road_c (S := FS fs2) (ps := ps) (M := 2) (k := true) (n := zs.length) P (X.keeps F3.keep) (T.keeps F3.keep) (FS.inL N3 fun q hq => .tail _ (.tail _ (.tail _ (mem_led hq)))) K2.plus (by rw [q1]; exact (N3 _ (.head _)).1) q3 (by omega) (by omega) (by rw [hfl, List.length_map]; omega) (fun q hq => ?_) (fun f hf => ?_) (fun q hq => ?_) hh (by simp only [depth_deeper]; omega) (by simp only [units_deeper]; omega) ?_)
        · obtain ⟨t, e⟩ := hpr q hq
          rw [e, fl_prodE]; exact Nat.le_refl _
        · rw [hfl] at hf
          obtain ⟨t, _, rfl⟩ := List.mem_map.mp hf
          have := @prodE_ht t
          omega
        · obtain ⟨t, e⟩ := hpr q hq
          rw [e]
          have := @prodE_ht t
          omega
        intro v h5 tk5 fs3 st5 fr5 hv5
        rw [q2] at hv5
        obtain ⟨N5, nf5⟩ := newsAddL F3 N3 st5 fr5
        have F5 := frStay F3 st5
        have N6 : News (less s.heap r) L h5 ([(D2, LCg.lst zs), (it, o)] ++ (ml, listOf mv.toArray n') :: led L r c1 c2'' c3' c4' c5' ob (fs3 ++ fs2)) := fun q hq => N5 q (by
          simp only [List.mem_cons, List.mem_append, List.cons_append, List.nil_append] at hq ⊢
          rcases hq with h | h | h | h | h | h | h | h | h | h | h <;> simp [h])
        have hoM5 : ∀ q ∈ fs3 ++ fs2, @Ne Nat q.1 ml ∧ @Ne Nat q.1 it := fun q hq => by
          rcases List.mem_append.mp hq with h | h
          · exact ⟨nf5 q h _ (.tail _ (.tail _ (.head _))), nf5 q h _ (.tail _ (.head _))⟩
          · exact hoM2 q h
        have hoC5 : OffC L r (fs3 ++ fs2) := OffC.app (fun q hq => by
          have z := fun x hx => nf5 q hq x (.tail _ (.tail _ (.tail _ hx)))
          exact ⟨z _ (.head _), z _ (.tail _ (.head _)), z _ (.tail _ (.tail _ (.head _))), z _ (.tail _ (.tail _ (.tail _ (.head _)))), z _ (.tail _ (.tail _ (.tail _ (.tail _ (.head _))))), z _ (.tail _ (.tail _ (.tail _ (.tail _ (.tail _ (.head _))))))⟩) hoC2
        clear F3 N3 N5 nf5
        k_steps
        refine Hold.intro (appB (own := [(D2, LCg.lst zs), (it, o)]) (ys := mv) F5 N6 (fun q hq => ?_) (fun q hq => ?_) (by have := (Array.getElem?_eq_some_iff.mp hv).1; simp at this; omega) ?_)
        · simp only [List.mem_cons, List.not_mem_nil, or_false] at hq
          rcases hq with rfl | rfl
          · exact (off3 _ (.tail _ (.head _))).symm
          · exact (hn _ (.head _)).symm
        · simp only [List.mem_cons] at hq
          rcases hq with rfl | rfl | rfl | rfl | rfl | rfl | hq
          · k_ne
          · k_ne
          · k_ne
          · k_ne
          · k_ne
          · k_ne
          · exact (hoM5 q hq).1
        intro h7 n7 F7 N7
        k_steps
        refine ⟨_, _, _, _, rfl, F7, fun q hq => N7 q ?_, fun q hq => ?_, c2'', _, fs3 ++ fs2, mv ++ [v], n7, rfl, e2, hoC5, fun q hq => (hoM5 q hq).1, fun q hq => List.mem_append_right _ (hsub2 q (hsub q hq)), List.mem_append_right _ (hsub2 _ hlt), by rw [List.length_append, hml]; rfl, fun x hx => ?_, fun y y1 => ?_⟩
        · simp only [List.mem_cons, List.mem_append, List.cons_append, List.nil_append] at hq ⊢
          rcases hq with h | h | h | h | h | h | h | h | h <;> simp [h]
        · rcases List.mem_cons.mp hq with rfl | hq
          · exact hn (ml, listOf mv.toArray n') (.head _)
          · simp only [List.mem_cons] at hq
            rcases hq with rfl | rfl | rfl | rfl | rfl | rfl | hq
            · exact hn _ (.tail _ (.head _))
            · exact hn (L + 1 + 1 + 1 + 1, c2') (.tail _ (.tail _ (.head _)))
            · exact hn _ (.tail _ (.tail _ (.tail _ (.head _))))
            · exact hn _ (.tail _ (.tail _ (.tail _ (.tail _ (.head _)))))
            · exact hn _ (.tail _ (.tail _ (.tail _ (.tail _ (.tail _ (.head _))))))
            · exact hn _ (.tail _ (.tail _ (.tail _ (.tail _ (.tail _ (.tail _ (.head _)))))))
            · exact (hoM5 q hq).2
        · rcases List.mem_append.mp hx with h | h
          · exact (hmv x h).mono (FS.sub fun q hq => List.mem_append_right _ (hsub2 q hq))
          · rw [List.mem_singleton.mp h]
            exact hv5.mono (more_sub (fun q hq => List.mem_append_left _ hq) (fun q hq => List.mem_append_right _ hq))
        · simp only [y1, if_false]
    · rintro l m news h tk ⟨c2', u, fs', mv, n', rfl, hc2, hoC, hoM, hsub, hlt, hml, hmv, hm⟩ F N
      rw [mapOne hm] at F
      obtain ⟨v1, v2, rfl⟩ : ∃ v1 v2, mv = [v1, v2] := by
        match mv, hml with
        | [v1, v2], _ => exact ⟨v1, v2, rfl⟩
      obtain ⟨g1, e1⟩ := (hmv v1 (.head _)).isRef
      obtain ⟨g2, e2⟩ := (hmv v2 (.tail _ (.head _))).isRef
      subst e1; subst e2
      have hN2 : News (less s.heap r) L h (led L r c1 c2' c3' c4' c5' ob ([(ml, listOf [Value.ref g1, Value.ref g2].toArray n')] ++ fs')) := fun q hq => N q (by
        simp only [List.mem_cons, List.cons_append, List.nil_append] at hq ⊢
        rcases hq with h | h | h | h | h | h | h | h <;> simp [h])
      have hoC2 : OffC L r ([(ml, listOf [Value.ref g1, Value.ref g2].toArray n')] ++ fs') := OffC.app (fun q hq => by
        rw [List.mem_singleton.mp hq]
        refine ⟨?_, ?_, ?_, ?_, ?_, ?_⟩ <;> (show @Ne Nat ml _; omega)) hoC
      obtain ⟨ks, hks⟩ : ∃ ks, ks = [(ml, listOf [Value.ref g1, Value.ref g2].toArray n')] ++ fs' := ⟨_, rfl⟩
      have hmd : (ml, listOf [Value.ref g1, Value.ref g2].toArray n') ∈ ks := hks ▸ .head _
      have sub1 : ∀ q ∈ fs', q ∈ ks := fun q hq => by rw [hks]; exact .tail _ hq
      have sub2 : ∀ q ∈ gs, q ∈ ks := fun q hq => sub1 q (hsub q hq)
      rw [← hks] at hN2 hoC2
      have K := K.mono sub2
      have hg1 := (hmv _ (.head _)).mono (FS.sub sub1)
      have hg2 := (hmv _ (.tail _ (.head _))).mono (FS.sub sub1)
      have hterms := hterms.mono (FS.sub sub2)
      have hD := sub2 _ hD
      clear N hoC hoM hsub hlt hml hmv hm hks sub1 sub2 lo hoML hoff hz4 hz5
      k_steps
      refine Hold.intro ?_
      have stg3 : St 3 := .mk
      have r474 : r = 474 := by assumption
      rename Fr _ _ _ _ => F₀
      rename News _ _ _ _ => N₀
      refine compL (its := ys.toArray) (J := fun zs news => ∃ fs, news = led L r c1 c2' c3' c4' c5' ob fs ∧ OffC L r fs ∧ (∀ q ∈ ks, q ∈ fs) ∧ IsTrs (FS fs) zs ((terms.take zs.length).map fun t => joinT false (t.map .str))) F₀ hh (by rw [List.size_toArray, sizeLine_eq]; omega) (by with_unfolding_all rfl) (by decide) (by with_unfolding_all rfl) (by decide) (by with_unfolding_all rfl) ?_ ?_ ?_
      · k_steps
        exact ⟨D, _, _, _, rfl, rfl, F₀, N₀, fun zs n' j => by obtain ⟨fs, e, _, sb, _⟩ := j; rw [e]; exact .inr ⟨_, mem_led (sb _ hD), rfl, _, rfl⟩, ks, rfl, hoC2, fun _ h => h, by simpa using IsTrs.nil⟩
      · rintro v zs news I oI C oC D2 m2 h3 tk3 hv ⟨fs, rfl, hoC3, hsub, hzs⟩ hC hm2 F3 N3 off3 ne1 ne2 ne3
        have hv' : ys[zs.length]? = some v := by simpa using hv
        obtain ⟨term, hterm, rl, nr, us, rfl, hrl, hus⟩ := hterms.get hv'
        have hrl := hsub _ hrl
        have htm := List.mem_of_getElem? hterm
        have hok1 := hok term htm
        have husl : us.length = term.length := by have := hus.length; rwa [List.length_map] at this
        k_steps
        rename Fr _ _ _ _ => F3
        refine Hold.intro (compL (its := us.toArray) (J := fun ws news => news = (I, oI) :: (C, oC) :: (D2, LCg.lst zs) :: led L r c1 c2' c3' c4' c5' ob fs ∧ IsTrs (FS fs) ws ((term.take ws.length).map .str)) F3 hh (by rw [List.size_toArray, sizeLine_eq]; omega) (by with_unfolding_all rfl) (by decide) (by with_unfolding_all rfl) (by decide) (by with_unfolding_all rfl) ?_ ?_ ?_)
        · k_steps
          exact ⟨rl, _, _, _, rfl, rfl, F3, N3, fun ws n' j => by rw [j.1]; exact .inr ⟨_, .tail _ (.tail _ (.tail _ (mem_led hrl))), rfl, _, rfl⟩, rfl, by simpa using IsTrs.nil⟩
        · rintro v ws news I2 oI2 C2 oC2 D3 m3 h4 tk4 hv ⟨rfl, hws⟩ hC' hm' F4 N4 off4 e1 e2 e3
          have hv' : us[ws.length]? = some v := by simpa using hv
          have hlt : ws.length < term.length := by rw [← husl]; exact (List.getElem?_eq_some_iff.mp hv').1
          obtain ⟨l, hl⟩ : ∃ l, term[ws.length]? = some l := ⟨_, List.getElem?_eq_getElem hlt⟩
          obtain ⟨tl, htl'⟩ := hus.get ws.length l.ix (by rw [List.getElem?_map, hl]; rfl)
          rw [htl'] at hv'
          cases hv'
          k_steps
          rename Fr _ _ _ _ => F4
          refine Hold.intro (letterSub ?_)
          refine ⟨_, _, _, rfl, F4, N4, off4, rfl, ?_⟩
          rw [List.length_append, List.length_singleton, List.take_add_one, hl, Option.toList_some, List.map_append]
          exact hws.snoc .str
        · rintro D3 h4 tk4 ws news hwl ⟨rfl, hws⟩ F4 N4 off4
          rw [List.size_toArray, husl] at hwl
          rw [hwl, List.take_length] at hws
          k_steps
          rename Fr _ _ _ _ => F4
          have lk := leafs_ok term (by omega)
          have jo := joinOk (k := false) lk.1 lk.2.1 lk.2.2
          rw [← leafs_pl] at jo
          refine Hold.intro (joined_c (S := FS fs) (k := false) (D := 120) (ts := term.map .str) (vs := ws) (n := ws.length) (X.keeps F4.keep) (T.keeps F4.keep) (FS.inL N4 fun q hq => .tail _ (.tail _ (.tail _ (.tail _ (mem_led hq))))) (N4 _ (.head _)).1 hws (by omega) (jo.2.1 (by rw [List.length_map]; omega)) jo.1 (fun u hu => (jo.2.2 u hu).1) (fun u hu => (jo.2.2 u hu).2) hh (by simp only [depth_deeper]; omega) (by simp only [units_deeper]; omega) ?_)
          intro v h5 tk5 fs3 st5 fr5 hv5
          obtain ⟨N5, nf5⟩ := newsAddL F4 N4 st5 fr5
          refine ⟨h5, tk5, led L r c1 c2' c3' c4' c5' ob (fs3 ++ fs), rfl, frStay F4 st5, fun q hq => N5 q ?_, LCg.Off3.of fun q hq => ?_, fs3 ++ fs, rfl, OffC.app (fun q hq => ?_) hoC3, fun q hq => List.mem_append_right _ (hsub q hq), ?_⟩
          · simp only [List.mem_cons, List.mem_append] at hq ⊢
            rcases hq with h | h | h | h | h | h | h | h | h | h | h <;> simp [h]
          · simp only [List.mem_cons, List.mem_append] at hq
            have off3 := off3.mem
            rcases hq with h | h | h | h | h | h | h | h
            · exact off3 q (by simp [h])
            · exact off3 q (by simp [h])
            · exact off3 q (by simp [h])
            · exact off3 q (by simp [h])
            · exact off3 q (by simp [h])
            · exact off3 q (by simp [h])
            · exact ⟨nf5 q h _ (.tail _ (.head _)), nf5 q h _ (.tail _ (.tail _ (.head _))), nf5 q h _ (.tail _ (.tail _ (.tail _ (.head _))))⟩
            · exact off3 q (mem_led h)
          · have z := fun x hx => nf5 q hq x (.tail _ (.tail _ (.tail _ (.tail _ hx))))
            exact ⟨z _ (.head _), z _ (.tail _ (.head _)), z _ (.tail _ (.tail _ (.head _))), z _ (.tail _ (.tail _ (.tail _ (.head _)))), z _ (.tail _ (.tail _ (.tail _ (.tail _ (.head _))))), z _ (.tail _ (.tail _ (.tail _ (.tail _ (.tail _ (.head _))))))⟩
          · rw [List.length_append, List.length_singleton, List.take_add_one, hterm, Option.toList_some, List.map_append]
            exact IsTrs.snoc (hzs.mono (FS.sub fun q hq => List.mem_append_right _ hq)) (hv5.mono (more_sub (fun q hq => List.mem_append_left _ hq) (fun q hq => List.mem_append_right _ hq)))
      · rintro D2 h3 tk3 zs news hzl ⟨fs, rfl, hoC3, hsub, hzs⟩ F3 N3 off3
        rw [List.size_toArray, htl] at hzl
        rw [hzl, List.take_length] at hzs
        k_steps
        have pk := prods_ok (terms := terms) (by omega) (fun t ht => ⟨(hok t ht).1, by have := (hok t ht).2; omega⟩)
        have jo := joinOk (k := true) pk.1 pk.2.1 pk.2.2
        rw [← prods_pl fun t ht => (hok t ht).1] at jo
        have hzsl := hzs.length
        rw [List.length_map] at hzsl
        refine Hold.intro (joined_c (S := FS fs) (k := true) (D := 120) (ts := terms.map fun t => joinT false (t.map .str)) (vs := zs) (n := zs.length) (X.keeps F3.keep) (T.keeps F3.keep) (FS.inL N3 fun q hq => .tail _ (mem_led hq)) (N3 _ (.head _)).1 hzs (by omega) (jo.2.1 (by rw [List.length_map]; omega)) jo.1 (fun u hu => (jo.2.2 u hu).1) (fun u hu => (jo.2.2 u hu).2) hh (by simp only [depth_deeper]; omega) (by simp only [units_deeper]; omega) ?_)
        intro dv h4 tk4 fs3 st4 fr4 hdue
        have hdue : IsTr ((FS fs).more fs3) dv (dueT terms) := hdue
        obtain ⟨fd, F4, N4, hoC4, sb4, g4⟩ := ledAdd F3 (fun q hq => N3 q (.tail _ hq)) hoC3 st4 fr4
        have hdue := hdue.mono (more_sub g4 sb4)
        have sub4 : ∀ q ∈ ks, q ∈ fd := fun q hq => sb4 q (hsub q hq)
        have K := K.mono sub4
        have hmd := sub4 _ hmd
        have hD := sub4 _ hD
        have hg1 := hg1.mono (FS.sub sub4)
        have hg2 := hg2.mono (FS.sub sub4)
        have hterms := hterms.mono (FS.sub sub4)
        have tbr : ∀ h', (less s.heap r).StaysIn h' → h'.get? r = some ob → Tb h' := tbOf r474 ht hob
        clear F3 N3 hoC3 hzs hsub st4 fr4 sb4 g4 sub4 F₀ N₀ hoC2
        have hg0 : (less s.heap r).get? r = none := less_none
        have h478 : ∃ o, (less s.heap r).get? 478 = some o := by
          obtain ⟨o, e⟩ := tb478 ht
          exact ⟨o, less_get e (by rw [r474]; decide)⟩
        have hht := sumE_ht h2
        k_steps
        rename Fr _ _ _ _ => F5
        rename News _ _ _ _ => N5
        refine Hold.intro (subB N5 (mem_led hmd) (by omega) (by omega) (v := .ref g1) rfl ?_)
        k_steps
        refine Hold.intro (subB N5 (mem_led hmd) (by omega) (by omega) (v := .ref g2) rfl ?_)
        k_steps
        refine Hold.intro (ledEq r474 X T B hg0 l474 F5 N5 hoC4 (tbr _ F5.keep (N5 _ (.tail _ (.tail _ (.tail _ (.tail _ (.tail _ (.head _))))))).1) hh (by simp only [depth_deeper]; omega) (by simp only [units_deeper]; omega) hg1 hg2 (by omega) (by omega) ?_)
        intro h6 tk6 gn6 ob6 F6 N6 tb6 gk6
        rw [eqb_iff.mpr rfl]
        clear tbr
        have tbr := tbOf2 r474 tb6 F6.keep h478 (N6 _ (.tail _ (.tail _ (.tail _ (.tail _ (.tail _ (.head _))))))).1
        clear F5 N5 tb6
        k_steps
        refine Hold.intro (subB N6 (mem_led hmd) (by omega) (by omega) (v := .ref g2) rfl ?_)
        k_steps
        refine Hold.intro (subB N6 (mem_led hmd) (by omega) (by omega) (v := .ref g1) rfl ?_)
        k_steps
        refine Hold.intro (ledEq r474 X T B hg0 l474 F6 N6 hoC4 (tbr _ F6.keep (N6 _ (.tail _ (.tail _ (.tail _ (.tail _ (.tail _ (.head _))))))).1) hh (by simp only [depth_deeper]; omega) (by simp only [units_deeper]; omega) hg2 hg1 (by omega) (by omega) ?_)
        intro h7 tk7 gn7 ob7 F7 N7 tb7 gk7
        rw [eqb_iff.mpr rfl]
        have gk7 := gk6.trans gk7
        clear tbr
        have tbr := tbOf2 r474 tb7 F7.keep h478 (N7 _ (.tail _ (.tail _ (.tail _ (.tail _ (.tail _ (.head _))))))).1
        clear F6 N6 tb7 gk6
        k_steps
        have hsn := sumE_nrm h2 fun t ht => (hok t ht).1
        have hsc : cnt (sumE terms) ≤ 60 := by
          rw [cnt_sum]
          have : ∀ l : List (List Leaf), (∀ t ∈ l, t.length ≤ 3) → (l.map List.length).sum ≤ 3 * l.length := by
            intro l
            induction l with
            | nil => intro _; simp
            | cons t r ih =>
              intro h
              have a := h t (.head _)
              have b := ih fun x hx => h x (.tail _ hx)
              rw [List.map_cons, List.sum_cons, List.length_cons]
              omega
          have := this terms fun t ht => (hok t ht).2
          omega
        have hpl := sum_pl h2 fun t ht => (hok t ht).1
        refine Hold.intro (compL (its := #[.ref g1, .ref g2]) (J := fun zs news => ∃ fs, news = led L r c1 c2' c3' c4' c5' ob7 fs ∧ OffC L r fs ∧ (∀ q ∈ fd, q ∈ fs) ∧ ∀ v ∈ zs, IsTr (FS fs) v (dueT terms)) F7 hh (by show 2 ≤ sizeLine; rw [sizeLine_eq]; decide) (by with_unfolding_all rfl) (by decide) (by with_unfolding_all rfl) (by decide) (by with_unfolding_all rfl) ?_ ?_ ?_)
        · k_steps
          exact ⟨ml, _, _, _, rfl, rfl, F7, N7, fun zs n' j => by obtain ⟨fs, e, _, sb, _⟩ := j; rw [e]; exact .inr ⟨_, mem_led (sb _ hmd), rfl, _, rfl⟩, fd, rfl, hoC4, fun _ h => h, fun _ h => by cases h⟩
        · rintro v zs news I oI C oC D2 m2 h3 tk3 hv ⟨fs, rfl, hoC3, hsub, hzs⟩ hC hm2 F3 N3 off3 ne1 ne2 ne3
          have hvE : IsEx w.params (FS fs) v (sumE terms) := by
            match zs.length, hv with
            | 0, hv => simp at hv; rw [← hv]; exact hg1.mono (FS.sub hsub)
            | 1, hv => simp at hv; rw [← hv]; exact hg2.mono (FS.sub hsub)
            | k + 2, hv => simp at hv
          k_steps
          rename Fr _ _ _ _ => F3
          refine Hold.intro (plain_c hsn hvE hsc _ _ _ _ (X.keeps F3.keep) (T.keeps F3.keep) (FS.inL N3 fun q hq => .tail _ (.tail _ (.tail _ (mem_led hq)))) hh (by simp only [depth_deeper]; omega) (by simp only [units_deeper]; omega) ?_)
          intro v' h5 tk5 fs3 st5 fr5 hv5
          rw [hpl] at hv5
          obtain ⟨N5, nf5⟩ := newsAddL F3 N3 st5 fr5
          refine ⟨h5, tk5, led L r c1 c2' c3' c4' c5' ob7 (fs3 ++ fs), rfl, frStay F3 st5, fun q hq => N5 q ?_, LCg.Off3.of fun q hq => ?_, fs3 ++ fs, rfl, OffC.app (fun q hq => ?_) hoC3, fun q hq => List.mem_append_right _ (hsub q hq), fun x hx => ?_⟩
          · simp only [List.mem_cons, List.mem_append] at hq ⊢
            rcases hq with h | h | h | h | h | h | h | h | h | h | h <;> simp [h]
          · simp only [List.mem_cons, List.mem_append] at hq
            have off3 := off3.mem
            rcases hq with h | h | h | h | h | h | h | h
            · exact off3 q (by simp [h])
            · exact off3 q (by simp [h])
            · exact off3 q (by simp [h])
            · exact off3 q (by simp [h])
            · exact off3 q (by simp [h])
            · exact off3 q (by simp [h])
            · exact ⟨nf5 q h _ (.head _), nf5 q h _ (.tail _ (.head _)), nf5 q h _ (.tail _ (.tail _ (.head _)))⟩
            · exact off3 q (mem_led h)
          · have z := fun x hx => nf5 q hq x (.tail _ (.tail _ (.tail _ hx)))
            exact ⟨z _ (.head _), z _ (.tail _ (.head _)), z _ (.tail _ (.tail _ (.head _))), z _ (.tail _ (.tail _ (.tail _ (.head _)))), z _ (.tail _ (.tail _ (.tail _ (.tail _ (.head _))))), z _ (.tail _ (.tail _ (.tail _ (.tail _ (.tail _ (.head _))))))⟩
          · rcases List.mem_append.mp hx with h | h
            · exact (hzs x h).mono (FS.sub fun q hq => List.mem_append_right _ hq)
            · rw [List.mem_singleton.mp h]
              exact hv5.mono (more_sub (fun q hq => List.mem_append_left _ hq) (fun q hq => List.mem_append_right _ hq))
        · rintro D2 h3 tk3 zs news hzl ⟨fs, rfl, hoC3, hsub, hzs⟩ F3 N3 off3
          obtain ⟨u1, u2, rfl⟩ : ∃ u1 u2, zs = [u1, u2] := by
            match zs, hzl with
            | [u1, u2], _ => exact ⟨u1, u2, rfl⟩
          k_steps
          rename Fr _ _ _ _ => F8
          rename News _ _ _ _ => N8
          have hdue := hdue.mono (FS.sub hsub)
          refine Hold.intro (rows_ne (S := FS fs) (FS.inL N8 fun q hq => .tail _ (.tail _ (mem_led hq))) (N8 _ (.tail _ (.head _))).1 (N8 _ (.head _)).1 (hzs _ (.head _)) (hzs _ (.tail _ (.head _))) hdue hdue (by rw [← hpl]; exact Nat.le_trans (hgt_pl _) (by omega)) (by simp only [units_deeper]; omega) ?_)
          have N9 : News (less s.heap r) L _ (led L r c1 c2' c3' c4' c5' ob7 fs) := fun q hq => N8 q (.tail _ (.tail _ hq))
          have K := K.mono hsub
          have hmd := hsub _ hmd
          have hD := hsub _ hD
          have hg1 := hg1.mono (FS.sub hsub)
          have hg2 := hg2.mono (FS.sub hsub)
          have hterms := hterms.mono (FS.sub hsub)
          clear hoC4 N8 off3 hzs hsub
          k_steps
          refine Hold.intro ?_
          have stg4 : St 4 := .mk
          rename Fr _ _ _ _ => F₀
          rename News _ _ _ _ => N₀
          obtain ⟨z6, t6, hz6⟩ := hitem 6 (by omega)
          obtain ⟨z5', t5', hz5'⟩ := hitem 5 (by omega)
          have hge2 : 2 ≤ terms.length := by assumption
          have hle3 : terms.length ≤ 3 := by assumption
          cases hterms with
          | nil => simp at hge2
          | @cons y0 tm yr tr hy0 hyr =>
          obtain ⟨rl0, nr0, us0, hyE, hrl0, hus0⟩ := id hy0
          subst hyE
          have q60 : 0 ≤ z6.fmod 3 := Int.fmod_nonneg_of_pos _ (by decide)
          have q61 : z6.fmod 3 < 3 := Int.fmod_lt_of_pos _ (by decide)
          have hyl := hyr.length
          have hul0 : us0.length = tm.length := by have := hus0.length; rwa [List.length_map] at this
          have hok0 := hok tm (.head _)
          rw [List.length_cons] at hge2 hle3
          refine compX (J := fun ax its zs news => ∃ gs ts, news = led L r c1 c2' c3' c4' c5' ob7 gs ∧ OffC L r gs ∧ (∀ q ∈ fs, q ∈ gs) ∧ (∃ n, (ax, listOf its n) ∈ gs) ∧ IsTerms (FS gs) its.toList ts ∧ (∃ l, ts = tr ++ [tm ++ [l]]) ∧ IsExs w.params (FS gs) zs ((ts.take zs.length).map prodE)) F₀ hh (by with_unfolding_all rfl) (by decide) (by with_unfolding_all rfl) (by decide) (by with_unfolding_all rfl) ?_ ?_ ?_
          · k_steps
            refine kmk_slice_lit (its := (Value.ref rl0 :: yr).toArray) (zs := yr) (lo := some 1) (hi := none) (s := { s with heap := _, toks := _, gens := _ }) F₀ N₀ ⟨_, (N₀ _ (mem_led hD)).1, rfl, _, rfl⟩ (.int 1 _) .none (pick_from _) (fun D1 h1 F1 N1 l1 => ?_) (by with_unfolding_all rfl) (by intro _; with_unfolding_all rfl) (by rw [List.size_toArray, sizeLine_eq]; omega)
            k_steps
            refine Hold.intro (subB N1 (.tail _ (mem_led hD)) (by omega) (by omega) (v := .ref rl0) rfl ?_)
            k_steps
            refine Hold.intro (subB N1 (.tail _ (mem_led K.nums)) (by omega) (by omega) hz6 ?_)
            k_steps
            rename Fr _ _ _ _ => F2
            rename News _ _ _ _ => N2
            rename_i ln _ lo
            refine Hold.intro (kmk_add_ints (vs := us0) (ws := [_]) F2 N2 ⟨_, (N2 _ (.tail _ (.tail _ (mem_led hrl0)))).1, rfl, _, rfl⟩ ⟨_, (N2 _ (.head _)).1, rfl, _, rfl⟩ hus0 (.cons _ _ .nil) (fun D3 us3 h3' F3 N3 l3 hi3 => ?_) (by rw [List.length_map, sizeLine_eq]; simp; omega))
            k_steps
            rename Fr _ _ _ _ => F4
            rename News _ _ _ _ => N4
            rename_i lm _ lo4
            refine Hold.intro (kmk_add_lit (its := yr.toArray) (its2 := #[Value.ref D3]) (zs := yr ++ [Value.ref D3]) F4 N4 ⟨_, (N4 _ (.tail _ (.tail _ (.tail _ (.head _))))).1, rfl, _, rfl⟩ ⟨_, (N4 _ (.head _)).1, rfl, _, rfl⟩ rfl (fun D5 h5 F5 N5 l5 => ?_) (by rw [sizeLine_eq]; simp; omega))
            k_steps
            have k3 := fun q (hq : q ∈ led L r c1 c2' c3' c4' c5' ob7 fs) => l3 q (.tail _ (.tail _ hq))
            have k5 := fun q (hq : q ∈ led L r c1 c2' c3' c4' c5' ob7 fs) => l5 q (.tail _ (.tail _ (.tail _ (.tail _ hq))))
            have offD : ∀ X : Nat, (∀ q ∈ led L r c1 c2' c3' c4' c5' ob7 fs, @LT.lt Nat _ q.1 X) → ∀ o : Obj, OffC L r [(X, o)] := fun X hX o q hq => by
              rw [List.mem_singleton.mp hq]
              exact ⟨Nat.ne_of_gt (hX _ (.head _)), Nat.ne_of_gt (hX _ (.tail _ (.head _))), Nat.ne_of_gt (hX _ (.tail _ (.tail _ (.head _)))), Nat.ne_of_gt (hX _ (.tail _ (.tail _ (.tail _ (.head _))))), Nat.ne_of_gt (hX _ (.tail _ (.tail _ (.tail _ (.tail _ (.head _)))))), Nat.ne_of_gt (hX _ (.tail _ (.tail _ (.tail _ (.tail _ (.tail _ (.head _)))))))⟩
            refine ⟨D5, (yr ++ [Value.ref D3]).toArray, by rw [List.size_toArray, List.length_append, sizeLine_eq]; simp; omega, rfl, D5, led L r c1 c2' c3' c4' c5' ob7 ([(D5, listOf (yr ++ [Value.ref D3]).toArray 0)] ++ ([(D3, listOf us3.toArray 0)] ++ fs)), _, _, rfl, rfl, F5, fun q hq => N5 q ?_, fun zs n' j => ?_, _, tr ++ [tm ++ [leafAt (z6.fmod 3)]], rfl, OffC.app (offD D5 k5 _) (OffC.app (offD D3 k3 _) ‹OffC L r fs›), fun q hq => .tail _ (.tail _ hq), ⟨0, .head _⟩, ?_, ⟨_, rfl⟩, by simpa using IsExs.nil⟩
            · simp only [List.mem_cons, List.cons_append, List.nil_append] at hq ⊢
              rcases hq with h | h | h | h | h | h | h | h | h <;> simp [h]
            · obtain ⟨gs, ts, e, _, _, ⟨n, hq⟩, _⟩ := j
              rw [e]
              exact .inr ⟨_, mem_led hq, rfl, n, rfl⟩
            · refine IsTerms.snoc (hyr.mono (FS.sub fun q hq => .tail _ (.tail _ hq))) ⟨D3, 0, us3, rfl, .tail _ (.head _), ?_⟩
              rw [List.map_append, List.map_cons, List.map_nil, leafAt_ix q60 (by omega)]
              exact hi3
          · rintro ax its v zs news I oI C oC D2 m2 h3 tk3 hv ⟨gs, ts, rfl, hoC3, hsub, hq, hts, ⟨l0, hl0⟩, hzs⟩ hC hm2 F3 N3 off3 ne1 ne2 ne3
            have hv' : its.toList[zs.length]? = some v := by simpa using hv
            obtain ⟨term, hterm, rl, nr, us, rfl, hrl, hus⟩ := hts.get hv'
            have htm := List.mem_of_getElem? hterm
            have hok1 : 1 ≤ term.length ∧ term.length ≤ 4 := by
              rw [hl0] at htm
              rcases List.mem_append.mp htm with h | h
              · have := hok term (.tail _ h); omega
              · rw [List.mem_singleton.mp h, List.length_append, List.length_singleton]; omega
            have husl : us.length = term.length := by have := hus.length; rwa [List.length_map] at this
            have K2 := K.mono hsub
            k_steps
            rename Fr _ _ _ _ => F3
            refine Hold.intro (compL (its := us.toArray) (J := fun ws news => news = (I, oI) :: (C, oC) :: (D2, LCg.lst zs) :: led L r c1 c2' c3' c4' c5' ob7 gs ∧ IsExs w.params (FS gs) ws ((term.take ws.length).map .leaf)) F3 hh (by rw [List.size_toArray, sizeLine_eq]; omega) (by with_unfolding_all rfl) (by decide) (by with_unfolding_all rfl) (by decide) (by with_unfolding_all rfl) ?_ ?_ ?_)
            · k_steps
              exact ⟨rl, _, _, _, rfl, rfl, F3, N3, fun ws n' j => by rw [j.1]; exact .inr ⟨_, .tail _ (.tail _ (.tail _ (mem_led hrl))), rfl, _, rfl⟩, rfl, by simpa using IsExs.nil⟩
            · rintro v ws news I2 oI2 C2 oC2 D3 m3 h4 tk4 hv ⟨rfl, hws⟩ hC' hm' F4 N4 off4 e1 e2 e3
              have hv' : us[ws.length]? = some v := by simpa using hv
              have hlt : ws.length < term.length := by rw [← husl]; exact (List.getElem?_eq_some_iff.mp hv').1
              obtain ⟨l, hl⟩ : ∃ l, term[ws.length]? = some l := ⟨_, List.getElem?_eq_getElem hlt⟩
              obtain ⟨tl, htl'⟩ := hus.get ws.length l.ix (by rw [List.getElem?_map, hl]; rfl)
              rw [htl'] at hv'
              cases hv'
              obtain ⟨v', hv', hve⟩ := K2.leaf l
              have ir := ix_range l
              k_steps
              rename Fr _ _ _ _ => F4
              refine Hold.intro (subB N4 (.tail _ (.tail _ (.tail _ (.tail _ (.tail _ (.tail _ (mem_led K2.lvs))))))) ir.1 (by omega) hv' ?_)
              refine ⟨_, _, _, rfl, F4, N4, off4, rfl, ?_⟩
              rw [List.length_append, List.length_singleton, List.take_add_one, hl, Option.toList_some, List.map_append]
              exact hws.snoc hve
            · rintro D3 h4 tk4 ws news hwl ⟨rfl, hws⟩ F4 N4 off4
              rw [List.size_toArray, husl] at hwl
              rw [hwl, List.take_length] at hws
              k_steps
              rename Fr _ _ _ _ => F4
              obtain ⟨ps, q1, q2, q3⟩ := exsPairs hws
              have hpl : ps.length = term.length := by have := congrArg List.length q2; rwa [List.length_map, List.length_map] at this
              have hleaf : ∀ q ∈ ps, ∃ l, q.2 = .leaf l := fun q hq => by
                have := List.mem_map_of_mem (f := (·.2)) hq
                rw [q2] at this
                obtain ⟨l, _, e⟩ := List.mem_map.mp this
                exact ⟨l, e.symm⟩
              have hfl : flat false (ps.map (·.2)) = term.map .leaf := by rw [q2, flat_leafs]
              refine Hold.intro (road_c (S := FS gs) (ps := ps) (M := 1) (k := false) (n := ws.length) P (X.keeps F4.keep) (T.keeps F4.keep) (FS.inL N4 fun q hq => .tail _ (.tail _ (.tail _ (.tail _ (mem_led hq))))) K2.times (by rw [q1]; exact (N4 _ (.head _)).1) q3 (by omega) (by omega) (by rw [hfl, List.length_map]; omega) (fun q hq => ?_) (fun f hf => ?_) (fun q hq => ?_) hh (by simp only [depth_deeper]; omega) (by simp only [units_deeper]; omega) ?_)
              · obtain ⟨l, e⟩ := hleaf q hq
                rw [e]; exact Nat.le_refl _
              · rw [hfl] at hf
                obtain ⟨l, _, rfl⟩ := List.mem_map.mp hf
                rw [Ex.ht]; omega
              · obtain ⟨l, e⟩ := hleaf q hq
                rw [e, Ex.ht]; omega
              intro v h5 tk5 fs3 st5 fr5 hv5
              rw [q2] at hv5
              obtain ⟨N5, nf5⟩ := newsAddL F4 N4 st5 fr5
              refine ⟨h5, tk5, led L r c1 c2' c3' c4' c5' ob7 (fs3 ++ gs), rfl, frStay F4 st5, fun q hq => N5 q ?_, LCg.Off3.of fun q hq => ?_, fs3 ++ gs, ts, rfl, OffC.app (fun q hq => ?_) hoC3, fun q hq => List.mem_append_right _ (hsub q hq), ?_, hts.mono (FS.sub fun q hq => List.mem_append_right _ hq), ⟨l0, hl0⟩, ?_⟩
              · simp only [List.mem_cons, List.mem_append] at hq ⊢
                rcases hq with h | h | h | h | h | h | h | h | h | h | h <;> simp [h]
              · simp only [List.mem_cons, List.mem_append] at hq
                have off3 := off3.mem
                rcases hq with h | h | h | h | h | h | h | h
                · exact off3 q (by simp [h])
                · exact off3 q (by simp [h])
                · exact off3 q (by simp [h])
                · exact off3 q (by simp [h])
                · exact off3 q (by simp [h])
                · exact off3 q (by simp [h])
                · exact ⟨nf5 q h _ (.tail _ (.head _)), nf5 q h _ (.tail _ (.tail _ (.head _))), nf5 q h _ (.tail _ (.tail _ (.tail _ (.head _))))⟩
                · exact off3 q (mem_led h)
              · have z := fun x hx => nf5 q hq x (.tail _ (.tail _ (.tail _ (.tail _ hx))))
                exact ⟨z _ (.head _), z _ (.tail _ (.head _)), z _ (.tail _ (.tail _ (.head _))), z _ (.tail _ (.tail _ (.tail _ (.head _)))), z _ (.tail _ (.tail _ (.tail _ (.tail _ (.head _))))), z _ (.tail _ (.tail _ (.tail _ (.tail _ (.tail _ (.head _))))))⟩
              · obtain ⟨n, hq⟩ := hq
                exact ⟨n, List.mem_append_right _ hq⟩
              · rw [List.length_append, List.length_singleton, List.take_add_one, hterm, Option.toList_some, List.map_append]
                exact IsExs.snoc (hzs.mono (FS.sub fun q hq => List.mem_append_right _ hq)) (hv5.mono (more_sub (fun q hq => List.mem_append_left _ hq) (fun q hq => List.mem_append_right _ hq)))
          · rintro ax its D2 h3' tk3 zs news hzl ⟨gs, ts, rfl, hoC3, hsub, hq, hts, ⟨l0, hl0⟩, hzs⟩ F3 N3 off3
            have htsl := hts.length
            rw [Array.length_toList] at htsl
            rw [hzl, htsl, List.take_length] at hzs
            have K2 := K.mono hsub
            k_steps
            refine Hold.intro (subB N3 (.tail _ (mem_led K2.nums)) (by omega) (by omega) hz5' ?_)
            k_steps
            have htsl2 : ts.length = tr.length + 1 := by rw [hl0, List.length_append, List.length_singleton]
            obtain ⟨ps, q1, q2, q3⟩ := exsPairs hzs
            have hpl : ps.length = ts.length := by have := congrArg List.length q2; rwa [List.length_map, List.length_map] at this
            have hpr : ∀ q ∈ ps, ∃ t, q.2 = prodE t := fun q hq => by
              have := List.mem_map_of_mem (f := (·.2)) hq
              rw [q2] at this
              obtain ⟨l, _, e⟩ := List.mem_map.mp this
              exact ⟨l, e.symm⟩
            have hfl : flat true (ps.map (·.2)) = ts.map prodE := by rw [q2, flat_prods]
            refine Hold.intro (road_c (S := FS gs) (ps := ps) (M := 2) (k := true) (n := zs.length) P (X.keeps F3.keep) (T.keeps F3.keep) (FS.inL N3 fun q hq => .tail _ (mem_led hq)) K2.plus (by rw [q1]; exact (N3 _ (.head _)).1) q3 (by omega) (by omega) (by rw [hfl, List.length_map]; omega) (fun q hq => ?_) (fun f hf => ?_) (fun q hq => ?_) hh (by simp only [depth_deeper]; omega) (by simp only [units_deeper]; omega) ?_)
            · obtain ⟨t, e⟩ := hpr q hq
              rw [e, fl_prodE]; exact Nat.le_refl _
            · rw [hfl] at hf
              obtain ⟨t, _, rfl⟩ := List.mem_map.mp hf
              have := @prodE_ht t
              omega
            · obtain ⟨t, e⟩ := hpr q hq
              rw [e]
              have := @prodE_ht t
              omega
            intro mv h5 tk5 fs3 st5 fr5 hmv
            rw [q2] at hmv
            have hmv : IsEx w.params ((FS gs).more fs3) mv (sumE ts) := hmv
            have hnm : sumE ts ≠ sumE (tm :: tr) := by rw [hl0]; exact sum_more tm tr l0
            have hmh : (sumE ts).ht ≤ 2 := sumE_ht (by omega)
            obtain ⟨gd, F4, N4, hoC4, sb4, g4⟩ := ledAdd F3 (fun q hq => N3 q (.tail _ hq)) hoC3 st5 fr5
            have hmv := hmv.mono (more_sub g4 sb4)
            obtain ⟨mr, e⟩ := hmv.isRef
            subst e
            have sub4 : ∀ q ∈ fs, q ∈ gd := fun q hq => sb4 q (hsub q hq)
            have K := K.mono sub4
            have hmd := sub4 _ hmd
            have hD := sub4 _ hD
            have hg1 := hg1.mono (FS.sub sub4)
            have hg2 := hg2.mono (FS.sub sub4)
            have hterms : IsTerms (FS gd) (Value.ref rl0 :: yr) (tm :: tr) := .cons (hy0.mono (FS.sub sub4)) (hyr.mono (FS.sub sub4))
            have hdue := hdue.mono (FS.sub sub4)
            clear N3 hoC3 hzs hsub st5 fr5 sb4 g4 sub4 F₀ N₀ hts hl0 q1 q2 q3 hpr hfl hpl
            have hge2' : 2 ≤ (tm :: tr).length := by rw [List.length_cons]; exact hge2
            have hle3' : (tm :: tr).length ≤ 3 := by rw [List.length_cons]; exact hle3
            have hht' : (sumE (tm :: tr)).ht ≤ 2 := sumE_ht hge2'
            k_steps
            rename Fr _ _ _ _ => F5
            rename News _ _ _ _ => N5
            refine Hold.intro (subB N5 (mem_led hmd) (by omega) (by omega) (v := .ref g1) rfl ?_)
            k_steps
            refine Hold.intro (ledEq r474 X T B hg0 l474 F5 N5 hoC4 (tbr _ F5.keep (N5 _ (.tail _ (.tail _ (.tail _ (.tail _ (.tail _ (.head _))))))).1) hh (by simp only [depth_deeper]; omega) (by simp only [units_deeper]; omega) hmv hg1 (by omega) (by omega) ?_)
            intro h6 tk6 gn6 ob6 F6 N6 tb6 gk6
            rw [eqb_false hnm]
            have gk8 := gk7.trans gk6
            clear tbr
            have tbr := tbOf2 r474 tb6 F6.keep h478 (N6 _ (.tail _ (.tail _ (.tail _ (.tail _ (.tail _ (.head _))))))).1
            clear F5 N5 tb6 gk6 gk7
            k_steps
            refine Hold.intro (subB N6 (mem_led hmd) (by omega) (by omega) (v := .ref g2) rfl ?_)
            k_steps
            refine Hold.intro (ledEq r474 X T B hg0 l474 F6 N6 hoC4 (tbr _ F6.keep (N6 _ (.tail _ (.tail _ (.tail _ (.tail _ (.tail _ (.head _))))))).1) hh (by simp only [depth_deeper]; omega) (by simp only [units_deeper]; omega) hg2 hmv (by omega) (by omega) ?_)
            intro h7' tk7' gn7' ob7' F7' N7' tb7' gk7'
            rw [eqb_false hnm.symm]
            have gk9 := gk8.trans gk7'
            clear tbr
            have tbr := tbOf2 r474 tb7' F7'.keep h478 (N7' _ (.tail _ (.tail _ (.tail _ (.tail _ (.tail _ (.head _))))))).1
            clear F6 N6 tb7' gk8 gk7' hmv
            k_steps
            refine Hold.intro ?_
            have stg5 : St 5 := .mk
            rename Fr _ _ _ _ => F₀
            rename News _ _ _ _ => N₀
            obtain ⟨z7, t7, hz7⟩ := hitem 7 (by omega)
            obtain ⟨z8, t8, hz8⟩ := hitem 8 (by omega)
            refine subB N₀ (mem_led K.nums) (by omega) (by omega) hz7 ?_
            k_steps
            rename Fr _ _ _ _ => F1
            rename News _ _ _ _ => N1
            refine Hold.intro (value_c (S := FS gd) K.plus K.times P (X.keeps F1.keep) (T.keeps F1.keep) (FS.inL N1 fun q hq => mem_led hq) hh (by simp only [depth_deeper]; omega) (by simp only [units_deeper]; omega) ?_)
            intro T1 h1 tk1 f1 vx l1 us es n1 n2 st1 fr1 hT1 hl1 hsv hgood hhv hus
            obtain ⟨ge, F2, N2, hoC5, sb5, g5⟩ := ledAdd F1 N1 hoC4 st1 fr1
            clear N1 F1
            k_steps
            refine unpackN_ F2 N2 (by exact News.isTup N2 (mem_led (g5 _ hT1))) hh (by rfl) (by rfl) ?_
            intro h3 F3 N3
            clear F2 N2
            k_steps
            rename Fr _ _ _ _ => F1
            rename News _ _ _ _ => N1
            have K5 := K.mono sb5
            refine Hold.intro (subB N1 (mem_led K5.nums) (by omega) (by omega) hz8 ?_)
            k_steps
            refine Hold.intro (value_c (S := FS ge) K5.plus K5.times P (X.keeps F1.keep) (T.keeps F1.keep) (FS.inL N1 fun q hq => mem_led hq) hh (by simp only [depth_deeper]; omega) (by simp only [units_deeper]; omega) ?_)
            intro T2 h4 tk4 f2 vy l2 uy ey n3 n4 st4 fr4 hT2 hl2 hsvy hgoody hhvy huy
            obtain ⟨gf, F4, N4, hoC6, sb6, g6⟩ := ledAdd F1 N1 hoC5 st4 fr4
            clear N1 F1
            k_steps
            refine unpackN_ F4 N4 (by exact News.isTup N4 (mem_led (g6 _ hT2))) hh (by rfl) (by rfl) ?_
            intro h5 F5 N5
            clear F4 N4
            have sbA : ∀ q ∈ gd, q ∈ gf := fun q hq => sb6 q (sb5 q hq)
            have K := K.mono sbA
            have hmd := sbA _ hmd
            have hD := sbA _ hD
            have hg1 := hg1.mono (FS.sub sbA)
            have hg2 := hg2.mono (FS.sub sbA)
            have hterms : IsTerms (FS gf) (Value.ref rl0 :: yr) (tm :: tr) := hterms.mono (FS.sub sbA)
            have hdue := hdue.mono (FS.sub sbA)
            have hsv := hsv.mono (more_sub (fun q hq => sb6 q (g5 q hq)) sbA)
            have hsvy := hsvy.mono (more_sub g6 sb6)
            have hus := hus.mono (more_sub (fun q hq => sb6 q (g5 q hq)) sbA)
            have huy := huy.mono (more_sub g6 sb6)
            have hl1 := sb6 _ (g5 _ hl1)
            have hl2 := g6 _ hl2
            clear hT1 hT2 st1 fr1 st4 fr4 hoC5 K5 hoC4 sb5 g5 sb6 g6 sbA
            k_steps
            refine Hold.intro (compD (a := 0) (b := 3) (n := 3) (fun i kvs news => ∃ gs, news = led L r c1 c2' c3' c4' c5' ob7' gs ∧ OffC L r gs ∧ (∀ q ∈ gf, q ∈ gs) ∧ Abc (FS gs) ([Leaf.a, .b, .c].take i) kvs) (by k_asm) hh (by rfl) (by rfl) (by rw [sizeLine_eq]; omega)
              (by with_unfolding_all rfl) (by decide) (by with_unfolding_all rfl) (by decide) (by with_unfolding_all rfl) ?_ ?_ ?_)
            · k_steps
              rename Fr _ _ _ _ => F6
              rename News _ _ _ _ => N6
              refine Hold.intro (rangeNew F6 N6 (fun rr h' tk u v F' N' hr => ?_))
              k_steps
              exact ⟨_, _, _, _, _, _, _, rfl, rfl, F', N', hr, gf, rfl, hoC6, fun _ h => h, .nil⟩
            · rintro v i kvs news I oI C oC D' oD m₂ h tk ⟨t, rfl⟩ hi3 ⟨gs, rfl, hoff, hsub, habc⟩ hC hm hoD F6 N6 off ne1 ne2 ne3
              k_steps
              refine Hold.intro (abcSub (by omega) (by omega) ?_)
              k_steps
              refine Hold.intro (abcSub (by omega) (by omega) ?_)
              k_steps
              rename Fr _ _ _ _ => F7
              rename News _ _ _ _ => N7
              rename_i ln _ lo
              obtain ⟨o1, o2, o3, o4, o5, o6, o7, o8, o9, o10⟩ := lo
              have off3 := off.mem
              refine ⟨_, _, led L r c1 c2' c3' c4' c5' ob7' ((ln, listOf #[.str (abcL (0 + (i : Int))).nm (tk + 1 + 1 + 1)] 0) :: gs), _, _, rfl, rfl, F7, fun q hq => N7 q ?_, LCg.Off3.of fun q hq => ?_, _, rfl, ?_, fun q hq => .tail _ (hsub q hq), (habc.mono (FS.sub fun q hq => .tail _ hq)).turn hi3 (show (_, _) ∈ _ from .head _)⟩
              · simp only [List.mem_cons] at hq ⊢
                rcases hq with h | h | h | h | h | h | h | h | h | h | h <;> simp [h]
              · simp only [List.mem_cons] at hq
                rcases hq with h | h | h | h | h | h | h | h
                · exact off3 q (by simp [h])
                · exact off3 q (by simp [h])
                · exact off3 q (by simp [h])
                · exact off3 q (by simp [h])
                · exact off3 q (by simp [h])
                · exact off3 q (by simp [h])
                · rw [h]; exact ⟨Nat.ne_of_gt o1, Nat.ne_of_gt o2, Nat.ne_of_gt o3⟩
                · exact off3 q (mem_led h)
              · intro q hq
                rcases List.mem_cons.mp hq with h | h
                · rw [h]; exact ⟨Nat.ne_of_gt o4, Nat.ne_of_gt o5, Nat.ne_of_gt o6, Nat.ne_of_gt o7, Nat.ne_of_gt o8, Nat.ne_of_gt o9⟩
                · exact hoff q h
            · rintro D' oD h tk kvs news ⟨gs, rfl, hoff, hsub, habc⟩ hoD F6 N6 off1
              k_steps
              have off1' : ∀ q ∈ led L r c1 c2' c3' c4' c5' ob7' gs, q.1 ≠ D' := off1_mem off1
              refine storeX_C F6 N6 (by rfl) (.tail (off1' _ (.head _)).symm (upd1 hoff l474)) d1 ?_
              intro h7 c1' F7 N7 d1'
              k_steps
              rename Fr _ _ _ _ => F8
              rename News _ _ _ _ => N8
              refine unpackN_ F8 N8 (by exact News.isTup N8 (.head _)) hh (by rfl) (by rfl) ?_
              intro h9 F9 N9
              clear F8 N8
              k_steps
              have k3 : kvs.length ≤ 60 := by have := congrArg List.length habc.keys; rw [List.length_map, List.length_map] at this; rw [this]; decide
              have off2' : ∀ q ∈ led L r c1' c2' c3' c4' c5' ob7' gs, q.1 ≠ D' := fun q hq => by
                rcases List.mem_cons.mp hq with h | h
                · rw [h]; exact off1' (L + 1 + 1 + 1 + 1 + 1, c1) (.head _)
                · exact off1' q (.tail _ h)
              refine setItemD F9 (fun q hq => N9 q (.tail _ hq)) hoD off2' k3 ?_
              intro oD1 h10 tk10 ho1 F10 N10
              clear F9 N9
              k_steps
              refine setItemD F10 N10 ho1 off2' (by have := stored_length_le kvs "x" (Value.ref l1); have := congrArg List.length habc.keys; rw [List.length_map, List.length_map] at this; have : kvs.length = 3 := this; omega) ?_
              intro oD2 h11 tk11 ho2 F11 N11
              have hrows : ValRows (FS gs) (stored (stored kvs "x" (.ref l1)) "y" (.ref l2)) (fun l => (sg (sgOf es ey) l).map pl) := valRows habc (hsub _ hl1) (hus.mono (FS.sub hsub)) (hsub _ hl2) (huy.mono (FS.sub hsub))
              have hoff : OffC L r ((D', oD2) :: gs) := fun q hq => by
                rcases List.mem_cons.mp hq with h | h
                · rw [h]
                  have o := fun q hq => (off1' q hq).symm
                  exact ⟨o _ (.head _), o _ (.tail _ (.head _)), o _ (.tail _ (.tail _ (.head _))), o _ (.tail _ (.tail _ (.tail _ (.head _)))), o _ (.tail _ (.tail _ (.tail _ (.tail _ (.head _))))), o _ (.tail _ (.tail _ (.tail _ (.tail _ (.tail _ (.head _))))))⟩
                · exact hoff q h
              have N11 : News (less s.heap r) L h11 (led L r c1' c2' c3' c4' c5' ob7' ((D', oD2) :: gs)) := fun q hq => N11 q (by
                simp only [List.mem_cons] at hq ⊢
                rcases hq with h | h | h | h | h | h | h | h <;> simp [h])
              obtain ⟨gv, egv⟩ : ∃ gv, gv = (D', oD2) :: gs := ⟨_, rfl⟩
              have hDv : (D', oD2) ∈ gv := by rw [egv]; exact .head _
              have sbA : ∀ q ∈ gf, q ∈ gv := fun q hq => by rw [egv]; exact .tail _ (hsub q hq)
              have hrows := hrows.mono (S' := FS gv) (FS.sub fun q hq => by rw [egv]; exact .tail _ hq)
              rw [← egv] at hoff N11
              have K := K.mono sbA
              have hmd := sbA _ hmd
              have hD := sbA _ hD
              have hg1 := hg1.mono (FS.sub sbA)
              have hg2 := hg2.mono (FS.sub sbA)
              have hterms : IsTerms (FS gv) (Value.ref rl0 :: yr) (tm :: tr) := hterms.mono (FS.sub sbA)
              have hdue := hdue.mono (FS.sub sbA)
              have hsv := hsv.mono (FS.sub sbA)
              have hsvy := hsvy.mono (FS.sub sbA)
              clear F10 N10 off1 off2' hl1 hl2 hus huy habc hsub egv sbA hoD ho1 hoC6 k3 off1'
              k_steps
              rename Fr _ _ _ _ => Fz
              rename News _ _ _ _ => Nz
              rename_i an _ loA _
              refine Hold.intro ?_
              have stg6 : St 6 := .mk
              rename Fr _ _ _ _ => F₀
              rename News _ _ _ _ => N₀
              have hσ : ∀ l : Leaf, l.isVar = true → GoodV (sgOf es ey l) := fun l hl => by
                cases l with
                | x => exact hgood
                | y => exact hgoody
                | a => cases hl
                | b => cases hl
                | c => cases hl
              have an6 : OffC L r [(an, listOf #[] 0)] := fun q hq => by
                rw [List.mem_singleton.mp hq]
                exact ⟨Nat.ne_of_gt loA.1, Nat.ne_of_gt loA.2.1, Nat.ne_of_gt loA.2.2.1, Nat.ne_of_gt loA.2.2.2.1, Nat.ne_of_gt loA.2.2.2.2.1, Nat.ne_of_gt loA.2.2.2.2.2.1⟩
              have anv : ∀ q ∈ gv, q.1 ≠ an := fun q hq => Nat.ne_of_lt (allLt_get gv loA.2.2.2.2.2.2 q hq)
              have hDl : ∀ ts : List Value, ts = Value.ref rl0 :: yr → ts.length = (tm :: tr).length := fun ts e => e ▸ hterms.length
              obtain ⟨M, hM⟩ : ∃ M : Str → Option Value, M = fun y => (if y = ("anew" : Str) then some (.ref an) else if y = ("other" : Str) then some (.ref l2) else if y = ("y" : Str) then some vy else if y = ("laid" : Str) then some (.ref l1) else if y = ("x" : Str) then some vx else if y = ("more" : Str) then some (.ref mr) else if y = ("due" : Str) then some dv
                    else if y = ("products" : Str) then m ("products" : Str) else if y = ("made" : Str) then some (.ref ml) else if y = ("terms" : Str) then some (.ref D) else if y = ("plus" : Str) then some (.ref kp) else if y = ("script" : Str) then some (.ref rs) else none) := ⟨_, rfl⟩
              refine forList (h₀ := less s.heap r) (L := L) (l := D) (items := (Value.ref rl0 :: yr).toArray) (fun i mm news => ∃ (zs : List Value) (n' : Nat) (fs : List (Addr × Obj)), news = (an, listOf zs.toArray n') :: led L r c1' c2' c3' c4' c5' ob7' fs ∧ OffC L r fs ∧ (∀ q ∈ fs, q.1 ≠ an) ∧ (∀ q ∈ gv, q ∈ fs) ∧
                  IsTrs (FS fs) zs (anewT (sgOf es ey) ((tm :: tr).take i)) ∧
                  ∀ y, y ≠ ("parts" : Str) → y ≠ ("term" : Str) → mm y = M y) ?_ ?_ ?_ ?_ hh (by with_unfolding_all rfl) (by with_unfolding_all rfl)
              · k_steps
                exact ⟨rfl, _, _, _, _, rfl, F₀, N₀, [], 0, gv, rfl, hoff, anv, fun _ h => h, by simpa [anewT] using IsTrs.nil, fun _ _ _ => by rw [hM]⟩
              · rintro i mm news h ⟨zs, n', fs, rfl, hoC, hna, hsub, hzs, hm⟩ F N
                exact ⟨_, (N _ (.tail _ (mem_led (hsub _ hD)))).1, rfl, _, rfl⟩
              · rintro i v mm news it o h tk hv ⟨zs, n', fs, rfl, hoC, hna, hsub, hzs, hm⟩ hn hit F N
                rw [mapTwo hm, hM] at F
                have hts : IsTerms (FS fs) (Value.ref rl0 :: yr) (tm :: tr) := hterms.mono (FS.sub hsub)
                have hv' : (Value.ref rl0 :: yr)[i]? = some v := by simpa using hv
                obtain ⟨term, hterm, rl, nr, us, rfl, hrl, hus⟩ := hts.get hv'
                have htm := List.mem_of_getElem? hterm
                have hok1 := hok term htm
                have husl : us.length = term.length := by have := hus.length; rwa [List.length_map] at this
                have hrows' := hrows.mono (S' := FS fs) (FS.sub hsub)
                have hDv' := hsub _ hDv
                have hita : it ≠ an := fun z => hn _ (.head _) z.symm
                have hn2 : ∀ q ∈ fs, q.1 ≠ it := fun q hq => hn q (.tail _ (mem_led hq))
                have htk : (tm :: tr).take (i + 1) = (tm :: tr).take i ++ [term] := by rw [List.take_add_one, hterm, Option.toList_some]
                have fin : ∀ (s₀ : Shared) {h'' : Heap} {tk'' n'' : Nat} {zs' : List Value} {m'' : Str → Option Value} {fs' : List (Addr × Obj)}, Fr (less s.heap r) L h'' m'' → News (less s.heap r) L h'' ((it, o) :: (an, listOf (zs ++ zs').toArray n'') :: led L r c1' c2' c3' c4' c5' ob7' fs') → OffC L r fs' → (∀ q ∈ fs', q.1 ≠ an) → (∀ q ∈ fs', q.1 ≠ it) → (∀ q ∈ fs, q ∈ fs') → IsTrs (FS fs') zs' (termT (sgOf es ey) term) →
                    (∀ y, y ≠ ("parts" : Str) → y ≠ ("term" : Str) → m'' y = M y) →
                    ∃ m' news' h' tk', ({ s₀ with heap := h'', toks := tk'' } : Shared) = { s₀ with heap := h', toks := tk' } ∧ Fr (less s.heap r) L h' m' ∧ News (less s.heap r) L h' ((it, o) :: news') ∧ (∀ p ∈ news', p.1 ≠ it) ∧ ∃ (zs : List Value) (n' : Nat) (fs : List (Addr × Obj)), news' = (an, listOf zs.toArray n') :: led L r c1' c2' c3' c4' c5' ob7' fs ∧ OffC L r fs ∧ (∀ q ∈ fs, q.1 ≠ an) ∧ (∀ q ∈ gv, q ∈ fs) ∧
                      IsTrs (FS fs) zs (anewT (sgOf es ey) ((tm :: tr).take (i + 1))) ∧ ∀ y, y ≠ ("parts" : Str) → y ≠ ("term" : Str) → m' y = M y := by
                  rintro s₀ h'' tk'' n'' zs' m'' fs' F'' N'' o1 o2 o3 sub hz hm''
                  refine ⟨m'', _, h'', tk'', rfl, F'', N'', ?_, zs ++ zs', n'', fs', rfl, o1, o2, fun q hq => sub q (hsub q hq), ?_, hm''⟩
                  · intro p hp
                    rcases List.mem_cons.mp hp with rfl | hp
                    · exact hita.symm
                    · simp only [List.mem_cons] at hp
                      rcases hp with h | h | h | h | h | h | h
                      · rw [h]; exact hn (L + 1 + 1 + 1 + 1 + 1, c1') (.tail _ (.head _))
                      · rw [h]; exact hn (L + 1 + 1 + 1 + 1, c2') (.tail _ (.tail _ (.head _)))
                      · rw [h]; exact hn (L + 1 + 1 + 1, c3') (.tail _ (.tail _ (.tail _ (.head _))))
                      · rw [h]; exact hn (L + 1 + 1, c4') (.tail _ (.tail _ (.tail _ (.tail _ (.head _)))))
                      · rw [h]; exact hn (L + 1, c5') (.tail _ (.tail _ (.tail _ (.tail _ (.tail _ (.head _))))))
                      · rw [h]; exact hn (r, ob7') (.tail _ (.tail _ (.tail _ (.tail _ (.tail _ (.tail _ (.head _)))))))
                      · exact o3 p h
                  · rw [htk, anewT, List.flatMap_append, List.flatMap_singleton]
                    exact hz.append (hzs.mono (FS.sub sub))
                have zsl : zs.length ≤ 6 := by
                  have a := hzs.length
                  have hok2 : ∀ t ∈ (tm :: tr).take i, 1 ≤ t.length := fun t ht => (hok t (List.mem_of_mem_take ht)).1
                  rw [← anewE_pl hσ hok2, List.length_map] at a
                  have b := (anewE_len hσ hok2).2
                  rw [List.length_take] at b
                  omega
                k_steps
                refine Hold.intro (assignN us.toArray (fun i2 ys news => news = (it, o) :: (an, listOf zs.toArray n') :: led L r c1' c2' c3' c4' c5' ob7' fs ∧ IsTrs (FS fs) ys ((term.take i2).flatMap fun l => (sg (sgOf es ey) l).map pl)) F (by with_unfolding_all rfl) hh (by with_unfolding_all rfl)
                  (by with_unfolding_all rfl) (by decide) (by with_unfolding_all rfl) (by decide) (by with_unfolding_all rfl) (by with_unfolding_all rfl) (by decide) (by with_unfolding_all rfl) (by with_unfolding_all rfl) ?_ ?_ ?_)
                · k_steps
                  exact ⟨rl, _, _, _, rfl, rfl, F, N, fun i2 ys n2' j => by rw [j.1]; exact .inr ⟨_, .tail _ (.tail _ (mem_led hrl)), rfl, _, rfl⟩, rfl, by simpa using IsTrs.nil⟩
                · rintro v i2 ys news I oI C oC D2 m2 h2 tk2 hv2 ⟨rfl, hys⟩ hC hm2 F2 N2 off2 ne1 ne2 ne3
                  have hv2' : us[i2]? = some v := by simpa using hv2
                  have hlt2 : i2 < term.length := by rw [← husl]; exact (List.getElem?_eq_some_iff.mp hv2').1
                  obtain ⟨l, hl⟩ : ∃ l, term[i2]? = some l := ⟨_, List.getElem?_eq_getElem hlt2⟩
                  obtain ⟨tl, htl'⟩ := hus.get i2 l.ix (by rw [List.getElem?_map, hl]; rfl)
                  rw [htl'] at hv2'
                  cases hv2'
                  obtain ⟨a, na, ua, hva, hra, hua⟩ := hrows' l
                  k_steps
                  refine Hold.intro (letterSub ?_)
                  k_steps
                  refine Hold.intro (valD (N2 _ (.tail _ (.tail _ (.tail _ (.tail _ (.tail _ (mem_led hDv'))))))).1 ho2 hva ?_)
                  refine ⟨a, ua.toArray, _, _, _, rfl, rfl, F2, N2, off2, .inr ⟨_, .tail _ (.tail _ (mem_led hra)), rfl, _, rfl⟩, ?_, rfl, ?_⟩
                  · have q1 := hys.length
                    have q2 := hua.length
                    have q3 := (sg_len hσ (term.take i2)).2
                    have q4 := (sg_good hσ l).2.1
                    rw [← flatMap_pl, List.length_map] at q1
                    rw [List.length_map] at q2
                    rw [List.length_take] at q3
                    rw [List.size_toArray, sizeLine_eq]
                    omega
                  · rw [List.take_add_one, hl, Option.toList_some, List.flatMap_append, List.flatMap_singleton]
                    exact hua.append hys
                · rintro D2 h2 tk2 ys news ⟨rfl, hys⟩ F2 N2 o1
                  rw [List.size_toArray, husl, List.take_length] at hys
                  have oD2 : OffC L r [(D2, LCg.lst ys)] := fun q hq => by
                    rw [List.mem_singleton.mp hq]
                    have o := fun q hq => (o1 q hq).symm
                    exact ⟨o (L + 1 + 1 + 1 + 1 + 1, c1') (.tail _ (.tail _ (.head _))), o (L + 1 + 1 + 1 + 1, c2') (.tail _ (.tail _ (.tail _ (.head _)))), o (L + 1 + 1 + 1, c3') (.tail _ (.tail _ (.tail _ (.tail _ (.head _))))), o (L + 1 + 1, c4') (.tail _ (.tail _ (.tail _ (.tail _ (.tail _ (.head _)))))), o (L + 1, c5') (.tail _ (.tail _ (.tail _ (.tail _ (.tail _ (.tail _ (.head _))))))), o (r, ob7') (.tail _ (.tail _ (.tail _ (.tail _ (.tail _ (.tail _ (.tail _ (.head _)))))))) ⟩
                  have oDi : D2 ≠ it := fun z => o1 _ (.head _) z.symm
                  have oDa : D2 ≠ an := fun z => o1 _ (.tail _ (.head _)) z.symm
                  have lk2 := sg_len hσ term
                  have yl := hys.length
                  rw [← flatMap_pl, List.length_map] at yl
                  have leda : ∀ q ∈ led L r c1' c2' c3' c4' c5' ob7' fs, q.1 ≠ an := fun q hq => by
                    simp only [List.mem_cons] at hq
                    rcases hq with h | h | h | h | h | h | h
                    · rw [h]; exact Nat.ne_of_lt loA.1
                    · rw [h]; exact Nat.ne_of_lt loA.2.1
                    · rw [h]; exact Nat.ne_of_lt loA.2.2.1
                    · rw [h]; exact Nat.ne_of_lt loA.2.2.2.1
                    · rw [h]; exact Nat.ne_of_lt loA.2.2.2.2.1
                    · rw [h]; exact Nat.ne_of_lt loA.2.2.2.2.2.1
                    · exact hna q h
                  (try dsimp only at F2)
                  walk1
                  walk1
                  refine wpAny_loadName_local (by rfl) (by rfl) F2.ns (by rfl) ?_
                  k_steps
                  refine lenNk N2 (.tail _ (.tail _ (.tail _ (mem_led hrl)))) husl (by omega) ?_
                  intro tn kn
                  k_steps
                  · rename_i heq
                    have heq' : term.length = 1 := by omega
                    refine Hold.intro (iaddL (own := [(D2, LCg.lst ys), (it, o)]) (ws := ys) F2 N2 (fun q hq => ?_) leda (N2 _ (.head _)).1 (by omega) ?_)
                    · simp only [List.mem_cons, List.not_mem_nil, or_false] at hq
                      rcases hq with rfl | rfl
                      · exact oDa
                      · exact hita
                    intro h4 n4 F4 N4
                    k_steps
                    rename Fr _ _ _ _ => F6
                    rename News _ _ _ _ => N6
                    refine fin { s with gens := gn7' } (zs' := ys) (n'' := n4) (fs' := (D2, LCg.lst ys) :: fs) F6 (fun q hq => N6 q ?_) (OffC.app (fs := [_]) oD2 hoC) (fun q hq => ?_) (fun q hq => ?_) (fun q hq => .tail _ hq) ?_ (fun y y1 y2 => ?_)
                    · simp only [List.mem_cons, List.cons_append, List.nil_append] at hq ⊢
                      rcases hq with h | h | h | h | h | h | h | h | h | h <;> simp [h]
                    · rcases List.mem_cons.mp hq with rfl | h
                      · exact oDa
                      · exact hna q h
                    · rcases List.mem_cons.mp hq with rfl | h
                      · exact oDi
                      · exact hn2 q h
                    · rw [termT, if_pos heq']
                      exact hys.mono (FS.sub fun q hq => .tail _ hq)
                    · rw [hM]
                      show (if y = ("anew" : Str) then _ else if y = ("parts" : Str) then _ else if y = ("term" : Str) then _ else if y = ("term" : Str) then _ else if y = ("parts" : Str) then _ else _) = _
                      rw [if_neg y1, if_neg y2, if_neg y2, if_neg y1]
                      by_cases e : y = ("anew" : Str)
                      · rw [if_pos e]; exact (if_pos e).symm
                      · rw [if_neg e]
                  · rename_i hne
                    have hne' : ¬ term.length = 1 := by omega
                    have lk1 := fun e (he : e ∈ term.flatMap (sg (sgOf es ey))) => sg_mem hσ he
                    have jo := joinOk (k := false) (l := term.flatMap (sg (sgOf es ey))) (fun e he => (lk1 e he).1) (by have := sg_cnt hσ term; omega) (fun e he => by have := (lk1 e he).2.1; omega)
                    rw [flatMap_pl] at jo
                    refine Hold.intro (joined_c (S := FS fs) (k := false) (D := 120) (ts := term.flatMap fun l => (sg (sgOf es ey) l).map pl) (vs := ys) (n := ys.length) (X.keeps F2.keep) (T.keeps F2.keep) (FS.inL N2 fun q hq => .tail _ (.tail _ (.tail _ (mem_led hq)))) (N2 _ (.head _)).1 hys (by omega) (jo.2.1 (by omega)) jo.1 (fun u hu => (jo.2.2 u hu).1) (fun u hu => (jo.2.2 u hu).2) hh (by simp only [depth_deeper]; omega) (by simp only [units_deeper]; omega) ?_)
                    intro v5 h5 tk5 fs3 st5 fr5 hv5
                    obtain ⟨N5, nf5⟩ := newsAddL F2 N2 st5 fr5
                    have F5 := frStay F2 st5
                    k_steps
                    rename Fr _ _ _ _ => F6
                    rename News _ _ _ _ => N6
                    rename_i nl5 _ lo5
                    have low := fun q hq => Nat.ne_of_gt (lo5 q hq)
                    refine Hold.intro (iaddL (own := (nl5, listOf #[v5] 0) :: (it, o) :: (D2, LCg.lst ys) :: fs3) (d := an) (ys := zs) (n := n') (rest := led L r c1' c2' c3' c4' c5' ob7' fs) (ws := [v5]) F6 (fun q hq => N6 q ?_) (fun q hq => ?_) leda (N6 _ (.head _)).1 (by show zs.length + 1 ≤ _; omega) ?_)
                    · simp only [List.mem_cons, List.mem_append, List.cons_append] at hq ⊢
                      rcases hq with h | h | h | h | h | h <;> simp [h]
                    · rcases List.mem_cons.mp hq with h | hq
                      · rw [h]; exact low (an, listOf zs.toArray n') (List.mem_append_right _ (.tail _ (.tail _ (.head _))))
                      rcases List.mem_cons.mp hq with h | hq
                      · rw [h]; exact hita
                      rcases List.mem_cons.mp hq with h | hq
                      · rw [h]; exact oDa
                      · exact nf5 q hq _ (.tail _ (.tail _ (.head _)))
                    intro h7 n7 F7 N7
                    k_steps
                    rename Fr _ _ _ _ => F8
                    rename News _ _ _ _ => N8
                    refine fin { s with gens := gn7' } (zs' := [v5]) (n'' := n7) (fs' := (nl5, listOf #[v5] 0) :: (D2, LCg.lst ys) :: (fs3 ++ fs)) F8 (fun q hq => N8 q ?_) ?_ (fun q hq => ?_) (fun q hq => ?_) (fun q hq => .tail _ (.tail _ (List.mem_append_right _ hq))) ?_ (fun y y1 y2 => ?_)
                    · simp only [List.mem_cons, List.cons_append, List.mem_append] at hq ⊢
                      rcases hq with h | h | h | h | h | h | h | h | h | h | h | h <;> simp [h]
                    · intro q hq
                      rcases List.mem_cons.mp hq with h | hq
                      · rw [h]
                        have o := fun q hq => low q (List.mem_append_right _ (.tail _ (.tail _ (.tail _ hq))))
                        exact ⟨o (L + 1 + 1 + 1 + 1 + 1, c1') (.head _), o (L + 1 + 1 + 1 + 1, c2') (.tail _ (.head _)), o (L + 1 + 1 + 1, c3') (.tail _ (.tail _ (.head _))), o (L + 1 + 1, c4') (.tail _ (.tail _ (.tail _ (.head _)))), o (L + 1, c5') (.tail _ (.tail _ (.tail _ (.tail _ (.head _))))), o (r, ob7') (.tail _ (.tail _ (.tail _ (.tail _ (.tail _ (.head _))))))⟩
                      rcases List.mem_cons.mp hq with h | hq
                      · exact oD2 q (h ▸ .head _)
                      rcases List.mem_append.mp hq with h | h
                      · exact OffC.of (fun q hq p hp => nf5 q hq p (.tail _ (.tail _ (.tail _ hp)))) q h
                      · exact hoC q h
                    · rcases List.mem_cons.mp hq with h | hq
                      · rw [h]; exact low (an, listOf zs.toArray n') (List.mem_append_right _ (.tail _ (.tail _ (.head _))))
                      rcases List.mem_cons.mp hq with h | hq
                      · rw [h]; exact oDa
                      rcases List.mem_append.mp hq with h | h
                      · exact nf5 q h _ (.tail _ (.tail _ (.head _)))
                      · exact hna q h
                    · rcases List.mem_cons.mp hq with h | hq
                      · rw [h]; exact low (it, o) (List.mem_append_right _ (.tail _ (.head _)))
                      rcases List.mem_cons.mp hq with h | hq
                      · rw [h]; exact oDi
                      rcases List.mem_append.mp hq with h | h
                      · exact nf5 q h _ (.tail _ (.head _))
                      · exact hn2 q h
                    · rw [termT, if_neg hne']
                      exact .cons (hv5.mono (more_sub (fun q hq => .tail _ (.tail _ (List.mem_append_left _ hq))) (fun q hq => .tail _ (.tail _ (List.mem_append_right _ hq))))) .nil
                    · rw [hM]
                      show (if y = ("anew" : Str) then _ else if y = ("parts" : Str) then _ else if y = ("term" : Str) then _ else if y = ("term" : Str) then _ else if y = ("parts" : Str) then _ else _) = _
                      rw [if_neg y1, if_neg y2, if_neg y2, if_neg y1]
                      by_cases e : y = ("anew" : Str)
                      · rw [if_pos e]; exact (if_pos e).symm
                      · rw [if_neg e]
              · rintro mm news h tk ⟨zs, n', fs, rfl, hoC, hna, hsub, hzs, hm⟩ F N
                rw [mapTwo hm, hM] at F
                rw [List.size_toArray, hDl _ rfl, List.take_length] at hzs
                obtain ⟨ga, ega⟩ : ∃ ga, ga = (an, listOf zs.toArray n') :: fs := ⟨_, rfl⟩
                have hoA : OffC L r ga := by rw [ega]; exact OffC.app (fs := [_]) (fun q hq => by rw [List.mem_singleton.mp hq]; exact an6 (an, listOf #[] 0) (.head _)) hoC
                have hanw : (an, listOf zs.toArray n') ∈ ga := by rw [ega]; exact .head _
                have sbF : ∀ q ∈ fs, q ∈ ga := fun q hq => by rw [ega]; exact .tail _ hq
                have sbA : ∀ q ∈ gv, q ∈ ga := fun q hq => sbF q (hsub q hq)
                have N : News (less s.heap r) L h (led L r c1' c2' c3' c4' c5' ob7' ga) := fun q hq => N q (by
                  rw [ega] at hq
                  simp only [List.mem_cons] at hq ⊢
                  rcases hq with h | h | h | h | h | h | h | h <;> simp [h])
                have hzs : IsTrs (FS ga) zs (anewT (sgOf es ey) (tm :: tr)) := hzs.mono (FS.sub sbF)
                have K := K.mono sbA
                have hmd := sbA _ hmd
                have hg1 := hg1.mono (FS.sub sbA)
                have hg2 := hg2.mono (FS.sub sbA)
                have hdue := hdue.mono (FS.sub sbA)
                have hsv := hsv.mono (FS.sub sbA)
                have hsvy := hsvy.mono (FS.sub sbA)
                clear sbA sbF ega hsub hna hoC hm F₀ N₀ hoff hterms hD hDv hrows anv hDl an6
                k_steps
                refine Hold.intro ?_
                have stg7 : St 7 := .mk
                rename Fr _ _ _ _ => F₀
                rename News _ _ _ _ => N₀
                have hok1 : ∀ t ∈ tm :: tr, 1 ≤ t.length := fun t ht => (hok t ht).1
                have hT1 : mk true (anewE (sgOf es ey) (tm :: tr)) = mk true (anewE (sgOf es ey) (tm :: tr)) := rfl
                obtain ⟨M2, hM2⟩ : ∃ M2 : Str → Option Value, M2 = fun y => (if y = ("term" : Str) then mm ("term" : Str) else if y = ("parts" : Str) then mm ("parts" : Str) else if y = ("anew" : Str) then some (.ref an) else if y = ("other" : Str) then some (.ref l2) else if y = ("y" : Str) then some vy else if y = ("laid" : Str) then some (.ref l1) else if y = ("x" : Str) then some vx else if y = ("more" : Str) then some (.ref mr) else if y = ("due" : Str) then some dv
                      else if y = ("products" : Str) then m ("products" : Str) else if y = ("made" : Str) then some (.ref ml) else if y = ("terms" : Str) then some (.ref D) else if y = ("plus" : Str) then some (.ref kp) else if y = ("script" : Str) then some (.ref rs) else none) := ⟨_, rfl⟩
                refine forListG (h₀ := less s.heap r) (L := L) (l := ml) (items := #[.ref g1, .ref g2]) (fun i g mq news => ∃ (ob1 : Obj) (fs : List (Addr × Obj)), news = led L r c1' c2' c3' c4' c5' ob1 fs ∧ OffC L r fs ∧ (∀ q ∈ ga, q ∈ fs) ∧ GK s.gens g ∧ (∀ h', (less s.heap r).StaysIn h' → h'.get? r = some ob1 → Tb h') ∧
                    ∀ y, y ≠ ("told" : Str) → y ≠ ("one" : Str) → mq y = M2 y) ?_ ?_ ?_ ?_ hh (by with_unfolding_all rfl) (by with_unfolding_all rfl)
                · k_steps
                  exact ⟨rfl, _, _, _, _, rfl, F₀, N₀, ob7', ga, rfl, hoA, fun _ h => h, gk9, tbr, fun _ _ _ => by rw [hM2]⟩
                · rintro i g mq news h ⟨ob1, fs, rfl, hoC, hsub, gk, tb1, hm⟩ F N
                  exact ⟨_, (N _ (mem_led (hsub _ hmd))).1, rfl, _, rfl⟩
                · rintro i v g mq news it o h tk hv ⟨ob1, fs, rfl, hoC, hsub, gk, tb1, hm⟩ hn hit F N
                  rw [mapTwo hm, hM2] at F
                  have K := K.mono hsub
                  obtain ⟨a, rfl, hva⟩ : ∃ a, v = .ref a ∧ IsEx w.params (FS fs) (.ref a) (sumE (tm :: tr)) := by
                    match i, hv with
                    | 0, hv => exact ⟨g1, (Option.some.inj hv).symm, hg1.mono (FS.sub hsub)⟩
                    | 1, hv => exact ⟨g2, (Option.some.inj hv).symm, hg2.mono (FS.sub hsub)⟩
                    | k + 2, hv => simp at hv
                  have hdue := hdue.mono (FS.sub hsub)
                  have hsv := hsv.mono (FS.sub hsub)
                  have hsvy := hsvy.mono (FS.sub hsub)
                  have hzs := hzs.mono (FS.sub hsub)
                  have hanw := hsub _ hanw
                  k_steps
                  refine Hold.intro (kdn_str (by rfl) F N T.nolimit (by rfl) (by rfl) (List.cons_ne_nil _ _) (by decide) ?_)
                  intro sd h1 oS F1 N1 ltS loS hd0
                  k_steps
                  refine kdn_made_str F1 N1 (.head fun p hp => Nat.ne_of_lt (ltS p hp)) hd0 (by rfl) (of_decide_eq_true (by rfl)) ?_
                  intro h2 oS' F2 N2 hdS
                  have hdS : oS'.IsDictOf (strKind prog w) [("x", vx), ("y", vy)] := hdS
                  have itO : OffC L r [(it, o)] := fun q hq => by
                    rw [List.mem_singleton.mp hq]
                    have o := fun q hq => (hn q hq).symm
                    exact ⟨o (L + 1 + 1 + 1 + 1 + 1, c1') (.head _), o (L + 1 + 1 + 1 + 1, c2') (.tail _ (.head _)), o (L + 1 + 1 + 1, c3') (.tail _ (.tail _ (.head _))), o (L + 1 + 1, c4') (.tail _ (.tail _ (.tail _ (.head _)))), o (L + 1, c5') (.tail _ (.tail _ (.tail _ (.tail _ (.head _))))), o (r, ob1) (.tail _ (.tail _ (.tail _ (.tail _ (.tail _ (.head _))))))⟩
                  have sdO : OffC L r [(sd, oS')] := fun q hq => by
                    rw [List.mem_singleton.mp hq]
                    have o := fun q hq => Nat.ne_of_gt (ltS q (.tail _ hq))
                    exact ⟨o (L + 1 + 1 + 1 + 1 + 1, c1') (.head _), o (L + 1 + 1 + 1 + 1, c2') (.tail _ (.head _)), o (L + 1 + 1 + 1, c3') (.tail _ (.tail _ (.head _))), o (L + 1 + 1, c4') (.tail _ (.tail _ (.tail _ (.head _)))), o (L + 1, c5') (.tail _ (.tail _ (.tail _ (.tail _ (.head _))))), o (r, ob1) (.tail _ (.tail _ (.tail _ (.tail _ (.tail _ (.head _))))))⟩
                  obtain ⟨f0, ef0⟩ : ∃ f0, f0 = (sd, oS') :: (it, o) :: fs := ⟨_, rfl⟩
                  have hoC0 : OffC L r f0 := by rw [ef0]; exact OffC.app (fs := [_]) sdO (OffC.app (fs := [_]) itO hoC)
                  have hsd0 : (sd, oS') ∈ f0 := by rw [ef0]; exact .head _
                  have hit0 : (it, o) ∈ f0 := by rw [ef0]; exact .tail _ (.head _)
                  have sb0 : ∀ q ∈ fs, q ∈ f0 := fun q hq => by rw [ef0]; exact .tail _ (.tail _ hq)
                  have N2 : News (less s.heap r) L h2 (led L r c1' c2' c3' c4' c5' ob1 f0) := fun q hq => N2 q (by
                    rw [ef0] at hq
                    simp only [List.mem_cons] at hq ⊢
                    rcases hq with h | h | h | h | h | h | h | h | h <;> simp [h])
                  have K := K.mono sb0
                  have hva := hva.mono (FS.sub sb0)
                  have hdue := hdue.mono (FS.sub sb0)
                  have hsv := hsv.mono (FS.sub sb0)
                  have hsvy := hsvy.mono (FS.sub sb0)
                  have hzs := hzs.mono (FS.sub sb0)
                  have hanw := sb0 _ hanw
                  clear F N F1 N1 hd0 ltS itO sdO ef0
                  k_steps
                  have e0 := sumE_eq hge2'
                  have hva2 : IsEx w.params (FS f0) (.ref a) (.op true (srt ((tm :: tr).map prodE))) := e0 ▸ hva
                  have hok3 : OkS (sgOf es ey) 3 (.op true (srt ((tm :: tr).map prodE))) := e0 ▸ okS_sum hσ hge2' hle3' (fun t ht => hok t ht)
                  have hht3 : (Ex.op true (srt ((tm :: tr).map prodE))).ht < 3 := by rw [← e0]; omega
                  refine Hold.intro (substitute_c (σ := sgOf es ey) (N := 3) (n := 3) (S := FS f0) (vx := vx) (vy := vy) hht3 P (X.keeps F2.keep) (T.keeps F2.keep) hh (by simp only [depth_deeper]; omega) (by simp only [units_deeper]; omega) (FS.inL N2 fun q hq => mem_led hq) hva2 hok3 ⟨_, hsd0, hdS⟩ loS hsv hsvy ?_)
                  intro tv h3 tk3 fs3 e' st3 fr3 hse hte
                  rw [← e0, sb_sum _ hge2'] at hse
                  obtain rfl := (List.cons.inj hse).1
                  obtain ⟨f1, F3, N3, hoC1, sb1, gg1⟩ := ledAdd F2 N2 hoC0 st3 fr3
                  have hte := hte.mono (more_sub gg1 sb1)
                  have K := K.mono sb1
                  have hva := hva.mono (FS.sub sb1)
                  have hdue := hdue.mono (FS.sub sb1)
                  have hzs := hzs.mono (FS.sub sb1)
                  have hanw := sb1 _ hanw
                  have hit1 := sb1 _ hit0
                  have sf1 : ∀ q ∈ fs, q ∈ f1 := fun q hq => sb1 q (sb0 q hq)
                  clear F2 N2 hse st3 fr3 hva2 hok3 hht3 e0 sb1 gg1 hsv hsvy hsd0 hdS loS hit0 sb0
                  obtain ⟨ta, e⟩ := hte.isRef
                  subst e
                  have tht := told_ht hσ hok1
                  have tnr := told_nrm hσ hge2' hok1
                  have tcn : cnt (mk true (anewE (sgOf es ey) (tm :: tr))) ≤ 60 := by rw [cnt_mk]; have := anewE_cnt hσ hok; omega
                  have tpl := told_pl hσ hge2' hok1
                  have thv := told_hv hhv hhvy (tm :: tr)
                  k_steps
                  rename Fr _ _ _ _ => F4
                  rename News _ _ _ _ => N4
                  refine Hold.intro (plain_c (S := FS f1) tnr hte tcn _ _ _ _ (X.keeps F4.keep) (T.keeps F4.keep) (FS.inL N4 fun q hq => mem_led hq) hh (by simp only [depth_deeper]; omega) (by simp only [units_deeper]; omega) ?_)
                  intro v1 h5 tk5 fs5 st5 fr5 hv1
                  rw [tpl] at hv1
                  obtain ⟨f2, F5, N5, hoC2, sb2, gg2⟩ := ledAdd F4 N4 hoC1 st5 fr5
                  have hv1 := hv1.mono (more_sub gg2 sb2)
                  have hte := hte.mono (FS.sub sb2)
                  have K := K.mono sb2
                  have hva := hva.mono (FS.sub sb2)
                  have hdue := hdue.mono (FS.sub sb2)
                  have hzs := hzs.mono (FS.sub sb2)
                  have hanw := sb2 _ hanw
                  have hit1 := sb2 _ hit1
                  have sf2 : ∀ q ∈ fs, q ∈ f2 := fun q hq => sb2 q (sf1 q hq)
                  clear F4 N4 st5 fr5 sb2 gg2 sf1
                  k_steps
                  rename Fr _ _ _ _ => F6
                  rename News _ _ _ _ => N6
                  have ank : ∀ e ∈ anewE (sgOf es ey) (tm :: tr), Nrm e ∧ e.ht ≤ 2 := fun e he => anewE_mem hσ hok1 he
                  have jo := joinOk (k := true) (l := anewE (sgOf es ey) (tm :: tr)) (fun e he => (ank e he).1) (by have := anewE_cnt hσ hok; omega) (fun e he => by have := (ank e he).2; omega)
                  have anl := anewE_len hσ hok1
                  rw [anewE_pl hσ hok1] at jo
                  have zsl := hzs.length
                  rw [← anewE_pl hσ hok1, List.length_map] at zsl
                  refine Hold.intro (joined_c (S := FS f2) (k := true) (D := 120) (ts := anewT (sgOf es ey) (tm :: tr)) (vs := zs) (n := n') (X.keeps F6.keep) (T.keeps F6.keep) (FS.inL N6 fun q hq => mem_led hq) (N6 _ (mem_led hanw)).1 hzs (by omega) (jo.2.1 (by omega)) jo.1 (fun u hu => (jo.2.2 u hu).1) (fun u hu => (jo.2.2 u hu).2) hh (by simp only [depth_deeper]; omega) (by simp only [units_deeper]; omega) ?_)
                  intro v2 h7 tk7 fs7 st7 fr7 hv2
                  obtain ⟨f3, F7, N7, hoC3, sb3, gg3⟩ := ledAdd F6 N6 hoC2 st7 fr7
                  have hv2 := hv2.mono (more_sub gg3 sb3)
                  have hv1 := hv1.mono (FS.sub sb3)
                  have hte := hte.mono (FS.sub sb3)
                  have K := K.mono sb3
                  have hva := hva.mono (FS.sub sb3)
                  have hdue := hdue.mono (FS.sub sb3)
                  have hzs := hzs.mono (FS.sub sb3)
                  have hanw := sb3 _ hanw
                  have hit1 := sb3 _ hit1
                  have sf3 : ∀ q ∈ fs, q ∈ f3 := fun q hq => sb3 q (sf2 q hq)
                  clear F6 N6 st7 fr7 sb3 gg3 sf2
                  k_steps
                  rename Fr _ _ _ _ => F8
                  rename News _ _ _ _ => N8
                  have hgt3 : (joinT true (anewT (sgOf es ey) (tm :: tr))).hgt ≤ 60 := by rw [← tpl]; exact Nat.le_trans (hgt_pl _) (by omega)
                  refine Hold.intro (tree_ne (S := FS f3) (FS.inL N8 fun q hq => mem_led hq) hv1 hv2 hgt3 (by simp only [units_deeper]; omega) ?_)
                  k_steps
                  rename Fr _ _ _ _ => F9
                  rename News _ _ _ _ => N9
                  refine Hold.intro (joined_c (S := FS f3) (k := true) (D := 120) (ts := anewT (sgOf es ey) (tm :: tr)) (vs := zs) (n := n') (X.keeps F9.keep) (T.keeps F9.keep) (FS.inL N9 fun q hq => mem_led hq) (N9 _ (mem_led hanw)).1 hzs (by omega) (jo.2.1 (by omega)) jo.1 (fun u hu => (jo.2.2 u hu).1) (fun u hu => (jo.2.2 u hu).2) hh (by simp only [depth_deeper]; omega) (by simp only [units_deeper]; omega) ?_)
                  intro v3 h10 tk10 fs10 st10 fr10 hv3
                  rw [← tpl] at hv3
                  obtain ⟨f4, F10, N10, hoC4, sb4, gg4⟩ := ledAdd F9 N9 hoC3 st10 fr10
                  have hv3 := hv3.mono (more_sub gg4 sb4)
                  have hte := hte.mono (FS.sub sb4)
                  have K := K.mono sb4
                  have hva := hva.mono (FS.sub sb4)
                  have hdue := hdue.mono (FS.sub sb4)
                  have hit1 := sb4 _ hit1
                  have sf4 : ∀ q ∈ fs, q ∈ f4 := fun q hq => sb4 q (sf3 q hq)
                  clear F9 N9 st10 fr10 sb4 gg4 sf3 hv1 hv2
                  k_steps
                  rename Fr _ _ _ _ => F11
                  rename News _ _ _ _ => N11
                  refine Hold.intro (built_c (S := FS f4) K.plus K.times tnr hv3 thv tcn (by omega) _ _ _ _ P (X.keeps F11.keep) (T.keeps F11.keep) (FS.inL N11 fun q hq => mem_led hq) hh (by simp only [depth_deeper]; omega) (by simp only [units_deeper]; omega) ?_)
                  intro bv h12 tk12 fs12 st12 fr12 hbe
                  obtain ⟨bb, e⟩ := hbe.isRef
                  subst e
                  obtain ⟨f5, F12, N12, hoC5, sb5, gg5⟩ := ledAdd F11 N11 hoC4 st12 fr12
                  have hbe := hbe.mono (more_sub gg5 sb5)
                  have hte := hte.mono (FS.sub sb5)
                  have hva := hva.mono (FS.sub sb5)
                  have hdue := hdue.mono (FS.sub sb5)
                  have hit1 := sb5 _ hit1
                  have sf5 : ∀ q ∈ fs, q ∈ f5 := fun q hq => sb5 q (sf4 q hq)
                  clear F11 N11 st12 fr12 sb5 gg5 sf4 hv3
                  k_steps
                  rename Fr _ _ _ _ => F13
                  rename News _ _ _ _ => N13
                  refine Hold.intro (ledEq r474 X T B hg0 l474 F13 N13 hoC5 (tb1 _ F13.keep (N13 _ (.tail _ (.tail _ (.tail _ (.tail _ (.tail _ (.head _))))))).1) hh (by simp only [depth_deeper]; omega) (by simp only [units_deeper]; omega) hte hbe (by omega) (by omega) ?_)
                  intro h14 tk14 gn14 ob14 F14 N14 tb14 gk14
                  rw [eqb_iff.mpr rfl]
                  have gkx := gk.trans gk14
                  have tb2 := tbOf2 r474 tb14 F14.keep h478 (N14 _ (.tail _ (.tail _ (.tail _ (.tail _ (.tail _ (.head _))))))).1
                  clear F13 N13
                  k_steps
                  rename Fr _ _ _ _ => F15
                  rename News _ _ _ _ => N15
                  refine Hold.intro (plain_c (S := FS f5) hsn hva hsc _ _ _ _ (X.keeps F15.keep) (T.keeps F15.keep) (FS.inL N15 fun q hq => mem_led hq) hh (by simp only [depth_deeper]; omega) (by simp only [units_deeper]; omega) ?_)
                  intro v5 h16 tk16 fs16 st16 fr16 hv5
                  rw [hpl] at hv5
                  obtain ⟨f6, F16, N16, hoC6, sb6, gg6⟩ := ledAdd F15 N15 hoC5 st16 fr16
                  have hv5 := hv5.mono (more_sub gg6 sb6)
                  have hdue := hdue.mono (FS.sub sb6)
                  have hit1 := sb6 _ hit1
                  have sf6 : ∀ q ∈ fs, q ∈ f6 := fun q hq => sb6 q (sf5 q hq)
                  clear F15 N15 st16 fr16 sb6 gg6 sf5
                  k_steps
                  rename Fr _ _ _ _ => F17
                  rename News _ _ _ _ => N17
                  refine Hold.intro (tree_ne (S := FS f6) (FS.inL N17 fun q hq => mem_led hq) hv5 hdue (by rw [← hpl]; exact Nat.le_trans (hgt_pl _) (by omega)) (by simp only [units_deeper]; omega) ?_)
                  k_steps
                  rename Fr _ _ _ _ => F18
                  rename News _ _ _ _ => N18
                  refine ⟨_, _, led L r c1' c2' c3' c4' c5' ob14 fs, _, _, rfl, F18, fun q hq => ?_, fun q hq => ?_, ob14, fs, rfl, hoC, hsub, gkx, tb2, fun y y1 y2 => ?_⟩
                  · rcases List.mem_cons.mp hq with h | hq
                    · rw [h]; exact N18 _ (mem_led hit1)
                    · simp only [List.mem_cons] at hq
                      rcases hq with h | h | h | h | h | h | h
                      · exact N18 q (by simp [h])
                      · exact N18 q (by simp [h])
                      · exact N18 q (by simp [h])
                      · exact N18 q (by simp [h])
                      · exact N18 q (by simp [h])
                      · exact N18 q (by simp [h])
                      · exact N18 q (mem_led (sf6 q h))
                  · simp only [List.mem_cons] at hq
                    rcases hq with h | h | h | h | h | h | h
                    · rw [h]; exact hn (L + 1 + 1 + 1 + 1 + 1, c1') (.head _)
                    · rw [h]; exact hn (L + 1 + 1 + 1 + 1, c2') (.tail _ (.head _))
                    · rw [h]; exact hn (L + 1 + 1 + 1, c3') (.tail _ (.tail _ (.head _)))
                    · rw [h]; exact hn (L + 1 + 1, c4') (.tail _ (.tail _ (.tail _ (.head _))))
                    · rw [h]; exact hn (L + 1, c5') (.tail _ (.tail _ (.tail _ (.tail _ (.head _)))))
                    · rw [h]; exact hn (r, ob1) (.tail _ (.tail _ (.tail _ (.tail _ (.tail _ (.head _))))))
                    · exact hn q (mem_led h)
                  · rw [hM2]
                    show (if y = ("told" : Str) then _ else if y = ("one" : Str) then _ else if y = ("one" : Str) then _ else if y = ("told" : Str) then _ else _) = _
                    rw [if_neg y1, if_neg y2, if_neg y2, if_neg y1]
                · rintro g mq news h tk ⟨ob1, fs, rfl, hoC, hsub, gk, tb1, hm⟩ F N
                  k_steps
                  exact hQ h _ g F.keep (tb1 _ F.keep (N _ (.tail _ (.tail _ (.tail _ (.tail _ (.tail _ (.head _))))))).1) gk
end Mine
namespace Mine
open PySem PySem.W PySem.Calls PyProof.Rows PySem.Spec
theorem ns_less {h : Heap} {a r : Addr} {m : Str → Option Value} (n : h.Ns a m) (ne : a ≠ r) : (less h r).Ns a m :=
  let ⟨o, es, ep, e, q⟩ := n; ⟨o, es, ep, less_get e ne, q⟩
theorem topRead_less {p : Program} {loose : List Str} {mg mb : Str → Option Value} {h : Heap} (T : TopRead p loose mg mb h) : TopRead p loose mg mb (less h 474) :=
  ⟨ns_less T.g (by decide), ns_less T.b (by decide), let ⟨mc, n, e⟩ := T.nolimit; ⟨mc, ns_less n (by decide), e⟩, T.builtins, T.free⟩
theorem bm_less {mg : Str → Option Value} {h : Heap} (n : (mg "__builtins__") = some (.ref 4)) (b : Bm mg h) : Bm mg (less h 474) := by
  obtain ⟨bm, ob, h1, h2, h3, q⟩ := b
  rw [n] at h1
  cases h1
  exact ⟨4, ob, n, h2, less_get h3 (by decide), q⟩
/-- the ends of the law: an old table may have grown, nothing else -/
theorem oldK_end {h h' : Heap} {vs : Array Value} {oc : Obj} (hc : h.get? 478 = some oc) (hcl : oc.cls = .type "code") (hd : oc.data = .fields vs) (hv : vs[11]? = some (.ref 474)) (ht : h.get? 474 = some { cls := .none, data := .fields #[] })
    (k : (less h 474).StaysIn h') (t : Tb h') : OldK h h' := by
  obtain ⟨ps, _, t2⟩ := t
  refine (OldK.refl h).step_table (c₀ := 478) (c := 478) (P := 474) (ps₀ := #[]) (ps := #[]) (more := ps) ⟨⟨oc, vs, hc, hcl, hd, hv⟩, ht⟩ ⟨⟨oc, vs, hc, hcl, hd, hv⟩, ht⟩ ?_ ?_ (by decide)
  · rw [Array.empty_append]; exact t2
  · exact fun b o hb e => k _ _ (less_get e hb)
theorem bare_end {g : Array GenState} (k : GK #[] g) : AllBare g := k.2.2 (fun _ h => by simp at h)
/-- a fragment read off a tree of objects -/
theorem frag_at {h : Heap} {T : X.KT} (H : X.KT.Holds h 1 0 T) : ∀ {K : Frag}, K.map (fun p => T.get p.1) = K.map (fun p => some p.2) → K.In h
  | [], _, _, _, e => by cases e
  | q :: K, e, a, o, l => by
    rw [List.map_cons, List.map_cons] at e
    injection e with e1 e2
    rw [List.lookup_cons] at l
    split at l
    · rename_i z
      cases l
      rw [beq_iff_eq.mp z]
      exact X.kt_at H e1
    · exact frag_at H e2 a o l
theorem frag_less {h : Heap} {K : Frag} (X : K.In h) (n : K.lookup 474 = none) : K.In (less h 474) := fun a o e => less_get (X a o e) fun z => by rw [z, n] at e; cases e
/-- an object's class, a field of it, in the fragment -/
def clsAt (K : Frag) (a : Nat) : Value := match K.lookup a with
  | some o => o.cls
  | none => .none
def fld (K : Frag) (a i : Nat) : Value := match K.lookup a with
  | some o => (match o.data with | .fields vs => vs.getD i .none | _ => .none)
  | none => .none
def isStr : Value → Bool | .str _ _ => true | _ => false
def isInt : Value → Bool | .int _ _ => true | _ => false
def isBool : Value → Bool | .bool _ => true | _ => false
theorem isStr_of {v : Value} (h : isStr v = true) : ∃ x t, v = .str x t := by cases v <;> first | exact ⟨_, _, rfl⟩ | cases h
theorem isInt_of {v : Value} (h : isInt v = true) : ∃ x t, v = .int x t := by cases v <;> first | exact ⟨_, _, rfl⟩ | cases h
theorem isBool_of {v : Value} (h : isBool v = true) : ∃ x, v = .bool x := by cases v <;> first | exact ⟨_, rfl⟩ | cases h
theorem code_of {K : Frag} {h : Heap} (X : K.In h) (c : clsAt K 478 = .type "code") (f11 : fld K 478 11 = .ref 474) (f18 : isStr (fld K 478 18) = true) (f7 : isInt (fld K 478 7) = true) (f9 : isBool (fld K 478 9) = true) (f10 : isInt (fld K 478 10) = true)
    (t : h.get? 474 = some { cls := .none, data := .fields #[] }) : ∃ oc vs, h.get? 478 = some oc ∧ oc.cls = .type "code" ∧ oc.data = .fields vs ∧ vs[11]? = some (.ref 474) ∧ Tb h := by
  cases q : K.lookup 478 with
  | none => simp only [fld, q] at f11; cases f11
  | some o =>
    simp only [fld, clsAt, q] at c f11 f18 f7 f9 f10
    cases d : o.data with
    | fields vs =>
      simp only [d] at f11 f18 f7 f9 f10
      have g := X _ _ q
      obtain ⟨file, tf, e18⟩ := isStr_of f18
      obtain ⟨fl, tg, e7⟩ := isInt_of f7
      obtain ⟨inF, e9⟩ := isBool_of f9
      obtain ⟨tx, tt, e10⟩ := isInt_of f10
      have e11 : vs[11]? = some (.ref 474) := by
        cases z : vs[11]? with
        | none => rw [Array.getD_eq_getD_getElem?, z] at f11; cases f11
        | some v => rw [Array.getD_eq_getD_getElem?, z] at f11; rw [← f11]; rfl
      exact ⟨o, vs, g, c, d, e11, #[], ⟨o, vs, file, tf, fl, tg, inF, tx, tt, _, g, d, f11, e18, e7, e9, e10, t, rfl, trivial, by decide⟩, ⟨o, vs, g, c, d, e11⟩, t⟩
    | _ => simp only [d] at f11; cases f11
/-- the objects that bear long texts -/
def heavy : List Nat := [218, 284, 298, 307, 412, 414, 436, 455, 456, 560, 636, 656, 685, 686, 707, 708, 740, 757, 774, 786, 808]
theorem ofS (cs : List Char) : Str.ofString (no_index (String.ofList cs)) = ⟨⟨cs.map Char.toNat⟩⟩ := Fast.ofString_ofList cs
theorem getEq {T : X.KT} {K : Frag} {a : Nat} {o : Obj} (e : K.lookup a = some o) (h : T.get a = some o) : T.get a = K.lookup a := h.trans e.symm
theorem lookup_light {a : Nat} {o : Obj} (n : heavy.contains a = false) : ∀ {K : Frag}, K.lookup a = some o → (K.filter fun p => !heavy.contains p.1).lookup a = some o
  | [], e => by cases e
  | (b, o') :: K, e => by
    rw [List.lookup_cons] at e
    split at e
    · rename_i z
      have z := beq_iff_eq.mp z
      subst z
      rw [List.filter_cons_of_pos (by rw [n]; rfl), List.lookup_cons, beq_self_eq_true]
      exact e
    · rename_i z
      rw [List.filter_cons]
      split
      · rw [List.lookup_cons, z]
        exact lookup_light n e
      · exact lookup_light n e
/-- a fragment read off a tree of objects; those with long texts apart -/
theorem frag_in {h : Heap} {T : X.KT} (H : X.KT.Holds h 1 0 T) {K : Frag} (e : (K.filter fun p => !heavy.contains p.1).map (fun p => T.get p.1) = (K.filter fun p => !heavy.contains p.1).map (fun p => some p.2)) (e2 : ∀ a ∈ heavy, T.get a = K.lookup a) : K.In h := fun a o l => by
  cases q : heavy.contains a with
  | true => exact X.kt_at H ((e2 a (List.contains_iff_mem.mp q)).trans l)
  | false => exact frag_at H e a o (lookup_light q l)
end Mine
open PySem PySem.W PySem.W.X PySem.Calls PyProof.Rows PySem.Spec Mine
namespace Mine
theorem codeM (P : Params) {h : Heap} (X : (Mine.frag.heap_1 P).In h) (t : h.get? 474 = some { cls := .none, data := .fields #[] }) : ∃ oc vs, h.get? 478 = some oc ∧ oc.cls = .type "code" ∧ oc.data = .fields vs ∧ vs[11]? = some (.ref 474) ∧ Tb h :=
  code_of X (by kernel_rfl) (by kernel_rfl) (by kernel_rfl) (by kernel_rfl) (by kernel_rfl) (by kernel_rfl) t
end Mine
set_option maxRecDepth 100000 in
set_option maxHeartbeats 0 in
theorem PySem.Challenge.cw_bi0004_01_holds : PySem.Challenge.rw_bi0004_01.Holds := by
  w_on; o_law
  refine holds_openX (q := qV) (loose := looseL) (Xt := XtM) (XP := XL qV []) (Yf := fun s => s.heap) (Ya := fun w => hpN w.params) (N := 14062) leftM (fun s e => xl_of s (Bool.and_eq_true_iff.mp e).1) XL.keeps hdefM hpM hkM (fun s e => recFacts_of (Bool.and_eq_true_iff.mp e).2) (by rfl) (by assumption) (by kernel_rfl) ⟨rfl, rfl, rfl, rfl, rfl, by decide +kernel⟩ ?hw ?hc
  case hw => w_witness2
  intro w s₀ s₁ mg mb G y fa o pm cd doc dV kV ho hd hcd hD hmg hg args vals as L hpre hlay hrd hwl hlo
  have y : s₀.heap = hpN w.params := y
  have X : (Mine.frag.heap_1 w.params).In s₁.heap := fun a o e => L.keeps a o (y ▸ inM w.params a o e)
  have t474 : s₁.heap.get? 474 = some { cls := .none, data := .fields #[] } := L.keeps _ _ (y ▸ tabM w.params)
  have ZN : s₀.heap.objs.size = 857 := y ▸ sizeM w.params
  clear y hcd hd ho hD
  refine Ground.open G ?_
  intro T B D TE TW
  clear G B D TE TW
  have hfa : fa = 856 := by
    have h := mg_of X T.g (lawM w.params)
    rw [nameM, h] at hmg
    cases hmg
    rfl
  subst hfa
  clear hmg
  wrow_args hpre hlay hrd hwl hlo
  obtain ⟨hat, hsz⟩ := script_at L
  rw [ZN] at hat hsz
  subst hat
  rename Heap.IsList _ _ _ => hL
  rename IntsAre _ _ => hI
  rename ¬ _ < _ => hlen
  have X' := frag_less X (no474 w.params)
  have hbm : mg "__builtins__" = some (.ref 4) := mg_of X T.g (bltM w.params)
  obtain ⟨oc, vs, q1, q2, q3, q4, ht⟩ := codeM w.params X t474
  have hs857 := less_get (r := 474) (script_obj L hL) (by decide)
  refine law_c (n := 0) rfl ⟨by rfl, by rfl⟩ X' (topRead_less (topRead_of T)) (bm_less hbm T.bmain) t474 ht hs857 hI (by omega) rfl (by decide) (by decide) ?_
  intro h' tk g' st tb gk
  exact ⟨.inl ⟨.bool true, .bool true, [], rfl, (raisesW_false (by wrow_none_raised)), .bool _, (by wrow_post), fun _ => ⟨.nil, fun _ h => by cases h⟩⟩, oldK_end q1 q2 q3 q4 t474 st tb, rfl, bare_end (hg ▸ gk)⟩
