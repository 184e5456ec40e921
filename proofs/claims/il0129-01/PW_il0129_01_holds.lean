import PyProof.Rows.All
import Wide.All
import OpenK.AllK
import Wide.FinOn
import PyProof.MeetsStr3
import PyProof.ZipIter
import PyProof.EnumIter
import PyProof.CollectWalk
import PyProof.TupleOfSeq
import PyProof.IsiH_tuple
import KE.KTurns
import KE.KSortTup
import PyProof.TupleKey
import KE.KPairComp
import PyProof.RulesFinally
import Lean
import PySem.Challenge.RW_il0129_01
set_option Elab.async false
set_option maxRecDepth 100000

section
open PySem PySem.W PyProof.Rows
namespace Mine
set_option maxRecDepth 100000
noncomputable abbrev pw : Program := PySem.Challenge.rw_il0129_01.row.prog
noncomputable def nth : List Stmt → Nat → Stmt
  | a :: _, 0 => a
  | _ :: l, n + 1 => nth l n
  | [], _ => .Pass default
/-- the i-th statement of the given text -/
noncomputable def cell (i : Nat) : Stmt := nth pw.main.body i
/-- the j-th statement of the class that stands there -/
noncomputable def meth (i j : Nat) : Stmt := match cell i with
  | .ClassDef _ _ _ b _ _ _ _ _ _ _ => nth b j
  | s => s
noncomputable def docVal (b : List Stmt) (t : Nat) : Value := match docOf b with
  | some s => .str s t
  | none => .none
/-- the function object of a def of the given text -/
noncomputable abbrev mkFn {n : Str} {args : Arguments} {body : List Stmt} {dl : List PySem.Expr} {r : Option PySem.Expr} {tp : List TypeParam} {sc : Scope} {tsc : Option Scope} {bd : Str} {pos : Pos} {c : Stmt} (_ : c = Stmt.FunctionDef n args body dl r tp sc tsc bd pos)
    (qual : Str) (dV kV : Value) (t : Nat) (pm : Value) (an : Option Addr) (cdv ct : Value) : Obj :=
  { cls := .type "function", data := .func (fnOf n qual args body sc dV kV (docVal body t) pm an cdv ct) }
noncomputable def ko2 : Obj := { cls := Value.none, data := Data.dict #[] }
noncomputable def ko3 (P : Params) : Obj := { cls := Value.type "dict", data := Data.dict #[{ hash := PyData.keyHash P (Str.ofString "__name__"), key := Value.str (Str.ofString "__name__") 165, val := Value.str (Str.ofString "law_il0129_01") 432 }, { hash := PyData.keyHash P (Str.ofString "__doc__"), key := Value.str (Str.ofString "__doc__") 166, val := Value.none }, { hash := PyData.keyHash P (Str.ofString "__package__"), key := Value.str (Str.ofString "__package__") 167, val := Value.none }, { hash := PyData.keyHash P (Str.ofString "__loader__"), key := Value.str (Str.ofString "__loader__") 168, val := Value.builtin "__main__.__loader__#opaque" }, { hash := PyData.keyHash P (Str.ofString "__spec__"), key := Value.str (Str.ofString "__spec__") 169, val := Value.none }, { hash := PyData.keyHash P (Str.ofString "__annotations__"), key := Value.str (Str.ofString "__annotations__") 170, val := Value.ref 6 }, { hash := PyData.keyHash P (Str.ofString "__builtins__"), key := Value.str (Str.ofString "__builtins__") 171, val := Value.ref 4 }, { hash := PyData.keyHash P (Str.ofString "__file__"), key := Value.str (Str.ofString "__file__") 173, val := Value.str (Str.ofString "/claim/cut.py") 172 }, { hash := PyData.keyHash P (Str.ofString "__cached__"), key := Value.str (Str.ofString "__cached__") 174, val := Value.none }, { hash := PyData.keyHash P (Str.ofString "_wall"), key := Value.str (Str.ofString "_wall") 193, val := Value.ref 21 }, { hash := PyData.keyHash P (Str.ofString "sorted_list_difference"), key := Value.str (Str.ofString "sorted_list_difference") 210, val := Value.ref 28 }, { hash := PyData.keyHash P (Str.ofString "three_way_cmp"), key := Value.str (Str.ofString "three_way_cmp") 219, val := Value.ref 35 }, { hash := PyData.keyHash P (Str.ofString "_tuplegetter"), key := Value.str (Str.ofString "_tuplegetter") 278, val := Value.ref 74 }, { hash := PyData.keyHash P (Str.ofString "Pair"), key := Value.str (Str.ofString "Pair") 393, val := Value.ref 169 }, { hash := PyData.keyHash P (Str.ofString "_law_names"), key := Value.str (Str.ofString "_law_names") 440, val := Value.ref 179 }, { hash := PyData.keyHash P (Str.ofString "_law_values"), key := Value.str (Str.ofString "_law_values") 446, val := Value.ref 186 }, { hash := PyData.keyHash P (Str.ofString "_law_thing"), key := Value.str (Str.ofString "_law_thing") 455, val := Value.ref 193 }, { hash := PyData.keyHash P (Str.ofString "_law_read"), key := Value.str (Str.ofString "_law_read") 466, val := Value.ref 200 }, { hash := PyData.keyHash P (Str.ofString "_law_rows"), key := Value.str (Str.ofString "_law_rows") 476, val := Value.ref 207 }, { hash := PyData.keyHash P (Str.ofString "_law_file"), key := Value.str (Str.ofString "_law_file") 495, val := Value.ref 214 }, { hash := PyData.keyHash P (Str.ofString "_law_due"), key := Value.str (Str.ofString "_law_due") 501, val := Value.ref 219 }, { hash := PyData.keyHash P (Str.ofString "_law_turned"), key := Value.str (Str.ofString "_law_turned") 511, val := Value.ref 226 }, { hash := PyData.keyHash P (Str.ofString "_law_compared"), key := Value.str (Str.ofString "_law_compared") 517, val := Value.ref 231 }, { hash := PyData.keyHash P (Str.ofString "law"), key := Value.str (Str.ofString "law") 532, val := Value.ref 238 }] 24 }
noncomputable def ko27 : Obj := { cls := Value.type "code", data := Data.fields #[Value.str (Str.ofString "sorted_list_difference") 196, Value.str (Str.ofString "sorted_list_difference") 197, Value.str (Str.ofString "/claim/cut.py") 198, Value.int 5 0, Value.int 2 0, Value.int 0 0, Value.int 0 0, Value.int 3 0, Value.ref 22, Value.bool true, Value.int 181 0, Value.ref 23, Value.none, Value.ref 24, Value.ref 25, Value.ref 26, Value.int 207 0, Value.int 5 0, Value.str (Str.ofString "/claim/cut.py") 208] }
noncomputable def ko28 : Obj := mkFn (c := (cell 2)) rfl (Str.ofString "sorted_list_difference") (Value.none) (Value.none) 209 (Value.str (Str.ofString "cpy313.unittest.util") 194) (none) (Value.ref 27) (Value.none)
noncomputable def ko34 : Obj := { cls := Value.type "code", data := Data.fields #[Value.str (Str.ofString "three_way_cmp") 211, Value.str (Str.ofString "three_way_cmp") 212, Value.str (Str.ofString "/claim/cut.py") 213, Value.int 44 0, Value.int 2 0, Value.int 0 0, Value.int 0 0, Value.int 3 0, Value.ref 29, Value.bool true, Value.int 181 0, Value.ref 30, Value.none, Value.ref 31, Value.ref 32, Value.ref 33, Value.int 216 0, Value.int 44 0, Value.str (Str.ofString "/claim/cut.py") 217] }
noncomputable def ko35 : Obj := mkFn (c := (cell 3)) rfl (Str.ofString "three_way_cmp") (Value.none) (Value.none) 218 (Value.str (Str.ofString "cpy313.unittest.util") 194) (none) (Value.ref 34) (Value.none)
noncomputable def ko50 : Obj := { cls := Value.type "tuple", data := Data.seq #[Value.none] }
noncomputable def ko56 : Obj := { cls := Value.type "code", data := Data.fields #[Value.str (Str.ofString "__get__") 243, Value.str (Str.ofString "_tuplegetter.__get__") 244, Value.str (Str.ofString "/claim/cut.py") 245, Value.int 54 0, Value.int 3 0, Value.int 0 0, Value.int 0 0, Value.int 3 0, Value.ref 51, Value.bool true, Value.int 181 0, Value.ref 52, Value.none, Value.ref 53, Value.ref 54, Value.ref 55, Value.int 249 0, Value.int 54 0, Value.str (Str.ofString "/claim/cut.py") 250] }
noncomputable def ko57 : Obj := mkFn (c := (meth 5 1)) rfl (Str.ofString "_tuplegetter.__get__") (Value.ref 50) (Value.none) 0 (Value.str (Str.ofString "cpy313.importlib.metadata._collections") 220) (none) (Value.ref 56) (Value.none)
noncomputable def ko73 (P : Params) : Obj := { cls := Value.type "dict", data := Data.dict #[{ hash := PyData.keyHash P (Str.ofString "__module__"), key := Value.str (Str.ofString "__module__") 229, val := Value.str (Str.ofString "cpy313.importlib.metadata._collections") 220 }, { hash := PyData.keyHash P (Str.ofString "__firstlineno__"), key := Value.str (Str.ofString "__firstlineno__") 233, val := Value.int 48 232 }, { hash := PyData.keyHash P (Str.ofString "__init__"), key := Value.str (Str.ofString "__init__") 242, val := Value.ref 49 }, { hash := PyData.keyHash P (Str.ofString "__get__"), key := Value.str (Str.ofString "__get__") 251, val := Value.ref 57 }, { hash := PyData.keyHash P (Str.ofString "__set__"), key := Value.str (Str.ofString "__set__") 260, val := Value.ref 64 }, { hash := PyData.keyHash P (Str.ofString "__delete__"), key := Value.str (Str.ofString "__delete__") 268, val := Value.ref 71 }, { hash := PyData.keyHash P (Str.ofString "__static_attributes__"), key := Value.str (Str.ofString "__static_attributes__") 271, val := Value.ref 72 }, { hash := PyData.keyHash P (Str.ofString "__dict__"), key := Value.str (Str.ofString "__dict__") 273, val := Value.ref 75 }, { hash := PyData.keyHash P (Str.ofString "__weakref__"), key := Value.str (Str.ofString "__weakref__") 275, val := Value.ref 76 }, { hash := PyData.keyHash P (Str.ofString "__doc__"), key := Value.str (Str.ofString "__doc__") 276, val := Value.none }] 4 }
noncomputable def ko74 : Obj := { cls := Value.type "type", data := Data.cls { name := Str.ofString "_tuplegetter", bases := [Value.type "object"], mro := [Value.ref 74, Value.type "object"], ns := 73, qualname := Str.ofString "_tuplegetter" }, slots := #[none, none, some (Value.str (Str.ofString "_tuplegetter") 222), some (Value.str (Str.ofString "_tuplegetter") 230), some (Value.builtin "object.__new__"), some (Value.bool true)] }
noncomputable def ko95 : Obj := { cls := Value.type "code", data := Data.fields #[Value.str (Str.ofString "__new__") 299, Value.str (Str.ofString "Pair.__new__") 300, Value.str (Str.ofString "/claim/cut.py") 301, Value.int 72 0, Value.int 3 0, Value.int 0 0, Value.int 0 0, Value.int 3 0, Value.ref 90, Value.bool true, Value.int 181 0, Value.ref 91, Value.none, Value.ref 92, Value.ref 93, Value.ref 94, Value.int 305 0, Value.int 72 0, Value.str (Str.ofString "/claim/cut.py") 306] }
noncomputable def ko96 : Obj := mkFn (c := (meth 6 4)) rfl (Str.ofString "Pair.__new__") (Value.none) (Value.none) 307 (Value.str (Str.ofString "cpy313.importlib.metadata._collections") 220) (none) (Value.ref 95) (Value.none)
noncomputable def ko137 (P : Params) : Obj := { cls := Value.type "dict", data := Data.dict #[{ hash := PyData.keyHash P (Str.ofString "index"), key := Value.str (Str.ofString "index") 375, val := Value.int 0 369 }, { hash := PyData.keyHash P (Str.ofString "__doc__"), key := Value.str (Str.ofString "__doc__") 377, val := Value.str (Str.ofString "Alias for field number 0") 370 }] 2 }
noncomputable def ko138 : Obj := { cls := Value.ref 74, dict := some 137 }
noncomputable def ko140 (P : Params) : Obj := { cls := Value.type "dict", data := Data.dict #[{ hash := PyData.keyHash P (Str.ofString "index"), key := Value.str (Str.ofString "index") 385, val := Value.int 1 379 }, { hash := PyData.keyHash P (Str.ofString "__doc__"), key := Value.str (Str.ofString "__doc__") 387, val := Value.str (Str.ofString "Alias for field number 1") 380 }] 2 }
noncomputable def ko141 : Obj := { cls := Value.ref 74, dict := some 140 }
noncomputable def ko145 (P : Params) : Obj := { cls := Value.type "dict", data := Data.dict #[{ hash := PyData.keyHash P (Str.ofString "__module__"), key := Value.str (Str.ofString "__module__") 286, val := Value.str (Str.ofString "cpy313.importlib.metadata._collections") 220 }, { hash := PyData.keyHash P (Str.ofString "__firstlineno__"), key := Value.str (Str.ofString "__firstlineno__") 290, val := Value.int 66 289 }, { hash := PyData.keyHash P (Str.ofString "__doc__"), key := Value.str (Str.ofString "__doc__") 292, val := Value.str (Str.ofString "Pair(name, value)") 291 }, { hash := PyData.keyHash P (Str.ofString "__slots__"), key := Value.str (Str.ofString "__slots__") 294, val := Value.ref 87 }, { hash := PyData.keyHash P (Str.ofString "_fields"), key := Value.str (Str.ofString "_fields") 297, val := Value.ref 88 }, { hash := PyData.keyHash P (Str.ofString "_field_defaults"), key := Value.str (Str.ofString "_field_defaults") 298, val := Value.ref 89 }, { hash := PyData.keyHash P (Str.ofString "__new__"), key := Value.str (Str.ofString "__new__") 308, val := Value.ref 147 }, { hash := PyData.keyHash P (Str.ofString "_make"), key := Value.str (Str.ofString "_make") 330, val := Value.ref 105 }, { hash := PyData.keyHash P (Str.ofString "_replace"), key := Value.str (Str.ofString "_replace") 341, val := Value.ref 114 }, { hash := PyData.keyHash P (Str.ofString "__replace__"), key := Value.str (Str.ofString "__replace__") 342, val := Value.ref 114 }, { hash := PyData.keyHash P (Str.ofString "__repr__"), key := Value.str (Str.ofString "__repr__") 350, val := Value.ref 121 }, { hash := PyData.keyHash P (Str.ofString "_asdict"), key := Value.str (Str.ofString "_asdict") 357, val := Value.ref 128 }, { hash := PyData.keyHash P (Str.ofString "__getnewargs__"), key := Value.str (Str.ofString "__getnewargs__") 365, val := Value.ref 135 }, { hash := PyData.keyHash P (Str.ofString "__match_args__"), key := Value.str (Str.ofString "__match_args__") 368, val := Value.ref 136 }, { hash := PyData.keyHash P (Str.ofString "name"), key := Value.str (Str.ofString "name") 378, val := Value.ref 138 }, { hash := PyData.keyHash P (Str.ofString "value"), key := Value.str (Str.ofString "value") 388, val := Value.ref 141 }, { hash := PyData.keyHash P (Str.ofString "__static_attributes__"), key := Value.str (Str.ofString "__static_attributes__") 389, val := Value.ref 143 }] 2 }
noncomputable def ko146 : Obj := { cls := Value.type "type", data := Data.cls { name := Str.ofString "Pair", bases := [Value.type "tuple"], mro := [Value.ref 146, Value.type "tuple", Value.type "object"], ns := 145, qualname := Str.ofString "Pair", hasDict := false, subclasses := [Value.ref 169] }, slots := #[some (Value.ref 79), none, some (Value.str (Str.ofString "Pair") 279), some (Value.str (Str.ofString "Pair") 287), some Value.none, some (Value.bool false)] }
noncomputable def ko147 : Obj := { cls := Value.type "staticmethod", data := Data.fields #[Value.ref 96] }
noncomputable def ko162 : Obj := { cls := Value.type "code", data := Data.fields #[Value.str (Str.ofString "parse") 406, Value.str (Str.ofString "Pair.parse") 407, Value.str (Str.ofString "/claim/cut.py") 408, Value.int 110 0, Value.int 2 0, Value.int 0 0, Value.int 0 0, Value.int 3 0, Value.ref 157, Value.bool true, Value.int 181 0, Value.ref 158, Value.none, Value.ref 159, Value.ref 160, Value.ref 161, Value.int 411 0, Value.int 110 0, Value.str (Str.ofString "/claim/cut.py") 412] }
noncomputable def ko163 : Obj := mkFn (c := (meth 7 0)) rfl (Str.ofString "Pair.parse") (Value.none) (Value.none) 0 (Value.str (Str.ofString "cpy313.importlib.metadata._collections") 220) (some 166) (Value.ref 162) (Value.none)
noncomputable def ko165 : Obj := { cls := Value.type "classmethod", dict := some 164, data := Data.fields #[Value.ref 163, Value.bool false] }
noncomputable def ko168 (P : Params) : Obj := { cls := Value.type "dict", data := Data.dict #[{ hash := PyData.keyHash P (Str.ofString "__module__"), key := Value.str (Str.ofString "__module__") 401, val := Value.str (Str.ofString "cpy313.importlib.metadata._collections") 220 }, { hash := PyData.keyHash P (Str.ofString "__firstlineno__"), key := Value.str (Str.ofString "__firstlineno__") 405, val := Value.int 108 404 }, { hash := PyData.keyHash P (Str.ofString "parse"), key := Value.str (Str.ofString "parse") 425, val := Value.ref 165 }, { hash := PyData.keyHash P (Str.ofString "__static_attributes__"), key := Value.str (Str.ofString "__static_attributes__") 426, val := Value.ref 167 }, { hash := PyData.keyHash P (Str.ofString "__dict__"), key := Value.str (Str.ofString "__dict__") 428, val := Value.ref 170 }, { hash := PyData.keyHash P (Str.ofString "__doc__"), key := Value.str (Str.ofString "__doc__") 429, val := Value.none }] 3 }
noncomputable def ko169 : Obj := { cls := Value.type "type", data := Data.cls { name := Str.ofString "Pair", bases := [Value.ref 146], mro := [Value.ref 169, Value.ref 146, Value.type "tuple", Value.type "object"], ns := 168, qualname := Str.ofString "Pair" }, slots := #[some (Value.ref 150), none, some (Value.str (Str.ofString "Pair") 394), some (Value.str (Str.ofString "Pair") 402), some Value.none, some (Value.bool false)] }
noncomputable def ko178 : Obj := { cls := Value.type "code", data := Data.fields #[Value.str (Str.ofString "_law_names") 434, Value.str (Str.ofString "_law_names") 435, Value.str (Str.ofString "/claim/cut.py") 436, Value.int 114 0, Value.int 1 0, Value.int 0 0, Value.int 0 0, Value.int 3 0, Value.ref 173, Value.bool true, Value.int 181 0, Value.ref 174, Value.none, Value.ref 175, Value.ref 176, Value.ref 177, Value.int 438 0, Value.int 114 0, Value.str (Str.ofString "/claim/cut.py") 439] }
noncomputable def ko179 : Obj := mkFn (c := (cell 9)) rfl (Str.ofString "_law_names") (Value.none) (Value.none) 0 (Value.str (Str.ofString "law_il0129_01") 432) (none) (Value.ref 178) (Value.none)
noncomputable def ko185 : Obj := { cls := Value.type "code", data := Data.fields #[Value.str (Str.ofString "_law_values") 441, Value.str (Str.ofString "_law_values") 442, Value.str (Str.ofString "/claim/cut.py") 443, Value.int 118 0, Value.int 0 0, Value.int 0 0, Value.int 0 0, Value.int 3 0, Value.ref 180, Value.bool true, Value.int 181 0, Value.ref 181, Value.none, Value.ref 182, Value.ref 183, Value.ref 184, Value.int 444 0, Value.int 118 0, Value.str (Str.ofString "/claim/cut.py") 445] }
noncomputable def ko186 : Obj := mkFn (c := (cell 10)) rfl (Str.ofString "_law_values") (Value.none) (Value.none) 0 (Value.str (Str.ofString "law_il0129_01") 432) (none) (Value.ref 185) (Value.none)
noncomputable def ko192 : Obj := { cls := Value.type "code", data := Data.fields #[Value.str (Str.ofString "_law_thing") 447, Value.str (Str.ofString "_law_thing") 448, Value.str (Str.ofString "/claim/cut.py") 449, Value.int 120 0, Value.int 3 0, Value.int 0 0, Value.int 0 0, Value.int 3 0, Value.ref 187, Value.bool true, Value.int 181 0, Value.ref 188, Value.none, Value.ref 189, Value.ref 190, Value.ref 191, Value.int 453 0, Value.int 120 0, Value.str (Str.ofString "/claim/cut.py") 454] }
noncomputable def ko193 : Obj := mkFn (c := (cell 11)) rfl (Str.ofString "_law_thing") (Value.none) (Value.none) 0 (Value.str (Str.ofString "law_il0129_01") 432) (none) (Value.ref 192) (Value.none)
noncomputable def ko199 : Obj := { cls := Value.type "code", data := Data.fields #[Value.str (Str.ofString "_law_read") 456, Value.str (Str.ofString "_law_read") 457, Value.str (Str.ofString "/claim/cut.py") 458, Value.int 124 0, Value.int 3 0, Value.int 0 0, Value.int 0 0, Value.int 3 0, Value.ref 194, Value.bool true, Value.int 181 0, Value.ref 195, Value.none, Value.ref 196, Value.ref 197, Value.ref 198, Value.int 464 0, Value.int 124 0, Value.str (Str.ofString "/claim/cut.py") 465] }
noncomputable def ko200 : Obj := mkFn (c := (cell 12)) rfl (Str.ofString "_law_read") (Value.none) (Value.none) 0 (Value.str (Str.ofString "law_il0129_01") 432) (none) (Value.ref 199) (Value.none)
noncomputable def ko206 : Obj := { cls := Value.type "code", data := Data.fields #[Value.str (Str.ofString "_law_rows") 467, Value.str (Str.ofString "_law_rows") 468, Value.str (Str.ofString "/claim/cut.py") 469, Value.int 128 0, Value.int 1 0, Value.int 0 0, Value.int 0 0, Value.int 3 0, Value.ref 201, Value.bool true, Value.int 181 0, Value.ref 202, Value.none, Value.ref 203, Value.ref 204, Value.ref 205, Value.int 474 0, Value.int 128 0, Value.str (Str.ofString "/claim/cut.py") 475] }
noncomputable def ko207 : Obj := mkFn (c := (cell 13)) rfl (Str.ofString "_law_rows") (Value.none) (Value.none) 0 (Value.str (Str.ofString "law_il0129_01") 432) (none) (Value.ref 206) (Value.none)
noncomputable def ko213 : Obj := { cls := Value.type "code", data := Data.fields #[Value.str (Str.ofString "_law_file") 477, Value.str (Str.ofString "_law_file") 478, Value.str (Str.ofString "/claim/cut.py") 479, Value.int 134 0, Value.int 3 0, Value.int 0 0, Value.int 0 0, Value.int 3 0, Value.ref 208, Value.bool true, Value.int 181 0, Value.ref 209, Value.none, Value.ref 210, Value.ref 211, Value.ref 212, Value.int 493 0, Value.int 134 0, Value.str (Str.ofString "/claim/cut.py") 494] }
noncomputable def ko214 : Obj := mkFn (c := (cell 14)) rfl (Str.ofString "_law_file") (Value.none) (Value.none) 0 (Value.str (Str.ofString "law_il0129_01") 432) (none) (Value.ref 213) (Value.none)
noncomputable def ko218 : Obj := { cls := Value.type "code", data := Data.fields #[Value.str (Str.ofString "_law_due") 496, Value.str (Str.ofString "_law_due") 497, Value.str (Str.ofString "/claim/cut.py") 498, Value.int 146 0, Value.int 3 0, Value.int 0 0, Value.int 0 0, Value.int 3 0, Value.ref 215, Value.bool true, Value.int 181 0, Value.ref 216, Value.none, Value.none, Value.none, Value.ref 217, Value.int 499 0, Value.int 146 0, Value.str (Str.ofString "/claim/cut.py") 500] }
noncomputable def ko219 : Obj := mkFn (c := (cell 15)) rfl (Str.ofString "_law_due") (Value.none) (Value.none) 0 (Value.str (Str.ofString "law_il0129_01") 432) (none) (Value.ref 218) (Value.none)
noncomputable def ko225 : Obj := { cls := Value.type "code", data := Data.fields #[Value.str (Str.ofString "_law_turned") 502, Value.str (Str.ofString "_law_turned") 503, Value.str (Str.ofString "/claim/cut.py") 504, Value.int 154 0, Value.int 2 0, Value.int 0 0, Value.int 0 0, Value.int 3 0, Value.ref 220, Value.bool true, Value.int 181 0, Value.ref 221, Value.none, Value.ref 222, Value.ref 223, Value.ref 224, Value.int 509 0, Value.int 154 0, Value.str (Str.ofString "/claim/cut.py") 510] }
noncomputable def ko226 : Obj := mkFn (c := (cell 16)) rfl (Str.ofString "_law_turned") (Value.none) (Value.none) 0 (Value.str (Str.ofString "law_il0129_01") 432) (none) (Value.ref 225) (Value.none)
noncomputable def ko230 : Obj := { cls := Value.type "code", data := Data.fields #[Value.str (Str.ofString "_law_compared") 512, Value.str (Str.ofString "_law_compared") 513, Value.str (Str.ofString "/claim/cut.py") 514, Value.int 157 0, Value.int 1 0, Value.int 0 0, Value.int 0 0, Value.int 3 0, Value.ref 227, Value.bool true, Value.int 181 0, Value.ref 228, Value.none, Value.none, Value.none, Value.ref 229, Value.int 515 0, Value.int 157 0, Value.str (Str.ofString "/claim/cut.py") 516] }
noncomputable def ko231 : Obj := mkFn (c := (cell 17)) rfl (Str.ofString "_law_compared") (Value.none) (Value.none) 0 (Value.str (Str.ofString "law_il0129_01") 432) (none) (Value.ref 230) (Value.none)
noncomputable def ko237 : Obj := { cls := Value.type "code", data := Data.fields #[Value.str (Str.ofString "law") 518, Value.str (Str.ofString "law") 519, Value.str (Str.ofString "/claim/cut.py") 520, Value.int 171 0, Value.int 1 0, Value.int 0 0, Value.int 0 0, Value.int 3 0, Value.ref 232, Value.bool true, Value.int 181 0, Value.ref 233, Value.none, Value.ref 234, Value.ref 235, Value.ref 236, Value.int 530 0, Value.int 171 0, Value.str (Str.ofString "/claim/cut.py") 531] }
noncomputable def ko238 : Obj := mkFn (c := (cell 18)) rfl (Str.ofString "law") (Value.none) (Value.none) 0 (Value.str (Str.ofString "law_il0129_01") 432) (none) (Value.ref 237) (Value.none)
noncomputable def hd.heap_39 (P : Params) : Frag := (nat_lit 2, ko2) :: (nat_lit 3, ko3 P) :: (nat_lit 27, ko27) :: (nat_lit 28, ko28) :: (nat_lit 34, ko34) :: (nat_lit 35, ko35) :: (nat_lit 50, ko50) :: (nat_lit 56, ko56) :: (nat_lit 57, ko57) :: (nat_lit 73, ko73 P) :: (nat_lit 74, ko74) :: (nat_lit 95, ko95) :: (nat_lit 96, ko96) :: (nat_lit 137, ko137 P) :: (nat_lit 138, ko138) :: (nat_lit 140, ko140 P) :: (nat_lit 141, ko141) :: (nat_lit 145, ko145 P) :: (nat_lit 146, ko146) :: (nat_lit 147, ko147) :: (nat_lit 162, ko162) :: (nat_lit 163, ko163) :: (nat_lit 165, ko165) :: (nat_lit 168, ko168 P) :: (nat_lit 169, ko169) :: (nat_lit 178, ko178) :: (nat_lit 179, ko179) :: (nat_lit 185, ko185) :: (nat_lit 186, ko186) :: (nat_lit 192, ko192) :: (nat_lit 193, ko193) :: (nat_lit 199, ko199) :: (nat_lit 200, ko200) :: (nat_lit 206, ko206) :: (nat_lit 207, ko207) :: (nat_lit 213, ko213) :: (nat_lit 214, ko214) :: (nat_lit 218, ko218) :: (nat_lit 219, ko219) :: (nat_lit 225, ko225) :: (nat_lit 226, ko226) :: (nat_lit 230, ko230) :: (nat_lit 231, ko231) :: (nat_lit 237, ko237) :: (nat_lit 238, ko238) :: []
noncomputable def KA : List Addr := 2 :: 3 :: 27 :: 28 :: 34 :: 35 :: 50 :: 56 :: 57 :: 73 :: 74 :: 95 :: 96 :: 137 :: 138 :: 140 :: 141 :: 145 :: 146 :: 147 :: 162 :: 163 :: 165 :: 168 :: 169 :: 178 :: 179 :: 185 :: 186 :: 192 :: 193 :: 199 :: 200 :: 206 :: 207 :: 213 :: 214 :: 218 :: 219 :: 225 :: 226 :: 230 :: 231 :: 237 :: 238 :: []
noncomputable def hd.view_39 : Program := { pw with main := { pw.main with body := [cell 0, cell 1, cell 2, cell 3, cell 4, cell 8, cell 9, cell 10, cell 11, cell 12, cell 13, cell 14, cell 15, cell 16, cell 17, cell 18] } }
noncomputable abbrev loose : List Str := [Str.ofString "_tuplegetter", Str.ofString "Pair"]
theorem KA_eq (P : Params) : KA = (hd.heap_39 P).map (·.1) := by kernel_rfl

/-- the run of the top over a tree of objects -/
noncomputable def runG (thr ok : Thread → Bool) (st : SharedT → Thread → Option (SharedT × Thread)) : Nat → SharedT → Thread → Option SharedT
  | 0, _, _ => none
  | n + 1, s, t => match thr t with
    | true => some s
    | false => match ok t with
      | false => none
      | true => match st s t with
        | some (s', t') => runG thr ok st n s' t'
        | none => none
theorem runG_spec {tb : String → Option Builtin} {p : Program} {w : World} {n₀ : Nat} {ann : Option Value} : ∀ {n : Nat} {s s' : SharedT} {t : Thread},
    runG through (stepOk n₀ ann) (stepT (denote tb) p w) n s t = some s' → topRun tb p w n₀ ann n s.abs t = some s'.abs
  | 0, _, _, _, h => by cases h
  | n + 1, s, s', t, h => by
    unfold runG at h
    unfold topRun
    cases ht : through t with
    | true => rw [ht] at h; cases h; rfl
    | false =>
      rw [ht] at h
      cases hk : stepOk n₀ ann t with
      | false => rw [hk] at h; cases h
      | true =>
        rw [hk] at h
        cases hs : stepT (denote tb) p w s t with
        | none => rw [hs] at h; cases h
        | some q =>
          obtain ⟨s₂, t₂⟩ := q
          rw [hs] at h
          rw [stepT_spec hs]
          exact runG_spec h
theorem top_from {p : Program} {w : World} {N : Nat} {s₀ s₁ : Shared} (a : (s₀.heap.isNs mainGlobals && s₀.gens.size == 0) = true)
    (r : topRun treeTable p w s₀.heap.objs.size (s₀.heap.nsMap mainGlobals "__annotations__") N s₀ (topStub p) = some s₁)
    (l : (staticsOk (importedModules p.main.body) s₀.heap s₁.heap && namesBound p s₁.heap && gensDone s₁ && laidKept s₀.heap s₁.heap) = true) : topFrom treeTable p w N s₀ = some s₁ := by
  simp only [topFrom, a, r, Option.bind_some, l]
theorem left_of {p q : Program} {loose : List Str} {Xt : Shared → Bool} {α : Type} {Yf : Shared → α} {Ya : World → α} {N : Nat} {g0 : Bool} {H₀ : Params → Heap} {gs₀ : Array GenState} {d₀ : Drawn} {k₀ : Nat}
    {B : Params → OsState → SharedT} {ok : Nat → Option Value → Thread → Bool} {st : (Code → Sem Fin) → Program → World → SharedT → Thread → Option (SharedT × Thread)} {den : (String → Option Builtin) → Code → Sem Fin} {tt : String → Option Builtin} {imp : List Stmt → List Str}
    {β : Type} {seen : Shared → β} {good : β} (e1 : stepOk = ok) (e2 : stepT = st) (e3 : denote = den) (e4 : treeTable = tt) (e5 : importedModules = imp)
    (open_ : ∀ w : World, (fencedOpening treeTable p w N).map (fun s => (s.heap, s.gens, s.drawn, s.toks)) = some (H₀ w.params, gs₀, d₀, k₀))
    (ns : ∀ w : World, ((H₀ w.params).isNs mainGlobals && gs₀.size == 0) = true) (babs : ∀ w : World, (fun os => (B w.params os).abs) = fun os => ⟨H₀ w.params, gs₀, d₀, k₀, os⟩)
    (hs : ∀ s, seen s = good → openSeen q loose (importedModules p.main.body) Xt g0 s = openGood q loose)
    (core : ∀ w : World, (fun os => (runG through (ok (H₀ w.params).objs.size ((H₀ w.params).nsMap mainGlobals "__annotations__")) (st (den tt) p w) N (B w.params os) (topStub p)).map (fun s =>
      (staticsOk (imp p.main.body) (H₀ w.params) s.abs.heap && namesBound p s.abs.heap && gensDone s.abs && laidKept (H₀ w.params) s.abs.heap, seen s.abs, Yf s.abs))) = fun _ => some (true, good, Ya w)) : LeftO p q loose Xt Yf Ya N g0 := by
  subst e1 e2 e3 e4 e5
  intro w
  obtain ⟨s₀, a, b⟩ := Option.map_eq_some_iff.mp (open_ w)
  have es : s₀ = ⟨H₀ w.params, gs₀, d₀, k₀, s₀.os⟩ := by
    cases s₀
    injection b with b1 b2
    injection b2 with b2 b3
    injection b3 with b3 b4
    subst b1 b2 b3 b4
    rfl
  obtain ⟨s₁, h1, h2⟩ := Option.map_eq_some_iff.mp (congrFun (core w) s₀.os)
  have r := runG_spec h1
  rw [congrFun (babs w) s₀.os] at r
  injection h2 with l1 l2
  injection l2 with l2 l3
  have e : openEnds treeTable p w N = some s₁.abs := by
    rw [openEnds, a, Option.bind_some, es]
    exact top_from (ns w) r l1
  rw [e, Option.map_some, hs _ l2, l3]
noncomputable def treeF (os : List Obj) : Nat → Nat → Nat → BT
  | 0, _, _ => .nil
  | f + 1, a, b => match os[b]? with
    | some o => .node o (treeF os f (2 * a) (a + b)) (treeF os f (2 * a) (2 * a + b))
    | none => .nil
noncomputable def bootT (P : Params) (os : OsState) : SharedT := ⟨treeF (boot_heap P).objs.toList 10 1 0, (boot_heap P).objs.size, (boot_heap P).life, #[], boot_drawn, boot_toks, os⟩
theorem boot_abs (w : World) : (fun os => (bootT w.params os).abs) = fun os => ⟨boot_heap w.params, #[], boot_drawn, boot_toks, os⟩ := by kernel_rfl
theorem boot_all : ∀ w : World, (fencedOpening treeTable pw w 4218).map (fun s => (s.heap, s.gens, s.drawn, s.toks)) = some (boot_heap w.params, Array.mk [], boot_drawn, boot_toks) :=
  boot_open (by kernel_rfl) (by decide) (fun s => by kernel_rfl)
theorem boot_ns (w : World) : ((boot_heap w.params).isNs mainGlobals && (#[] : Array GenState).size == 0) = true := by kernel_rfl
noncomputable abbrev Xt0 (s : Shared) : Bool := xlAt hd.view_39 [] s && recOk (RowW.records PySem.Challenge.rw_il0129_01.row.toRowW) s
open PySem.W.Fast in
theorem left_core (w : World) : (fun os => (runG through (tw6613529449190102663 (boot_heap w.params).objs.size ((boot_heap w.params).nsMap mainGlobals "__annotations__")) (tw10156331382660048174 (tw11892475500146522536 tw14364793385576792824) pw w) 4218 (bootT w.params os) (topStub pw)).map (fun s =>
    (staticsOk (tw5923862056798008813 pw.main.body) (boot_heap w.params) s.abs.heap && namesBound pw s.abs.heap && gensDone s.abs && laidKept (boot_heap w.params) s.abs.heap,
     tw4187177175401517315 hd.view_39 loose (tw5923862056798008813 pw.main.body) Xt0 true s.abs, KA.map s.abs.heap.get?))) =
    fun _ => some (true, openGood hd.view_39 loose, (hd.heap_39 w.params).map fun p => some p.2) := by
  kernel_rfl
open PySem.W.Fast in
theorem left : LeftO pw hd.view_39 loose Xt0 (fun s => KA.map s.heap.get?) (fun w => (hd.heap_39 w.params).map fun p => some p.2) 4218 :=
  left_of te6613529449190102663 te10156331382660048174 te11892475500146522536 te14364793385576792824 te5923862056798008813 boot_all boot_ns boot_abs
    (fun s h => by rw [te5923862056798008813, te4187177175401517315]; exact h) left_core
theorem law_said : PySem.Challenge.rw_il0129_01.wellSaid = true := by
  rw [PySem.W.Fast.te9446332074065402090]
  kernel_rfl
theorem law_looks : (chainsOk hd.view_39 && opensWell pw && (frees PySem.Challenge.rw_il0129_01.row.toRowW && PySem.Challenge.rw_il0129_01.row.toRowW.within.isEmpty)) = true := by kernel_rfl
theorem hd {d : DefRec} {kwd : List (Str × PySem.Expr)} (h1 : defOf hd.view_39 (Str.ofString "law") = some (d, kwd)) (h2 : pw.theDef (Str.ofString "law") = some (d.params, d.body, d.scope)) (h3 : kwWritten? d.params.kwonlyargs d.params.kw_defaults = some kwd)
    (h : WalkO hd.view_39 loose (XL hd.view_39 []) (kHook hd.heap_39 KA KA_eq).says PySem.Challenge.rw_il0129_01.row.toRowW d kwd fun f vs => call f vs) : PySem.Challenge.rw_il0129_01.Holds := by
  w_on
  refine holds_law law_said fun said => ?_
  refine holds_open (q := hd.view_39) (loose := loose) (Xt := Xt0) (XP := XL hd.view_39 []) (Yf := (kHook hd.heap_39 KA KA_eq).obs) (Ya := (kHook hd.heap_39 KA KA_eq).val) (YP := (kHook hd.heap_39 KA KA_eq).says) (N := 4218) left (kHook hd.heap_39 KA KA_eq).of (kHook hd.heap_39 KA KA_eq).keeps
    (fun s e => xl_of s (Bool.and_eq_true_iff.mp e).1) XL.keeps h1 h2 h3 (fun s e => recFacts_of (Bool.and_eq_true_iff.mp e).2) (by rfl) said law_looks ⟨rfl, rfl, rfl, rfl, rfl, by decide +kernel⟩ ?hw h
  w_witness2

theorem w_off : True := by
  w_top off
  trivial
end Mine
end

namespace Mine
section
open PySem PySem.Calls PySem.W PyProof.Rows

abbrev StaysIn (h h' : Heap) : Prop := ∀ b o, h.get? b = some o → h'.get? b = some o

/-- what is new: objects that stand in h' and not in h -/
def New (h h' : Heap) (tl : List (Addr × Obj)) : Prop := ∀ p ∈ tl, h'.get? p.1 = some p.2 ∧ h.get? p.1 = none
theorem new_of {h h' : Heap} {L : Addr} {tl : List (Addr × Obj)} (N : News h L h' tl) : New h h' tl := fun p hp => ⟨(N p hp).1, (N p hp).2.2⟩

def ConEnd (s : Shared) (post : Heap → Value → Heap → Prop) (v : Value) (s' : Shared) : Prop := ∃ h' tk', s' = { s with heap := h', toks := tk' } ∧ StaysIn s.heap h' ∧ post s.heap v h'
theorem ConEnd.intro {s : Shared} {post : Heap → Value → Heap → Prop} {v : Value} {L : Addr} {m : Str → Option Value} {h' : Heap} {tk' : Nat} (F : Fr s.heap L h' m) (h : post s.heap v h') : ConEnd s post v { s with heap := h', toks := tk' } := ⟨h', tk', rfl, F.keep, h⟩

def Con (prog : Program) (w : World) (K : Frag) (f : Addr) (lev : Nat) (vals : List Value) (pre : Heap → Prop) (post : Heap → Value → Heap → Prop) : Prop :=
  ∀ (dp un : Nat) (gd : Option (List Code)) (cn : Str) (cs : Scope) (a : Addr) (ccd : Value) (cl : List (Str × Addr)) (outer : List Env) (A₀ : Around) (base h₀ : Heap) (L : Addr) (m : Str → Option Value) (mean : ExcName → Option Value) (mg mb : Str → Option Value) (s : Shared) (Q E : Value → Shared → Prop),
    Below A₀ base outer h₀ → Fr h₀ L s.heap m → K.In h₀ → Top hd.view_39 (looseW hd.view_39 [Str.ofString "_tuplegetter", Str.ofString "Pair"]) mean mg mb h₀ → cs.kind = .function →
    dp + 8 * lev < recursionLimit → un + 64 * lev < cLine → pre s.heap →
    (∀ v h' tk', StaysIn s.heap h' → post s.heap v h' → Q v { s with heap := h', toks := tk' }) →
    codeAny (model prog w) (ktrTop dp un gd cn cs L a ccd cl outer) (.call (.ref f) ⟨vals, []⟩) (fun r s' => match r with | .ok (.ret v) => Q v s' | .ok _ => False | .error e => E e s') s

theorem Con.code {prog : Program} {w : World} {K : Frag} {f : Addr} {lev : Nat} {vals : List Value} {pre : Heap → Prop} {post : Heap → Value → Heap → Prop} (C : Con prog w K f lev vals pre post)
    {dp un : Nat} {gd : Option (List Code)} {cn : Str} {cs : Scope} {a : Addr} {ccd : Value} {cl : List (Str × Addr)} {outer : List Env} {A₀ : Around} {base h₀ : Heap} {L : Addr} {m : Str → Option Value} {mean : ExcName → Option Value} {mg mb : Str → Option Value} {s : Shared} {Q E : Value → Shared → Prop} {news : List (Addr × Obj)}
    (B : Below A₀ base outer h₀) (F : Fr h₀ L s.heap m) (X : K.In h₀) (N : News h₀ L s.heap news) (T : Top hd.view_39 (looseW hd.view_39 [Str.ofString "_tuplegetter", Str.ofString "Pair"]) mean mg mb h₀) (hk : cs.kind = .function)
    (hd : dp + 8 * lev < recursionLimit) (hu : un + 64 * lev < cLine) (hp : pre s.heap)
    (ret : ∀ v h' tk', Fr h₀ L h' m → News h₀ L h' news → StaysIn s.heap h' → post s.heap v h' → Q v { s with heap := h', toks := tk' }) :
    codeAny (model prog w) (ktrTop dp un gd cn cs L a ccd cl outer) (.call (.ref f) ⟨vals, []⟩) (fun r s' => match r with | .ok (.ret v) => Q v s' | .ok _ => False | .error e => E e s') s :=
  C _ _ _ _ _ _ _ _ _ _ _ _ _ _ _ _ _ _ _ _ B F X T hk hd hu hp fun v h' tk' k q => ret v h' tk' (F.kept k) (N.grown k) k q

theorem Con.use {prog : Program} {w : World} {K : Frag} {f : Addr} {lev : Nat} {vals : List Value} {pre : Heap → Prop} {post : Heap → Value → Heap → Prop} (C : Con prog w K f lev vals pre post)
    {dp un : Nat} {gd : Option (List Code)} {cn : Str} {cs : Scope} {a : Addr} {ccd : Value} {cl : List (Str × Addr)} {outer : List Env} {A₀ : Around} {base h₀ : Heap} {L : Addr} {m : Str → Option Value} {mean : ExcName → Option Value} {mg mb : Str → Option Value} {s : Shared} {Q E : Value → Shared → Prop} {news : List (Addr × Obj)}
    (B : Below A₀ base outer h₀) (F : Fr h₀ L s.heap m) (X : K.In h₀) (N : News h₀ L s.heap news) (T : Top hd.view_39 (looseW hd.view_39 [Str.ofString "_tuplegetter", Str.ofString "Pair"]) mean mg mb h₀) (hk : cs.kind = .function)
    (hd : dp + 8 * lev < recursionLimit) (hu : un + 64 * lev < cLine) (hp : pre s.heap)
    (ret : ∀ v h' tk', Fr h₀ L h' m → News h₀ L h' news → StaysIn s.heap h' → post s.heap v h' → Q v { s with heap := h', toks := tk' }) :
    wpAny (model prog w) (ktrTop dp un gd cn cs L a ccd cl outer) (call (.ref f) vals) Q E s :=
  wpAny_call (C.code B F X N T hk hd hu hp ret)

theorem New.news {h₀ h h' : Heap} {L : Addr} {m : Str → Option Value} {news tl : List (Addr × Obj)} (F : Fr h₀ L h m) (N : News h₀ L h' news) (W : New h h' tl) : News h₀ L h' (tl ++ news) := by
  intro p hp
  rcases List.mem_append.mp hp with hp | hp
  · obtain ⟨a, b⟩ := W p hp
    refine ⟨a, fun e => ?_, ?_⟩
    · obtain ⟨o, _, _, q, _⟩ := F.ns
      rw [e, q] at b
      cases b
    · cases q : h₀.get? p.1 with
      | none => rfl
      | some o => have z := F.keep _ _ q; rw [b] at z; cases z
  · exact N p hp
theorem New.off {h₀ h h' : Heap} {L : Addr} {news tl : List (Addr × Obj)} (N : News h₀ L h news) (W : New h h' tl) : OwnOff tl (news.map (·.1)) := by
  intro p hp b hb e
  obtain ⟨q, hq, rfl⟩ := List.mem_map.mp hb
  have z := (N q hq).1
  rw [← e, (W p hp).2] at z
  cases z

theorem con_enter {prog : Program} {w : World} {K : Frag} {f : Addr} {lev : Nat} {vals : List Value} {pre : Heap → Prop} {post : Heap → Value → Heap → Prop}
    {name qual : Str} {params : Arguments} {body : List Stmt} {scope : Scope} {dV kV doc pm cdv ct oc : Value} {an od : Option Addr} {osl : Array (Option Value)} {binds : List (Str × Value)}
    (ho : K.lookup f = some ⟨oc, od, .func (fnOf name qual params body scope dV kV doc pm an cdv ct), osl⟩) (hcd : codeIn K cdv qual = true)
    (hbind : ∀ s : Shared, K.In s.heap → BindsTo s (fnOf name qual params body scope dV kV doc pm an cdv ct) ⟨vals, []⟩ binds) (hloc : ∀ y ∈ binds, scope.names.lookup y.1 = some .local)
    (hcell : ∀ x ∈ scope.names, x.2 ≠ .cell) (hco : scope.isCoroutine = false) (hgen : scope.isGenerator = false) (hk : scope.kind = .function) (hlev : 1 ≤ lev)
    (h : ∀ (dp un : Nat) (gd : Option (List Code)) (outer : List Env) (A₀ : Around) (base : Heap) (mean : ExcName → Option Value) (mg mb : Str → Option Value) (s : Shared) (L' : Addr) (h₁ : Heap) (tk : Nat),
      Below A₀ base outer s.heap → K.In s.heap → Top hd.view_39 (looseW hd.view_39 [Str.ofString "_tuplegetter", Str.ofString "Pair"]) mean mg mb s.heap →
      dp + 7 + 8 * (lev - 1) < recursionLimit → un + 61 + 64 * (lev - 1) < cLine → pre s.heap →
      Fr s.heap L' h₁ (fun y => binds.reverse.lookup y) → News s.heap L' h₁ [] →
      wpAny (model prog w) (ktrTop dp un gd qual scope L' f cdv [] outer) (execs body (envOf qual scope L' f cdv))
        (fun fl s' => ConEnd s post (match fl with | .ret v => v | _ => .none) s') (fun _ _ => False) { s with heap := h₁, toks := tk }) :
    Con prog w K f lev vals pre post := by
  intro dp un gd cn cs a ccd cl outer A₀ base h₀ L m mean mg mb s Q E B F X T hkc hd hu hp ret
  have Xs : K.In s.heap := X.keeps F.keep
  refine (codeAny_call_def (fd := fnOf name qual params body scope dV kV doc pm an cdv ct) (body := body) (binds := binds) ?_ (Xs _ _ ho) rfl ((T.keeps F.keep).nolimit) (codeRec_of Xs hcd) rfl (hbind s Xs) hcell hloc (fun h₁ hns hk₁ => ?_) hco hgen hk)
  · show dp < recursionLimit
    (first | lia | omega)
  · have B' := pushX (env := envX cn cs L a ccd cl) B F rfl hkc
    have B2 : Below (ktrTop dp un gd cn cs L a ccd cl outer) base (envX cn cs L a ccd cl :: outer) s.heap := ⟨rfl, B'.stays, B'.frames⟩
    have z := h (dp + 1) (un + 3) gd (envX cn cs L a ccd cl :: outer) _ base mean mg mb s s.heap.objs.size h₁ (s.toks + binds.length) B2 Xs (T.keeps F.keep) (by (first | lia | omega)) (by (first | lia | omega)) hp ⟨hns, hk₁, Nat.le_refl _⟩ News.nil
    refine wpAny_mono z (fun fl s' hq => ?_) fun _ _ x => x.elim
    obtain ⟨h', tk', rfl, k, q⟩ := hq
    exact ret _ h' tk' k q

theorem Con.imp {prog : Program} {w : World} {K : Frag} {f : Addr} {lev : Nat} {vals : List Value} {pre pre' : Heap → Prop} {post post' : Heap → Value → Heap → Prop} (C : Con prog w K f lev vals pre post)
    (h1 : ∀ h, pre' h → pre h) (h2 : ∀ h v h', pre' h → post h v h' → post' h v h') : Con prog w K f lev vals pre' post' :=
  fun dp un gd cn cs a ccd cl outer A₀ base h₀ L m mean mg mb s Q E B F X T hk hd hu hp ret =>
    C dp un gd cn cs a ccd cl outer A₀ base h₀ L m mean mg mb s Q E B F X T hk hd hu (h1 _ hp) fun v h' tk' k q => ret v h' tk' k (h2 _ _ _ hp q)
theorem roomD {dp l k R : Nat} (h : dp + 7 + 8 * (l - 1) < R) (hk : 8 * k ≤ 7 + 8 * (l - 1)) : dp + 8 * k < R := by (first | lia | omega)
theorem roomU {un l k R : Nat} (h : un + 61 + 64 * (l - 1) < R) (hk : 64 * k ≤ 61 + 64 * (l - 1)) : un + 64 * k < R := by (first | lia | omega)
theorem unitsU {dp un l : Nat} {gd : Option (List Code)} {cn : Str} {cs : Scope} {L a : Addr} {ccd : Value} {cl : List (Str × Addr)} {outer : List Env} (h : un + 61 + 64 * (l - 1) < cLine) : (ktrTop dp un gd cn cs L a ccd cl outer).units < cLine := by
  dsimp only [ktrTop]
  (first | lia | omega)
theorem nn1 {a : Nat} : @Ne Nat (a + 1) a := Nat.succ_ne_self a
theorem nn2 {a : Nat} : @Ne Nat (a + 1 + 1) a := Nat.ne_of_gt (Nat.lt_succ_of_lt (Nat.lt_succ_self _))
theorem nn3 {a : Nat} : @Ne Nat (a + 1 + 1 + 1) a := Nat.ne_of_gt (Nat.lt_succ_of_lt (Nat.lt_succ_of_lt (Nat.lt_succ_self _)))
theorem nn4 {a : Nat} : @Ne Nat (a + 1 + 1 + 1 + 1) a := Nat.ne_of_gt (Nat.lt_succ_of_lt (Nat.lt_succ_of_lt (Nat.lt_succ_of_lt (Nat.lt_succ_self _))))
theorem all1 {P : Addr × Obj → Prop} {a : Addr × Obj} (h1 : P a) : ∀ p ∈ [a], P p := fun p hp => List.mem_singleton.mp hp ▸ h1
theorem allc {P : Addr × Obj → Prop} {a : Addr × Obj} {l : List (Addr × Obj)} (h1 : P a) (h2 : ∀ p ∈ l, P p) : ∀ p ∈ a :: l, P p := fun p hp => (List.mem_cons.mp hp).elim (fun e => e ▸ h1) (h2 p)
theorem alla {P : Addr × Obj → Prop} {l₁ l₂ : List (Addr × Obj)} (h1 : ∀ p ∈ l₁, P p) (h2 : ∀ p ∈ l₂, P p) : ∀ p ∈ l₁ ++ l₂, P p := fun p hp => (List.mem_append.mp hp).elim (h1 p) (h2 p)
theorem alln {P : Addr × Obj → Prop} : ∀ p ∈ ([] : List (Addr × Obj)), P p := fun _ h => nomatch h
theorem memL {α : Type} {l : List α} {d : α} : d ∈ l ++ [d] := List.mem_append_right _ (.head _)
theorem memM {α : Type} {l : List α} {d e : α} (h : e ∈ l) : e ∈ l ++ [d] := List.mem_append_left _ h
theorem fr_one {g h : Heap} {L : Addr} {m : Str → Option Value} {x : Str} {v : Value} (F : Fr g L h m) (e : m x = some v) : Fr g L h (fun y => if y = x then some v else m y) := by
  have q : (fun y => if y = x then some v else m y) = m := by
    funext y
    by_cases h : y = x
    · rw [if_pos h, h, e]
    · rw [if_neg h]
  rw [q]
  exact F
/-- a place where the walk stops -/
structure HoldP (P : Prop) : Prop where
  mk :: of : P
theorem hold {P : Prop} (h : HoldP P) : P := h.of
theorem fr_three {g h : Heap} {L : Addr} {m : Str → Option Value} {x y z : Str} {u v w : Value} (F : Fr g L h m) (ex : m x = some u) (ey : m y = some v) (ez : m z = some w) : ∃ m' : Str → Option Value, Fr g L h (fun q => if q = x then some u else if q = y then some v else if q = z then some w else m' q) := by
  refine ⟨m, ?_⟩
  have e : (fun q => if q = x then some u else if q = y then some v else if q = z then some w else m q) = m := by
    funext q
    by_cases h1 : q = x
    · rw [if_pos h1, h1, ex]
    · rw [if_neg h1]
      by_cases h2 : q = y
      · rw [if_pos h2, h2, ey]
      · rw [if_neg h2]
        by_cases h3 : q = z
        · rw [if_pos h3, h3, ez]
        · rw [if_neg h3]
  rw [e]
  exact F
/-- a continuation that is hidden -/
structure HideQ {α : Type} (Q QQ : α → Shared → Prop) : Prop where
  ap : ∀ a s, Q a s → QQ a s
theorem hid_ap {α : Type} {Q QQ : α → Shared → Prop} {a : α} {s : Shared} (H : HideQ Q QQ) (h : Q a s) : QQ a s := H.ap a s h
theorem hide {α : Type} {M : Model} {A : Around} {t : Sem α} {Q : α → Shared → Prop} {E : Value → Shared → Prop} {s : Shared} (h : ∀ QQ : α → Shared → Prop, HideQ Q QQ → wpAny M A t QQ E s) : wpAny M A t Q E s := h Q ⟨fun _ _ q => q⟩
theorem execs_hide {M : Model} {A : Around} {env : Env} {st : Stmt} {rest : List Stmt} {Q : Flow → Shared → Prop} {E : Value → Shared → Prop} {s : Shared}
    (h : ∀ QQ : Flow → Shared → Prop, HideQ (fun f s' => match f with | .next => wpAny M A (execs rest env) Q E s' | f => Q f s') QQ → wpAny M A (exec st env) QQ E s) : wpAny M A (execs (st :: rest) env) Q E s :=
  wpAny_execs_cons (h _ ⟨fun _ _ q => q⟩)
def AllNe (d : Addr) : List (Addr × Obj) → Prop
  | [] => True
  | p :: r => @Ne Nat p.1 d ∧ AllNe d r
theorem allNe_of {h₀ h h' : Heap} {L l : Addr} {o : Obj} {tl : List (Addr × Obj)} (W : New h h' ((l, o) :: tl)) : ∀ {news : List (Addr × Obj)}, News h₀ L h news → AllNe l news
  | [], _ => trivial
  | p :: _, N => by
    refine ⟨fun e => ?_, allNe_of W fun q hq => N q (.tail _ hq)⟩
    have z := (N p (.head _)).1
    have e' : p.1 = l := e
    rw [e', (W _ (.head _)).2] at z
    exact absurd z (by simp)

end
end Mine

namespace Mine
section
open PySem PySem.Calls PySem.W PyProof.Rows

def names (o : Bool) : List Str := if o then [Str.ofString "+", Str.ofString "+A", Str.ofString "", Str.ofString "A+", Str.ofString "A+A", Str.ofString "A", Str.ofString "AA", Str.ofString "a"]
  else [Str.ofString "", Str.ofString "+", Str.ofString "+A", Str.ofString "A", Str.ofString "A+", Str.ofString "A+A", Str.ofString "AA", Str.ofString "a"]
def values : List Str := [Str.ofString "", Str.ofString "+", Str.ofString "=", Str.ofString "=+", Str.ofString "A", Str.ofString "A="]
def thing (o : Bool) (n v : Str) : Dat := if o then .str (n ++ Str.ofString "=" ++ v) else .tuple [.str n, .str v]
def ordI (o : Bool) : Int := if o then 1 else 0
/-- a list of texts, new -/
def TextsNew (g : Heap) (h' : Heap) (r : Value) (ss : List Str) : Prop := ∃ l vs n, r = .ref l ∧ New g h' [(l, listOf vs.toArray n)] ∧ DatAll [] vs (ss.map Dat.str)

set_option pp.deepTerms false
set_option pp.deepTerms.threshold 6
set_option pp.maxSteps 6000
set_option maxHeartbeats 8000000 in
theorem con_thing (w : World) (o : Bool) (n v : Str) (t1 t2 t3 : Tok) :
    Con Challenge.rw_il0129_01.row.prog w (hd.heap_39 w.params) 193 1 [.str n t1, .str v t2, .int (ordI o) t3] (fun _ => n.length ≤ 100 ∧ v.length ≤ 100)
      (fun g r h' => ∃ tl, New g h' tl ∧ DatIn tl r (thing o n v)) := by
  cases o with
  | false =>
    dsimp only [ordI, thing]
    (k_fill; k_dflt (refine' con_enter ?k6 ?k7 ?k9 ?kB ?c5 ?c2 ?c3 ?c4 ?cl ?_; (case k6 => k_is); (case k7 => k_is); (case k9 => first | exact fun _ _ => BindsTo.of_eq rfl | exact fun _ X => binds_K X rfl (by k_is) rfl rfl rfl); (case c5 => decide); (case kB => exact locs rfl); (case c2 => exact rfl); (case c3 => exact rfl); (case c4 => exact rfl); (case cl => decide); k_whole))
    intro dp un gd outer A₀ base mean mg mb s L' h₁ tk B X T hd hu hp F N
    k_steps
    exact ConEnd.intro (by assumption) ⟨_, new_of (by assumption), by kd_in⟩
  | true =>
    dsimp only [ordI, thing]
    (k_fill; k_dflt (refine' con_enter ?k6 ?k7 ?k9 ?kB ?c5 ?c2 ?c3 ?c4 ?cl ?_; (case k6 => k_is); (case k7 => k_is); (case k9 => first | exact fun _ _ => BindsTo.of_eq rfl | exact fun _ X => binds_K X rfl (by k_is) rfl rfl rfl); (case c5 => decide); (case kB => exact locs rfl); (case c2 => exact rfl); (case c3 => exact rfl); (case c4 => exact rfl); (case cl => decide); k_whole))
    intro dp un gd outer A₀ base mean mg mb s L' h₁ tk B X T hd hu hp F N
    k_steps
    exact ConEnd.intro (by assumption) ⟨_, new_of (by assumption), DatIn.str _ _⟩

set_option maxHeartbeats 8000000 in
theorem con_names (w : World) (o : Bool) (t : Tok) :
    Con Challenge.rw_il0129_01.row.prog w (hd.heap_39 w.params) 179 1 [.int (ordI o) t] (fun _ => True)
      (fun g r h' => TextsNew g h' r (names o)) := by
  cases o with
  | false =>
    dsimp only [ordI]
    (k_fill; k_dflt (refine' con_enter ?k6 ?k7 ?k9 ?kB ?c5 ?c2 ?c3 ?c4 ?cl ?_; (case k6 => k_is); (case k7 => k_is); (case k9 => first | exact fun _ _ => BindsTo.of_eq rfl | exact fun _ X => binds_K X rfl (by k_is) rfl rfl rfl); (case c5 => decide); (case kB => exact locs rfl); (case c2 => exact rfl); (case c3 => exact rfl); (case c4 => exact rfl); (case cl => decide); k_whole))
    intro dp un gd outer A₀ base mean mg mb s L' h₁ tk B X T hd hu hp F N
    k_steps
    refine ConEnd.intro (by assumption) ⟨_, _, _, rfl, new_of (by assumption), ?_⟩
    show DatAll _ _ (List.map Dat.str [_, _, _, _, _, _, _, _])
    dsimp only [List.map]
    kd_all
  | true =>
    dsimp only [ordI]
    (k_fill; k_dflt (refine' con_enter ?k6 ?k7 ?k9 ?kB ?c5 ?c2 ?c3 ?c4 ?cl ?_; (case k6 => k_is); (case k7 => k_is); (case k9 => first | exact fun _ _ => BindsTo.of_eq rfl | exact fun _ X => binds_K X rfl (by k_is) rfl rfl rfl); (case c5 => decide); (case kB => exact locs rfl); (case c2 => exact rfl); (case c3 => exact rfl); (case c4 => exact rfl); (case cl => decide); k_whole))
    intro dp un gd outer A₀ base mean mg mb s L' h₁ tk B X T hd hu hp F N
    k_steps
    refine ConEnd.intro (by assumption) ⟨_, _, _, rfl, new_of (by assumption), ?_⟩
    show DatAll _ _ (List.map Dat.str [_, _, _, _, _, _, _, _])
    dsimp only [List.map]
    kd_all
set_option maxHeartbeats 8000000 in
theorem con_values (w : World) :
    Con Challenge.rw_il0129_01.row.prog w (hd.heap_39 w.params) 186 1 [] (fun _ => True)
      (fun g r h' => TextsNew g h' r values) := by
  (k_fill; k_dflt (refine' con_enter ?k6 ?k7 ?k9 ?kB ?c5 ?c2 ?c3 ?c4 ?cl ?_; (case k6 => k_is); (case k7 => k_is); (case k9 => first | exact fun _ _ => BindsTo.of_eq rfl | exact fun _ X => binds_K X rfl (by k_is) rfl rfl rfl); (case c5 => decide); (case kB => exact locs rfl); (case c2 => exact rfl); (case c3 => exact rfl); (case c4 => exact rfl); (case cl => decide); k_whole))
  intro dp un gd outer A₀ base mean mg mb s L' h₁ tk B X T hd hu hp F N
  k_steps
  refine ConEnd.intro (by assumption) ⟨_, _, _, rfl, new_of (by assumption), ?_⟩
  show DatAll _ _ (List.map Dat.str [_, _, _, _, _, _])
  dsimp only [List.map]
  kd_all


end
end Mine

namespace Mine
section
open PySem PySem.Calls PySem.W PyProof.Rows

section
variable {prog : Program} {w : World} {A : Around} {E : Value → Shared → Prop} {s : Shared} {K : Frag} {h₀ : Heap} {L : Addr} {m : Str → Option Value} {news : List (Addr × Obj)}
theorem attr_type {T : String} {name : Str} {v : Value} {expr : Bool} {Q : Value → Shared → Prop} (F : Fr h₀ L s.heap m) (X₀ : K.In h₀) (ht : kitMeta T = true) (hs : Manifest.isStub T = false)
    (e : findCls K (.type T) (.type "type") name = some (.val v)) (hh : handedIn v = true) (h : Q v { s with toks := s.toks + 1 }) : wpAny (model prog w) A (getAttr (.type T) name expr) Q E s := by
  have X := X₀.keeps F.keep
  have hstub : opaqueClassAbove (.type T) = pure none := by unfold opaqueClassAbove; dsimp only; rw [hs]; rfl
  have L0 : Looks (model prog w) s.heap (typeOf (.type T)) (.type "type") := Looks.of_pure (kitMeta_of ht)
  have LO : Looks (model prog w) s.heap (opaqueClassAbove (.type T)) none := Looks.of_pure hstub
  have hg : findIn K (.type "type") "__getattribute__" = some (some (.builtin "type.__getattribute__")) := type_tga
  exact cls_open X LO L0 hg (looks_hook X (r := none) (by rfl)) (by show subIn K _ _ = _; rfl) e
    (wpAny_pure (by show wpAny _ _ (handedOut v) _ _ _; rw [handedOut_of hh]; exact wpAny_pure h))
end

open Builtin Builtin.Str in
/-- a text parted once: its two parts are known -/
theorem split_once {prog : Program} {w : World} {A : Around} {E : Value → Shared → Prop} {s : Shared} {h₀ : Heap} {L : Addr} {m : Str → Option Value} {news : List (Addr × Obj)} {x a b : Str} {t u v : Tok} {Q : Value → Shared → Prop}
    (hF : Fr h₀ L s.heap m) (hN : News h₀ L s.heap news) (hx : x = a ++ Str.ofString "=" ++ b) (ha : 61 ∉ a.cps.toList) (hsz : x.length ≤ 1000)
    (h : ∀ D t1 t2 h' k, Fr h₀ L h' m → News h₀ L h' ((D, listOf [Value.str a t1, Value.str b t2].toArray 0) :: news) → (∀ p ∈ news, p.1 < D) → Q (.ref D) { s with heap := h', toks := k }) :
    wpAny (model prog w) A (call (.builtin "str.split") [.str x t, .str (Str.ofString "=") u, .int 1 v]) Q E s := by
  have e61 : Str.ofString "=" = ⟨#[61]⟩ := by decide +kernel
  have hl : x.length = a.length + (1 + b.length) := by
    rw [hx, e61, Str.length_append, Str.length_append]
    show a.length + 1 + b.length = _
    (first | lia | omega)
  have hocc : occurrences x (Str.ofString "=") 0 x.length 1 = [a.length] := by
    have hlen := StrLaws.occ_length_le x (Str.ofString "=") 0 x.length 1
    have hxl : x.cps.toList = a.cps.toList ++ 61 :: b.cps.toList := by
      rw [hx, e61]
      simp [Str.cps_append]
    have hat : ∀ i, StrLaws.At x (Str.ofString "=") x.length i ↔ x.cps.toList[i]? = some 61 := by
      intro i
      unfold StrLaws.At
      rw [StrLaws.subAt_eq, e61]
      show i + 1 ≤ x.cps.size ∧ ((x.cps.toList.drop i).take 1 == [61]) = true ↔ _
      rw [beq_iff_eq]
      constructor
      · rintro ⟨h1, h2⟩
        have : (x.cps.toList.drop i)[0]? = some 61 := by
          have h3 : ((x.cps.toList.drop i).take 1)[0]? = some 61 := by rw [h2]; rfl
          simpa [List.getElem?_take] using h3
        simpa using this
      · intro h1
        obtain ⟨h2, h3⟩ := List.getElem?_eq_some_iff.mp h1
        refine ⟨Nat.succ_le_of_lt (by simpa using h2), ?_⟩
        rw [List.drop_eq_getElem_cons h2, List.take_succ_cons, List.take_zero, h3]
    rcases StrLaws.occ_head x (Str.ofString "=") 1 (Nat.le_refl _) with ⟨_, hno⟩ | ⟨i, r, hi, hat', hbef⟩
    · exfalso
      refine hno a.length ((hat _).mpr ?_)
      rw [hxl, List.getElem?_append_right (by simp [Str.length])]
      simp [Str.length]
    · rw [hi] at hlen
      have hr : r = [] := by
        cases r with
        | nil => rfl
        | cons _ _ => simp at hlen
      subst hr
      rw [hi]
      have h1 : x.cps.toList[a.length]? = some 61 := by
        rw [hxl, List.getElem?_append_right (by simp [Str.length])]
        simp [Str.length]
      have h2 : ¬ a.length < i := fun hlt => hbef _ hlt ((hat _).mpr h1)
      have h3 : ¬ i < a.length := fun hlt => by
        have h4 := (hat i).mp hat'
        rw [hxl, List.getElem?_append_left (by simpa [Str.length] using hlt)] at h4
        exact ha (List.mem_of_getElem? h4)
      have : i = a.length := by (first | lia | omega)
      rw [this]
  have hparts : partsBetween x [a.length] (Str.ofString "=").length = [a, b] := by
    rw [e61]
    show [strSub x 0 a.length, strSub x (a.length + 1) x.length] = [a, b]
    have hxl : x.cps.toList = a.cps.toList ++ 61 :: b.cps.toList := by
      rw [hx, e61]
      simp [Str.cps_append]
    have e1 : strSub x 0 a.length = a := by
      refine Str.ext' (Array.toList_inj.mp ?_)
      rw [StrLaws.strSub_toList, hxl]
      simp [Str.length]
    have e2 : strSub x (a.length + 1) x.length = b := by
      refine Str.ext' (Array.toList_inj.mp ?_)
      rw [StrLaws.strSub_toList, hxl, hl]
      have q : List.drop (a.length + 1) (a.cps.toList ++ 61 :: b.cps.toList) = b.cps.toList := by
        rw [List.drop_append]
        simp [Str.length]
      rw [q, List.take_of_length_le]
      simp [Str.length]
      (first | lia | omega)
    rw [e1, e2]
  have hlim : limitOf x 1 = 1 := rfl
  have hk : PySem.Builtin.Str.strKind (Str.ofString "=") = 1 := by decide +kernel
  have hk2 : ¬ PySem.Builtin.Str.strKind x < 1 := by unfold PySem.Builtin.Str.strKind; cases x.cps.all (fun x => decide (x < 256)) <;> cases x.cps.all (fun x => decide (x < 65536)) <;> decide
  have h1 : (decide (x.length < (Str.ofString "=").length) || decide (PySem.Builtin.Str.strKind x < PySem.Builtin.Str.strKind (Str.ofString "="))) = false := by
    rw [hk, e61, Bool.or_eq_false_iff]
    exact ⟨decide_eq_false (by show ¬ x.length < 1; (first | lia | omega)), decide_eq_false hk2⟩
  have hS := sizeLine_eq
  refine call_meets F.slot_str_split (typeIs_str _ _ _) F.entry_str_split (F.args_str_split_3 _ _ _) (meets_str_split_sep_max x (Str.ofString "=") 1 t u v (by decide) h1 (by decide +kernel) (by rw [hlim, hocc]; rfl) (by (first | lia | omega)) (by rw [hlim, hocc, hparts]; show 2 ≤ _; (first | lia | omega))) ?_
  rw [hlim, hocc, hparts]
  exact h _ _ _ _ _ (Fr.pushS hF _) (News.push hF hN _) fun p hp => Heap.lt_size (hN p hp).1

end
end Mine

namespace Mine
section
open PySem PySem.Calls PySem.W PyProof.Rows
open AutoSeq1 (wpAny_loadPart')

theorem mro_map : mroOf (.type "map") = pure [.type "map", .type "object"] := by rw [mroOf_type]; kernel_rfl
theorem lookup_map_new : typeLookup (.type "map") "__new__" = pure (some (.builtin "map.__new__")) := by rw [typeLookup_type, builtinLookup_eq_fast]; kernel_rfl
theorem slot_map_init : Slot "map" "__init__" "object.__init__" :=
  .of (owner := "object") (n := "__init__") (by rw [typeLookup_type, builtinLookup_eq_fast]; kernel_rfl) (by decide +kernel) (by decide +kernel) (by decide +kernel)
    (by first | exact .inl (by decide +kernel) | exact .inr (by decide +kernel)) (by rw [isSubtype_type]; kernel_rfl)
theorem called_map : TypeCalled "map" "map.__new__" "object.__init__" :=
  ⟨by decide +kernel, by decide +kernel, ⟨_, _, mro_map⟩, madeBy_type mro_map lookup_map_new (by decide +kernel), by decide +kernel, by rw [isSubtype_type]; kernel_rfl, slot_map_init⟩
theorem typeCall_map_2 (a b : Value) : checkTypeCall "map" ⟨[a, b], []⟩ = pure () := by kernel_rfl
theorem newCall_map_2 (a b : Value) : checkBuiltinCall "map.__new__" ⟨[.type "map", a, b], []⟩ = pure () := by kernel_rfl
theorem entry_map_new : entryFor table "map.__new__" = some Builtin.«map.__new__» := entryFor_of_tree (by kernel_rfl)
theorem entry_map_next : entryFor table "map.__next__" = some Builtin.«map.__next__» := entryFor_of_tree (by kernel_rfl)
theorem slot_map_next : Slot "map" "__next__" "map.__next__" :=
  .of (owner := "map") (n := "__next__") (by rw [typeLookup_type, builtinLookup_eq_fast]; kernel_rfl) (by decide +kernel) (by decide +kernel) (by decide +kernel)
    (by first | exact .inl (by decide +kernel) | exact .inr (by decide +kernel)) (by rw [isSubtype_type]; kernel_rfl)
theorem slot_map_iter : Slot "map" "__iter__" "map.__iter__" :=
  .of (owner := "map") (n := "__iter__") (by rw [typeLookup_type, builtinLookup_eq_fast]; kernel_rfl) (by decide +kernel) (by decide +kernel) (by decide +kernel)
    (by first | exact .inl (by decide +kernel) | exact .inr (by decide +kernel)) (by rw [isSubtype_type]; kernel_rfl)
theorem args_map_next_1 (a : Value) : argsOk "map.__next__" ⟨[a], []⟩ := by unfold argsOk; kernel_rfl
theorem args_map_iter_1 (a : Value) : argsOk "map.__iter__" ⟨[a], []⟩ := by unfold argsOk; kernel_rfl
theorem map_no_len : typeLookup (.type "map") "__len__" = pure none := by rw [typeLookup_type, builtinLookup_eq_fast]; kernel_rfl
theorem map_no_hint : typeLookup (.type "map") "__length_hint__" = pure none := by rw [typeLookup_type, builtinLookup_eq_fast]; kernel_rfl
theorem sub_map : isSubtype (.type "map") (.type "map") = pure true := by rw [isSubtype_type]; kernel_rfl

theorem meets_map_new (f : String) (l : Addr) (items : Array Value) (n : Nat) :
    Meets (Builtin.«map.__new__» ⟨[.type "map", .builtin f, .ref l], []⟩) (fun _ R s => s.heap.get? l = some { cls := .type "list", dict := none, data := .seq items n, slots := #[] } ∧
      R (.ok (.ret (.ref (s.heap.objs.size + 2))))
        { s with heap := ((s.heap.push { cls := .type "list_iterator", data := .fields #[.ref l, .int 0 0] }).push { cls := .type "tuple", data := .seq #[.ref s.heap.objs.size] }).push { cls := .type "map", data := .fields #[.ref (s.heap.objs.size + 1), .builtin f] } }) :=
  .of_wp fun prog w A R s h => by
    obtain ⟨hp, g, d, tk, os⟩ := s; obtain ⟨hl, h⟩ := h
    have hsub := sub_map
    have hL : Heap.IsList (Shared.heap ⟨hp, g, d, tk, os⟩) l items := ⟨_, hl, rfl, n, rfl⟩
    wp_walk using wpAny_loadPart' hl, wpAny_pyIter_list hL
    refine ⟨_, rfl, ?_⟩
    simp only [Heap.size_push] at h ⊢
    exact h

theorem entry_map_iter : entryFor table "map.__iter__" = some Builtin.«dict_keyiterator.__iter__» :=
  entryFor_alias (id' := "dict_keyiterator.__iter__") (by kernel_rfl) (by first | rfl | decide +kernel | (unfold String.splitOn; simp +decide [String.splitOnAux])) (by decide +kernel) (by kernel_rfl)


end
end Mine

namespace Mine
section
open PySem PySem.Calls PySem.W PyProof.Rows
open AutoSeq1 (wpAny_loadPart')
section
variable {prog : Program} {w : World} {A : Around} {E : Value → Shared → Prop} {s : Shared}
abbrev IsMap (h : Heap) (M T : Addr) (f : String) : Prop := h.get? M = some { cls := .type "map", dict := none, data := .fields #[.ref T, .builtin f], slots := #[] }
abbrev IsOne (h : Heap) (T I : Addr) : Prop := h.get? T = some { cls := .type "tuple", dict := none, data := .seq #[.ref I] 0, slots := #[] }

theorem pyIter_map {M T : Addr} {f : String} {Q : Value → Shared → Prop} (hM : IsMap s.heap M T f) (h : Q (.ref M) s) : wpAny (model prog w) A (pyIter (.ref M)) Q E s := by
  have hT : s.TypeIs (.ref M) "map" := ⟨_, hM, rfl⟩
  refine wpAny_pyIter_slot hT slot_map_iter (wpAny_call_entry slot_map_iter hT entry_map_iter ?_ (args_map_iter_1 _))
  show wpAny _ _ (ret (.ref M)) _ _ s
  exact wpAny_pure ⟨_, rfl, "map", _, hT, slot_map_next.lookup, h⟩

theorem strip_mono {x : Str} {t : Tok} {Q : Value → Shared → Prop} (h : ∀ t' k, s.toks ≤ k → Q (.str (Txt.strip x) t') { s with toks := k }) (hsz : x.length ≤ sizeLine) : wpAny (model prog w) A (call (.builtin "str.strip") [.str x t]) Q E s := by
  refine call_gives F.slot_str_strip (typeIs_str _ _ _) F.entry_str_strip (F.args_str_strip_1 _) (gives_str_strip x t) ?_
  show (if stripSame Unicode.isSpace true true x = true then Made.val (.str x t) else Made.str (PySem.stripped Unicode.isSpace true true x)).post Q s
  by_cases hc : stripSame Unicode.isSpace true true x = true
  · rw [if_pos hc]
    have h' := h t s.toks (Nat.le_refl _)
    have e : Txt.strip x = x := by unfold Txt.strip Txt.stripBy; rw [if_pos hc]
    rw [e] at h'; exact h'
  · rw [if_neg hc]
    have h' := h s.toks (s.toks + 1) (Nat.le_succ _)
    have e : Txt.strip x = PySem.stripped Unicode.isSpace true true x := by unfold Txt.strip Txt.stripBy; rw [if_neg hc]
    rw [e] at h'; exact ⟨fits_stripped _ _ _ hsz, h'⟩
theorem pyNext_map_item {M T I l : Addr} {i : Nat} {items : Array Value} {x : Str} {t : Tok} {Q : Option Value → Shared → Prop}
    (hM : IsMap s.heap M T "str.strip") (hT : IsOne s.heap T I) (hit : s.heap.IsListIter I l i) (hl : s.heap.IsList l items) (hx : items[i]? = some (.str x t)) (hMI : M ≠ I) (_hTI : T ≠ I) (hsz : x.length ≤ sizeLine)
    (hQ : ∀ h' t' k, s.toks ≤ k → h'.IsListIter I l (i + 1) → Heap.SameBut I s.heap h' → Q (some (.str (Txt.strip x) t')) { s with heap := h', toks := k }) :
    wpAny (model prog w) A (pyNext (.ref M)) Q E s := by
  obtain ⟨hp, g, d, tk, os⟩ := s
  have hTy : Shared.TypeIs ⟨hp, g, d, tk, os⟩ (.ref M) "map" := ⟨_, hM, rfl⟩
  unfold pyNext
  refine wpAny_bind (wpAny_attempt (wpAny_callSpecial?_slot (name := Str.ofString "__next__") hTy slot_map_next
    (wpAny_call_entry slot_map_next hTy entry_map_next ?_ (args_map_next_1 _))))
  show wpAny _ _ (field (.ref M) 0 >>= _) _ _ _
  refine wpAny_bind (wpAny_field hM rfl (x := .ref T) rfl ?_)
  refine wpAny_bind (wpAny_seqItems hT rfl ?_)
  dsimp only
  refine wpAny_bind ?_
  show wpAny _ _ (forIn #[Value.ref I] #[] _) _ _ _
  rw [← Array.forIn_toList]
  show wpAny _ _ (forIn [Value.ref I] #[] _) _ _ _
  rw [List.forIn_cons]
  refine wpAny_bind (wpAny_bind (wpAny_holding (wpAny_nextOf_list_item hit hl hx fun h₁ hit₁ hs₁ => ?_)))
  replace hs₁ : Heap.SameBut I hp h₁ := hs₁
  refine wpAny_pure ?_
  dsimp only
  rw [List.forIn_nil]
  refine wpAny_pure ?_
  have hM₁ : IsMap h₁ M T "str.strip" := (hs₁.2 M hMI).trans hM
  refine wpAny_bind (wpAny_field hM₁ rfl (x := .builtin "str.strip") rfl ?_)
  show wpAny _ _ (holding _ (call (.builtin "str.strip") [.str x t]) >>= _) _ _ _
  refine wpAny_bind (wpAny_holding (strip_mono (fun t' k hk => ?_) hsz))
  refine wpAny_bind (wpAny_letGo ?_)
  exact wpAny_pure ⟨_, rfl, wpAny_pure (hQ h₁ t' k hk hit₁ hs₁)⟩

theorem pyNext_map_end {M T I l : Addr} {i : Nat} {items : Array Value} {Q : Option Value → Shared → Prop} {f : String} (hh : A.handled = none)
    (hM : IsMap s.heap M T f) (hT : IsOne s.heap T I) (hit : s.heap.IsListIter I l i) (hl : s.heap.IsList l items) (hx : items[i]? = none)
    (hQ : ∀ h', Heap.ExtBut I s.heap h' → Q none { s with heap := h' }) :
    wpAny (model prog w) A (pyNext (.ref M)) Q E s := by
  obtain ⟨hp, g, d, tk, os⟩ := s
  have hTy : Shared.TypeIs ⟨hp, g, d, tk, os⟩ (.ref M) "map" := ⟨_, hM, rfl⟩
  unfold pyNext
  refine wpAny_bind (wpAny_attempt (wpAny_callSpecial?_slot (name := Str.ofString "__next__") hTy slot_map_next
    (wpAny_call_entry slot_map_next hTy entry_map_next ?_ (args_map_next_1 _))))
  show wpAny _ _ (field (.ref M) 0 >>= _) _ _ _
  refine wpAny_bind (wpAny_field hM rfl (x := .ref T) rfl ?_)
  refine wpAny_bind (wpAny_seqItems hT rfl ?_)
  dsimp only
  refine wpAny_bind ?_
  show wpAny _ _ (forIn #[Value.ref I] #[] _) _ _ _
  rw [← Array.forIn_toList]
  show wpAny _ _ (forIn [Value.ref I] #[] _) _ _ _
  rw [List.forIn_cons]
  refine wpAny_bind (wpAny_bind (wpAny_holding (wpAny_nextOf_list_end hh hit hl hx fun h' x he' hx' => ?_)))
  obtain ⟨o, ho, hc⟩ := hx'
  refine wpAny_bind (wpAny_isInstance (T := "StopIteration") (b := true) ⟨o, ho, hc⟩ isSubtype_stop ?_)
  exact wpAny_pure (hQ _ he')

/-- the state of a map of strip over a list of texts -/
def MapSt (M T I l : Addr) (items : Array Value) (i : Nat) (s : Shared) : Prop := IsMap s.heap M T "str.strip" ∧ IsOne s.heap T I ∧ s.heap.IsListIter I l i ∧ s.heap.IsList l items

theorem walks_map {M T I l : Addr} {items : Array Value} (hh : A.handled = none) (hi : ∀ v ∈ items.toList, ∃ x t, v = .str x t ∧ x.length ≤ sizeLine) (hMI : M ≠ I) (hTI : T ≠ I) (hlI : l ≠ I) :
    WalksS prog w A M [M, T, I, l] [I] (fun a b => b = a) items.size (fun i v => ∃ x t t', items[i]? = some (.str x t) ∧ v = .str (Txt.strip x) t') (MapSt M T I l items) where
  sub := fun b hb => by rw [List.mem_singleton.mp hb]; simp
  grefl := fun _ => rfl
  gtrans := fun _ _ _ h1 h2 => h2.trans h1
  frame := fun i s h' tk st _ hk => by
    obtain ⟨h1, h2, ⟨o3, h3, r3⟩, ⟨o4, h4, r4⟩⟩ := st
    exact ⟨hk M (by simp) _ h1, hk T (by simp) _ h2, ⟨o3, hk I (by simp) _ h3, r3⟩, ⟨o4, hk l (by simp) _ h4, r4⟩⟩
  item := fun i s Q E hlt st hQ => by
    obtain ⟨h1, h2, h3, h4⟩ := st
    have hm : items[i]? = some items[i] := getElem?_pos items i hlt
    obtain ⟨x, t, e, hz⟩ := hi items[i] (by simp)
    rw [e] at hm
    refine pyNext_map_item h1 h2 h3 h4 hm hMI hTI hz fun h' t' k hk hit' hs' => ?_
    refine hQ _ _ ⟨x, t, t', hm, rfl⟩ ⟨(hs'.2 M hMI).trans h1, (hs'.2 T hTI).trans h2, hit', ?_⟩ ⟨fun b o hb e => (hs'.2 b fun q => hb (by simp [q])).trans e, rfl, rfl, rfl, hk⟩
    obtain ⟨o4, h4, r4⟩ := h4
    exact ⟨o4, (hs'.2 l hlI).trans h4, r4⟩
  done := fun s Q E st hQ => by
    obtain ⟨h1, h2, h3, h4⟩ := st
    exact pyNext_map_end hh h1 h2 h3 h4 (by simp) fun h' he => hQ _ ⟨fun b o hb e => he b o (fun q => hb (by simp [q])) e, rfl, rfl, rfl, Nat.le_refl _⟩
  self := fun i s Q E st hQ => pyIter_map st.1 hQ


theorem collect_map {M T I l : Addr} {items : Array Value} {Q : List Value → Shared → Prop} (hh : A.handled = none) (hi : ∀ v ∈ items.toList, ∃ x t, v = .str x t ∧ x.length ≤ sizeLine) (hMI : M ≠ I) (hTI : T ≠ I) (hlI : l ≠ I) (hn : items.size ≤ sizeLine)
    (hst : MapSt M T I l items 0 s)
    (hQ : ∀ s' acc, Moved [I] (fun a b => b = a) s s' → ItemsOf (fun i v => ∃ x t t', items[i]? = some (.str x t) ∧ v = .str (Txt.strip x) t') acc items.size → Q acc.toList s') : wpAny (model prog w) A (collect (.ref M)) Q E s := by
  have W := walks_map (prog := prog) (w := w) (A := A.in1.in1) hh hi hMI hTI hlI
  obtain ⟨h1, h2, ⟨o3, h3, r3⟩, ⟨o4, h4, r4⟩⟩ := id hst
  have hfp : ∀ b ∈ [M, T, I, l], b < s.heap.objs.size := by
    intro b hb
    simp only [List.mem_cons, List.not_mem_nil, or_false] at hb
    rcases hb with rfl | rfl | rfl | rfl
    · exact Heap.lt_size h1
    · exact Heap.lt_size h2
    · exact Heap.lt_size h3
    · exact Heap.lt_size h4
  have hSf : s.heap.objs.size ∉ [M, T, I, l] := fun hm => Nat.lt_irrefl _ (hfp _ hm)
  have hSI : s.heap.objs.size ≠ M := fun e => hSf (e ▸ by simp)
  have hT : ∀ i s, MapSt M T I l items i s → s.TypeIs (.ref M) "map" := fun i s st => ⟨_, st.1, rfl⟩
  unfold collect
  refine wpAny_bind (wpAny_runValue (codeAny_builtin F.entry_proto_collect ?_))
  rw [Around.under_plainId F.plain_proto_collect _]
  show wpAny _ A.in1 (newList [] >>= fun l => again (.builtin "list.__iadd__" ⟨[l, .ref M], []⟩)) _ _ s
  refine wpAny_bind (wpAny_newObj_type ?_)
  refine wpAny_pure ⟨plainId_quiet F.plain_list_iadd _, codeAny_builtin F.entry_list_iadd ?_⟩
  rw [Around.under_plainId F.plain_list_iadd _]
  have hst₁ := W.frame 0 s (s.heap.push { cls := .type "list", data := .seq ([] : List Value).toArray }) s.toks hst (Nat.le_refl _) fun b _ o e => Heap.get?_push_of_some _ e
  show wpAny _ A.in1 (Builtin.List.listExtendWith (.ref s.heap.objs.size) (.ref M) (.ref s.heap.objs.size)) _ _ _
  unfold Builtin.List.listExtendWith
  refine wpAny_bind (wpAny_typeOf (hT 0 _ hst₁) ?_)
  have e1 : Builtin.List.listSameRef (.ref s.heap.objs.size) (.ref M) = false := by simp [Builtin.List.listSameRef, hSI]
  have e2 : (Value.type "map" == Value.type "list") = false := by decide
  have e3 : (Value.type "map" == Value.type "tuple") = false := by decide
  simp only [e1, e2, e3, Bool.or_false, Bool.false_eq_true, if_false]
  refine wpAny_bind (pyIter_map hst₁.1 ?_)
  refine wpAny_bind (wpAny_holding ?_)
  unfold Builtin.List.listLengthHint
  refine wpAny_bind (wpAny_specialOf (hT 0 _ hst₁) map_no_len ?_)
  show wpAny _ A.in1 (specialOf (Value.ref M) (Str.ofString "__length_hint__") >>= _) _ _ _
  refine wpAny_bind (wpAny_specialOf (hT 0 _ hst₁) map_no_hint ?_)
  refine wpAny_pure ?_
  show wpAny _ A.in1 (rule "list.extend.makes-room" >>= fun _ => Builtin.List.listTouch (.ref s.heap.objs.size) >>= fun _ =>
    again (.builtin "list.extend.loop" ⟨[.ref s.heap.objs.size, .ref M, .ref s.heap.objs.size], []⟩)) _ _ _
  refine wpAny_bind (wpAny_rule ?_)
  have hS₁ : (s.heap.push { cls := .type "list", data := .seq ([] : List Value).toArray }).get? s.heap.objs.size = some { cls := .type "list", data := .seq ([] : List Value).toArray } := Heap.get?_push_size _ rfl
  refine wpAny_bind ?_
  show wpAny _ A.in1 (updateSeq s.heap.objs.size (·.push .none) >>= fun _ => updateSeq s.heap.objs.size (·.pop)) _ _ _
  refine wpAny_bind (wpAny_updateSeq hS₁ rfl ?_)
  have hS₂ := Heap.get?_update_self (Obj.mapSeq (·.push Value.none)) hS₁ rfl
  refine wpAny_updateSeq hS₂ rfl ?_
  have hS₃ := Heap.get?_update_self (Obj.mapSeq (·.pop)) hS₂ rfl
  have oth : ∀ b o, b ≠ s.heap.objs.size → (s.heap.push { cls := .type "list", data := .seq ([] : List Value).toArray }).get? b = some o →
      (((s.heap.push { cls := .type "list", data := .seq ([] : List Value).toArray }).update s.heap.objs.size (Obj.mapSeq (·.push Value.none))).update s.heap.objs.size (Obj.mapSeq (·.pop))).get? b = some o :=
    fun b o hb e => (Heap.get?_update_other _ _ (Ne.symm hb)).trans ((Heap.get?_update_other _ _ (Ne.symm hb)).trans e)
  refine wpAny_pure ⟨plainId_quiet F.plain_extend_loop _, codeAny_extend_loopS (W := walks_map (prog := prog) (w := w) (A := A.in1) hh hi hMI hTI hlI) hn _ hSf _ items.size 0 _ _ _ rfl (Nat.zero_le _)
    (W.frame 0 ({ s with heap := s.heap.push { cls := .type "list", data := .seq ([] : List Value).toArray } } : Shared) _ s.toks hst₁ (Nat.le_refl _) fun b hb o e => oth b o (fun h => hSf (h ▸ hb)) e) hS₃ (ItemsOf.nil _) fun s' acc' c' hm hS' hacc => ?_⟩
  show wpAny _ A (load s.heap.objs.size >>= _) _ _ s'
  refine wpAny_bind (wpAny_load hS' ?_)
  refine wpAny_pure (hQ s' acc' (Moved.drop_new (o := { cls := .type "list", data := .seq ([] : List Value).toArray }) (tk := s.toks) (Moved.trans (fun _ _ _ h1 h2 => h2.trans h1) ((Moved.refl (G := fun a b => b = a) fun _ => rfl).then_heap (by first | exact Nat.le_refl _ | exact Nat.le_succ _ | (first | lia | omega)) fun b o hb e => ?_) hm) (Nat.le_refl _)) hacc)
  exact oth b o (fun h => hb (h ▸ List.mem_cons_self)) e

/-- map(str.strip, l) handed on by a star: the stripped texts -/
theorem star_map_strip {h₀ : Heap} {L l : Addr} {m : Str → Option Value} {news : List (Addr × Obj)} {a b : Str} {t1 t2 : Tok} {n : Nat} {Q : List Value → Shared → Prop} (hh : A.handled = none)
    (F : Fr h₀ L s.heap m) (N : News h₀ L s.heap news) (hl : (l, listOf [Value.str a t1, Value.str b t2].toArray n) ∈ news) (ha : a.length ≤ 1000) (hb : b.length ≤ 1000)
    (h : ∀ u1 u2 h' tk', Fr h₀ L h' m → News h₀ L h' news → Q [.str (Txt.strip a) u1, .str (Txt.strip b) u2] { s with heap := h', toks := tk' }) :
    wpAny (model prog w) A (call (.type "map") [.builtin "str.strip", .ref l]) (fun v s₁ => StarOf (model prog w) A E v Q s₁) E s := by
  have hol := (N _ hl).1
  have hS := sizeLine_eq
  refine callType_new called_map (by decide) (typeCall_map_2 _ _) (newCall_map_2 _ _) (fun obj => PySem.F.args_object_init_3 obj _ _) entry_map_new (meets_map_new "str.strip" l _ n) ⟨hol, ?_⟩
  have z1 : (s.heap.push { cls := .type "list_iterator", data := .fields #[.ref l, .int 0 0] }).objs.size = s.heap.objs.size + 1 := Heap.size_push ..
  have z2 : ((s.heap.push { cls := .type "list_iterator", data := .fields #[.ref l, .int 0 0] }).push { cls := .type "tuple", data := .seq #[.ref s.heap.objs.size] }).objs.size = s.heap.objs.size + 2 := by rw [Heap.size_push, z1]
  have g3 := Heap.get?_push_size ((s.heap.push { cls := .type "list_iterator", data := .fields #[.ref l, .int 0 0] }).push { cls := .type "tuple", data := .seq #[.ref s.heap.objs.size] }) (o := { cls := .type "map", data := .fields #[.ref (s.heap.objs.size + 1), .builtin "str.strip"] }) rfl
  rw [z2] at g3
  have g2 := Heap.get?_push_of_some { cls := .type "map", data := .fields #[.ref (s.heap.objs.size + 1), .builtin "str.strip"] } (Heap.get?_push_size (s.heap.push { cls := .type "list_iterator", data := .fields #[.ref l, .int 0 0] }) (o := { cls := .type "tuple", data := .seq #[.ref s.heap.objs.size] }) rfl)
  rw [z1] at g2
  have kp : ∀ b o, s.heap.get? b = some o → (((s.heap.push { cls := .type "list_iterator", data := .fields #[.ref l, .int 0 0] }).push { cls := .type "tuple", data := .seq #[.ref s.heap.objs.size] }).push { cls := .type "map", data := .fields #[.ref (s.heap.objs.size + 1), .builtin "str.strip"] }).get? b = some o :=
    fun b o e => Heap.get?_push_of_some _ (Heap.get?_push_of_some _ (Heap.get?_push_of_some _ e))
  have g1 := Heap.get?_push_of_some { cls := .type "map", data := .fields #[.ref (s.heap.objs.size + 1), .builtin "str.strip"] } (Heap.get?_push_of_some { cls := .type "tuple", data := .seq #[.ref s.heap.objs.size] } (Heap.get?_push_size s.heap (o := { cls := .type "list_iterator", data := .fields #[.ref l, .int 0 0] }) rfl))
  have hlt : l < s.heap.objs.size := Heap.lt_size hol
  refine ⟨⟨_, g3, rfl⟩, ?_⟩
  unfold StarOf notIterableAtAll
  have hT : Shared.TypeIs { s with heap := ((s.heap.push { cls := .type "list_iterator", data := .fields #[.ref l, .int 0 0] }).push { cls := .type "tuple", data := .seq #[.ref s.heap.objs.size] }).push { cls := .type "map", data := .fields #[.ref (s.heap.objs.size + 1), .builtin "str.strip"] } } (.ref (s.heap.objs.size + 2)) "map" := ⟨_, g3, rfl⟩
  refine wpAny_bind (wpAny_specialOf hT slot_map_iter.lookup (wpAny_pure ⟨rfl, ?_⟩))
  refine collect_map (T := s.heap.objs.size + 1) (I := s.heap.objs.size) (l := l) (items := #[Value.str a t1, Value.str b t2]) hh ?_ (Nat.ne_of_gt (Nat.lt_add_of_pos_right (by decide))) (Nat.ne_of_gt (Nat.lt_add_of_pos_right (by decide))) (Nat.ne_of_lt hlt) (by show 2 ≤ _; (first | lia | omega))
    ⟨g3, g2, ⟨_, g1, rfl, rfl⟩, ⟨_, kp _ _ hol, rfl, n, rfl⟩⟩ fun s' acc hm hacc => ?_
  · intro v hv
    simp only [List.mem_cons, List.not_mem_nil, or_false] at hv
    rcases hv with rfl | rfl
    · exact ⟨a, t1, rfl, by (first | lia | omega)⟩
    · exact ⟨b, t2, rfl, by (first | lia | omega)⟩
  · obtain ⟨hsz, hit⟩ := hacc
    have hsz' : acc.size = 2 := hsz
    obtain ⟨x0, u0, t0, e0, q0⟩ := hit 0 acc[0] (by simp [hsz'])
    obtain ⟨x1, u1, t1', e1, q1⟩ := hit 1 acc[1] (by simp [hsz'])
    have hacc : acc.toList = [.str (Txt.strip a) t0, .str (Txt.strip b) t1'] := by
      have e0' : x0 = a := by have := Option.some.inj e0; injection this with h1 h2; exact h1.symm
      have e1' : x1 = b := by have := Option.some.inj e1; injection this with h1 h2; exact h1.symm
      subst e0' e1'
      apply List.ext_getElem
      · simpa using hsz'
      · intro i h1 h2
        have h2' : i < 2 := by simpa using h2
        match i, h2' with
        | 0, _ => simpa using q0
        | 1, _ => simpa using q1
    rw [hacc]
    have kk : ∀ b o, s.heap.get? b = some o → s'.heap.get? b = some o := fun b o e => hm.heap b o (fun q => by
      rw [List.mem_singleton.mp q] at e
      exact absurd (Heap.lt_size e) (Nat.lt_irrefl _)) (kp b o e)
    have e : s' = { s with heap := s'.heap, toks := s'.toks } := by
      obtain ⟨hh', g, d, tk, os⟩ := s'
      have a1 := hm.gens; have a2 := hm.drawn; have a3 := hm.os
      dsimp only at a1 a2 a3
      subst a1 a2 a3
      rfl
    rw [e]
    exact h _ _ _ _ (F.kept kk) (N.grown kk)
end

end
end Mine

namespace Mine
section
open PySem PySem.Calls PySem.W PyProof.Rows
local macro_rules | `(tactic| walk_at "getMethod") => `(tactic| (k_here; refine hold ?_))

theorem peek_madeBy (P : Params) (S : Setting) : peek (hd.heap_39 P) S (Bind.madeBy (.ref 169)) = some none := by kernel_rfl
theorem peek_isType (P : Params) (S : Setting) : peek (hd.heap_39 P) S (isType (.ref 169)) = some true := by kernel_rfl
theorem peek_sub (P : Params) (S : Setting) : peek (hd.heap_39 P) S (isSubtype (.ref 169) (.type "tuple")) = some true := by kernel_rfl
theorem peek_sub2 (P : Params) (S : Setting) : peek (hd.heap_39 P) S (isSubtype (.ref 169) (.ref 169)) = some true := by kernel_rfl
theorem peek_mro (P : Params) (S : Setting) : peek (hd.heap_39 P) S (mroOf (.ref 169)) = some [.ref 169, .ref 146, .type "tuple", .type "object"] := by kernel_rfl
theorem peek_del (P : Params) (S : Setting) : peek (hd.heap_39 P) S (classHasDel 169) = some false := by kernel_rfl
set_option maxHeartbeats 4000000 in
theorem peek_madeHere (P : Params) (S : Setting) : peek (hd.heap_39 P) S (Bind.madeHere "tuple.__new__" (.ref 169)) = some () := by kernel_rfl
theorem find_init (P : Params) : findIn (hd.heap_39 P) (.ref 169) (Str.ofString "__init__") = some (some (.builtin "object.__init__")) := by kernel_rfl
theorem newTuple_check (P : Params) (S : Setting) (T : Addr) : peek (hd.heap_39 P) S (checkBuiltinCall "tuple.__new__" ⟨[.ref 169, .ref T], []⟩) = some () := by kernel_rfl

abbrev pairObj (d : Addr) (a b : Value) : Obj := { cls := .ref 169, dict := some d, data := .seq #[a, b] 0 }

theorem newObj_pair (c a b : Value) (D : Addr) : newObj c (.seq [a, b].toArray) (some D) = newObjAsIs c (.seq #[a, b] 0) (some D) := by
  unfold newObj
  dsimp only
  rw [if_neg (by rw [sizeLine_eq]; show ¬ (2 > 16777216); decide)]
section
variable {prog : Program} {w : World} {A : Around} {E : Value → Shared → Prop} {s : Shared} {h₀ : Heap} {L T : Addr} {m : Str → Option Value} {news : List (Addr × Obj)}
theorem tuple_new {a b : Value} {n : Nat} {Q : Value → Shared → Prop} (F : Fr h₀ L s.heap m) (X₀ : (hd.heap_39 w.params).In h₀) (N : News h₀ L s.heap news) (hT : (T, ({ cls := .type "tuple", data := .seq #[a, b] n } : Obj)) ∈ news)
    (h : ∀ p d h', Fr h₀ L h' m → News h₀ L h' ((p, pairObj d a b) :: (d, emptyDict) :: news) → Q (.ref p) { s with heap := h' }) :
    wpAny (model prog w) A (call (.builtin "tuple.__new__") [.ref 169, .ref T]) Q E s := by
  have X := X₀.keeps F.keep
  have hoT := (N _ hT).1
  have hS := sizeLine_eq
  refine wpAny_call (codeAny_call_builtin PySem.F.plain_tuple_new PySem.F.entry_tuple_new ((Looks.of_peek (M := model prog w) X (newTuple_check w.params ⟨prog, w.params⟩ T)).here ?_))
  obtain ⟨hh, g, d, tk, os⟩ := s
  have L1 := Looks.of_peek (M := model prog w) X (peek_isType w.params ⟨prog, w.params⟩)
  have L2 := Looks.of_peek (M := model prog w) X (peek_sub w.params ⟨prog, w.params⟩)
  have L3 := Looks.of_peek (M := model prog w) X (peek_madeHere w.params ⟨prog, w.params⟩)
  have L4 : Looks (model prog w) hh (typeLookup (.ref 169) (Str.ofString "__init__")) _ := looks_findIn X (find_init w.params)
  unfold Builtin.«tuple.__new__»
  dsimp only
  refine wpAny_bind (L1.at ?_)
  simp only [Bool.not_true, Bool.false_eq_true, if_false]
  refine wpAny_bind (L2.at ?_)
  simp only [Bool.not_true, Bool.false_eq_true, if_false]
  refine wpAny_bind (L3.at ?_)
  refine wpAny_bind (L4.at ?_)
  rw [if_pos (by decide)]
  refine wpAny_bind (m := noKeywords _ _) (wpAny_pure ?_)
  refine wpAny_bind (m := checkCount _ _ _ _) (wpAny_pure ?_)
  rw [if_neg (by decide)]
  refine wpAny_bind (wpAny_collect_seq T (.inr rfl) hoT rfl rfl (fun h1 k1 => ?_) (by show 2 ≤ _; (first | lia | omega)))
  refine wpAny_bind (wpAny_pure ?_)
  have F1 := F.kept k1
  have N1 := N.grown k1
  refine wpAny_bind (wpAny_alloc ?_)
  have F2 := F1.push emptyDict
  have N2 := N1.push F1 emptyDict
  have X2 : (hd.heap_39 w.params).In (h1.push emptyDict) := X₀.keeps F2.keep
  show wpAny _ _ (newObj (.ref 169) (.seq [a, b].toArray) (some h1.objs.size) >>= fun v => ret v) _ _ _
  rw [newObj_pair]
  unfold newObjAsIs
  refine wpAny_bind (wpAny_bind (wpAny_alloc ?_))
  have F3 := F2.push (pairObj h1.objs.size a b)
  have N3 := N2.push F2 (pairObj h1.objs.size a b)
  have X3 : (hd.heap_39 w.params).In ((h1.push emptyDict).push (pairObj h1.objs.size a b)) := X₀.keeps F3.keep
  dsimp only
  refine wpAny_bind ((Looks.of_peek (M := model prog w) X3 (peek_del w.params ⟨prog, w.params⟩)).at ?_)
  rw [if_neg (by decide)]
  refine wpAny_pure ?_
  refine wpAny_pure ?_
  exact h _ _ _ F3 N3
end
set_option pp.deepTerms false
set_option pp.deepTerms.threshold 6
set_option pp.maxSteps 6000
set_option maxHeartbeats 8000000 in
theorem con_new (w : World) (a b : Value) :
    Con Challenge.rw_il0129_01.row.prog w (hd.heap_39 w.params) 96 2 [.ref 169, a, b] (fun _ => True)
      (fun g r h' => ∃ p d, r = .ref p ∧ New g h' [(p, pairObj d a b), (d, emptyDict)]) := by
    (k_fill; k_dflt (refine' con_enter ?k6 ?k7 ?k9 ?kB ?c5 ?c2 ?c3 ?c4 ?cl ?_; (case k6 => k_is); (case k7 => k_is); (case k9 => first | exact fun _ _ => BindsTo.of_eq rfl | exact fun _ X => binds_K X rfl (by k_is) rfl rfl rfl); (case c5 => decide); (case kB => exact locs rfl); (case c2 => exact rfl); (case c3 => exact rfl); (case c4 => exact rfl); (case cl => decide); k_whole))
    intro dp un gd outer A₀ base mean mg mb s L' h₁ tk B X T hd hu hp F N
    k_steps
    refine ⟨?_⟩
    (k_here; k_dflt (refine' method_type ?F ?X ?t ?s ?e ?h ?_; (case F => k_asm); (case X => k_asm); (case t => exact kitMeta_of (by decide +kernel)); (case s => decide +kernel); (case e => k_is); (case h => rfl); k_whole))
    k_steps
    refine tuple_new (by assumption) (by assumption) (by assumption) (.head _) fun p d h' F' N' => ?_
    exact ConEnd.intro F' ⟨p, d, rfl, fun q hq => new_of N' q (by
      rcases List.mem_cons.mp hq with rfl | hq
      · exact .head _
      · exact .tail _ (by rw [List.mem_singleton.mp hq]; exact .head _))⟩

theorem look169 (P : Params) : ∃ oc od cd sl, (hd.heap_39 P).lookup 169 = some ⟨oc, od, .cls cd, sl⟩ := by with_unfolding_all exact ⟨_, _, _, _, rfl⟩
theorem special_call (P : Params) : specialIn (hd.heap_39 P) (.ref 169) (Str.ofString "__call__") = some (some (.builtin "type.__call__")) := by kernel_rfl
theorem inst_type (P : Params) : instIn (hd.heap_39 P) (.ref 169) (.type "type") = some true := by kernel_rfl
theorem reads_169 (P : Params) : readsIn (hd.heap_39 P) 169 (.type "type") = true := by kernel_rfl
theorem cls_new (P : Params) : findCls (hd.heap_39 P) (.ref 169) (.type "type") (Str.ofString "__new__") = some (.get (.builtin "staticmethod.__get__") (.ref 147) .none (.ref 169)) := by kernel_rfl
theorem rec_147 (P : Params) : recIn (hd.heap_39 P) 147 "staticmethod" = some [.ref 96] := by kernel_rfl

end
end Mine

namespace Mine
section
open PySem PySem.Calls PySem.W PyProof.Rows Builtin Builtin.ObjectAttr Builtin.Getset_descriptor
theorem oi_args3 (a b c : Value) : argsOk "object.__init__" ⟨[a, b, c], []⟩ := PySem.F.args_object_init_3 a b c
theorem sub_object (P : Params) (S : Setting) : peek (hd.heap_39 P) S (isSubtype (.ref 169) (.type "object")) = some true := by kernel_rfl

set_option pp.deepTerms false
set_option pp.deepTerms.threshold 6
set_option pp.maxSteps 6000
set_option maxHeartbeats 8000000 in
theorem con_pair (w : World) (a b : Value) :
    Con Challenge.rw_il0129_01.row.prog w (hd.heap_39 w.params) 169 3 [a, b] (fun _ => True)
      (fun g r h' => ∃ p d, r = .ref p ∧ New g h' [(p, pairObj d a b), (d, emptyDict)]) := by
  intro dp un gd cn cs fa ccd cl outer A₀ base h₀ L m mean mg mb s Q E B F X₀ T hk hd hu hp ret
  have X := X₀.keeps F.keep
  obtain ⟨oc, od, cd, sl, hC⟩ := look169 w.params
  have hC' := X _ _ hC
  refine codeAny_of_tree ?_
  obtain ⟨hh, g, d, tk, os⟩ := s
  show wpAny _ _ (callAny (.ref 169) _) _ _ _
  refine nd_load hC' ?_
  show wpAny _ _ (callAny.viaDunder (.ref 169) _) _ _ _
  unfold callAny.viaDunder
  have Lc := looks_specialIn (M := model Challenge.rw_il0129_01.row.prog w) X (special_call w.params)
  refine wpAny_bind (Lc.at ?_)
  dsimp only
  rw [tc_bind]
  refine wpAny_bind (wpAny_pure (wpAny_bind (wpAny_pure ?_)))
  refine wpAny_pure (a := PySem.Fin.again (.call (.builtin "type.__call__") ⟨.ref 169 :: [a, b], []⟩)) (And.intro rfl ?_)
  have typ := looks_instIn (M := model Challenge.rw_il0129_01.row.prog w) X (inst_type w.params)
  refine codeAny_call_builtin_at (Code.quiet_builtin _ (by decide +kernel)) entry_typeCall (check_slot tc_kind tc_split typ (tc_args _ _ _) ?_)
  unfold Builtin.«type.__call__»
  have L1 := Looks.of_peek (M := model Challenge.rw_il0129_01.row.prog w) X (peek_mro w.params ⟨Challenge.rw_il0129_01.row.prog, w.params⟩)
  have L2 := Looks.of_peek (M := model Challenge.rw_il0129_01.row.prog w) X (peek_madeBy w.params ⟨Challenge.rw_il0129_01.row.prog, w.params⟩)
  dsimp only
  rw [if_neg (by decide)]
  refine wpAny_bind (L1.at ?_)
  rw [if_neg (by decide)]
  refine wpAny_bind (L2.at ?_)
  dsimp only
  refine wpAny_bind ?_
  have eA : (ktrTop dp un gd cn cs L fa ccd cl outer).under (Code.builtin "type.__call__" { pos := [Value.ref 169, a, b] }) = ktrTop (dp + 1) (un + 1) gd cn cs L fa ccd cl outer := rfl
  rw [eA]
  refine cls_sm (s := ⟨hh, g, d, tk, os⟩) F X₀ (mc := .type "type") (by kernel_rfl) (reads_169 w.params) (cls_new w.params) (rec_147 w.params) rfl ?_
  refine wpAny_bind (wpAny_holding ?_)
  have F1 : Fr h₀ L (Shared.heap ⟨hh, g, d, tk + 1, os⟩) m := F
  refine (con_new w a b).use (s := ⟨hh, g, d, tk + 1, os⟩) B F1 X₀ News.nil T hk (by (first | lia | omega)) (by (first | lia | omega)) trivial fun v h' tk' F' _ K' post => ?_
  obtain ⟨p, dx, rfl, W⟩ := post
  have hp' := (W _ (.head _)).1
  have X' : (Mine.hd.heap_39 w.params).In h' := X₀.keeps F'.keep
  have t1 : Looks (model Challenge.rw_il0129_01.row.prog w) h' (typeOf (.ref p)) (.ref 169) := (Looks.ld hp').andThen .now
  have s1 := Looks.of_peek (M := model Challenge.rw_il0129_01.row.prog w) X' (peek_sub2 w.params ⟨Challenge.rw_il0129_01.row.prog, w.params⟩)
  have i1 : Looks (model Challenge.rw_il0129_01.row.prog w) h' (typeLookup (.ref 169) (Str.ofString "__init__")) _ := looks_findIn X' (find_init w.params)
  have m1 := Looks.of_peek (M := model Challenge.rw_il0129_01.row.prog w) X' (peek_madeBy w.params ⟨Challenge.rw_il0129_01.row.prog, w.params⟩)
  have o1 := Looks.of_peek (M := model Challenge.rw_il0129_01.row.prog w) X' (sub_object w.params ⟨Challenge.rw_il0129_01.row.prog, w.params⟩)
  have t2 : Looks (model Challenge.rw_il0129_01.row.prog w) h' (isInstance (.ref p) (.ref 169)) true := t1.andThen s1
  have t3 : Looks (model Challenge.rw_il0129_01.row.prog w) h' (isInstance (.ref p) (.type "object")) true := t1.andThen o1
  refine wpAny_bind (t2.at ?_)
  rw [if_neg (by decide)]
  refine wpAny_bind (wpAny_holding ?_)
  unfold callSpecial? specialOf
  refine wpAny_bind (wpAny_bind (t1.at (i1.at ?_)))
  dsimp only
  refine wpAny_holding ?_
  rw [oi_bind]
  refine wpAny_bind (wpAny_pure (wpAny_bind ?_))
  refine wpAny_call ?_
  refine codeAny_call_builtin oi_plain entry_oi (@check_slot (model Challenge.rw_il0129_01.row.prog w) _ _ _ "object.__init__" "object" "__init__" (.ref p) [a, b] [] _ oi_kind oi_split t3 (oi_args3 (.ref p) a b) ?_)
  unfold Builtin.«object.__init__»
  show wpAny _ _ (if (!([a, b] : List Value).isEmpty || !([] : List (Str × Value)).isEmpty) = true then _ else _) _ _ _
  rw [if_pos (show (!([a, b] : List Value).isEmpty || !([] : List (Str × Value)).isEmpty) = true from rfl)]
  refine wpAny_bind (t1.at (wpAny_bind (i1.at (wpAny_bind (m1.at ?_)))))
  show wpAny _ _ (PySem.ret .none) _ _ _
  refine wpAny_pure ?_
  refine wpAny_pure ?_
  dsimp only
  rw [if_neg (by decide)]
  refine wpAny_pure ?_
  exact ret _ h' tk' K' ⟨p, dx, rfl, W⟩

end
end Mine

namespace Mine
section
open PySem PySem.Calls PySem.W PyProof.Rows Builtin Builtin.ObjectAttr Builtin.Getset_descriptor
local macro_rules | `(tactic| walk_at "zz") => `(tactic| fail)
local macro_rules | `(tactic| walk_at "getMethod") => `(tactic| (k_here; refine hold ?_))
theorem peek_issub (P : Params) (S : Setting) : peek (hd.heap_39 P) S (Builtin.«issubclass.nested» ⟨[.ref 169, .type "tuple", rawInt 0], []⟩) = some (.done (.ret (.bool true))) := by kernel_rfl
section
variable {prog : Program} {w : World} {A : Around} {E : Value → Shared → Prop} {s : Shared} {h₀ : Heap} {L p d : Addr} {m : Str → Option Value} {a b : Value}
theorem type_pair {Q : Value → Shared → Prop} (hp : s.heap.get? p = some (pairObj d a b)) (h : Q (.ref 169) s) : wpAny (model prog w) A (call (.type "type") [.ref p]) Q E s := by
  obtain ⟨hh, g, dr, t, os⟩ := s
  exact call_type_obj hp rfl h
theorem call_fn {id : String} {B : Builtin} {args : List Value} {Q : Value → Shared → Prop} (kind : builtinKind id = none) (plain : plainId id = true) (entry : entryFor table id = some B) (ok : argsOk id ⟨args, []⟩)
    (h : wpAny (model prog w) A.in1 (B ⟨args, []⟩) (fun fin s' => match fin with | .done f => wants Q E (.ok f) s' | .again c' => c'.quiet = true ∧ codeAny (model prog w) A c' (wants Q E) s') (fun e s' => wants Q E (.error e) s') s) :
    wpAny (model prog w) A (call (.builtin id) args) Q E s := by
  refine wpAny_call (codeAny_call_builtin plain entry ?_)
  simp only [checkBuiltinCall, kind]
  cases hsig : Manifest.signature? id with
  | none => exact wpAny_pure h
  | some sig =>
    simp only [argsOk, hsig] at ok
    have h2 : Bind.checkArgs id sig ⟨args, []⟩ = pure () := ok
    show wpAny _ _ (Bind.checkArgs id sig ⟨args, []⟩) _ _ s
    rw [h2]
    exact wpAny_pure h
theorem issub_pair {Q : Value → Shared → Prop} (X : (hd.heap_39 w.params).In s.heap) (h : Q (.bool true) s) : wpAny (model prog w) A (call (.builtin "issubclass") [.ref 169, .type "tuple"]) Q E s := by
  refine call_fn PySem.F.kind_issubclass PySem.F.plain_issubclass PySem.F.entry_issubclass (PySem.F.args_issubclass_2 _ _) ?_
  refine issubclass_outer ?_
  refine (Looks.of_peek (M := model prog w) X (peek_issub w.params ⟨prog, w.params⟩)).here ?_
  exact h
theorem getitem_pair {i : Int} {tk : Tok} {v : Value} {Q : Value → Shared → Prop} (X : (hd.heap_39 w.params).In s.heap) (hp : s.heap.get? p = some (pairObj d a b)) (hi : (i = 0 ∧ v = a) ∨ (i = 1 ∧ v = b)) (h : Q v s) :
    wpAny (model prog w) A (call (.builtin "tuple.__getitem__") [.ref p, .int i tk]) Q E s := by
  obtain ⟨hh, g, dr, t, os⟩ := s
  have t1 : Looks (model prog w) hh (typeOf (.ref p)) (.ref 169) := (Looks.ld hp).andThen .now
  have s1 := Looks.of_peek (M := model prog w) X (peek_sub w.params ⟨prog, w.params⟩)
  have t3 : Looks (model prog w) hh (isInstance (.ref p) (.type "tuple")) true := t1.andThen s1
  refine wpAny_call (codeAny_call_builtin PySem.F.slot_tuple_getitem.plain PySem.F.entry_tuple_getitem (@check_slot (model prog w) _ _ _ "tuple.__getitem__" "tuple" "__getitem__" (.ref p) [.int i tk] [] _ (by decide +kernel) (by decide +kernel) t3 (PySem.F.args_tuple_getitem_2 _ _) ?_))
  unfold Builtin.«tuple.__getitem__»
  dsimp only at hp
  rcases hi with ⟨rfl, rfl⟩ | ⟨rfl, rfl⟩
  · repeat lk
    exact h
  · repeat lk
    exact h
end
set_option pp.deepTerms false
set_option pp.deepTerms.threshold 6
set_option pp.maxSteps 6000
set_option maxHeartbeats 8000000 in
theorem con_get0 (w : World) (a b : Value) (p d : Addr) :
    Con Challenge.rw_il0129_01.row.prog w (hd.heap_39 w.params) 57 2 [.ref 138, .ref p, .ref 169] (fun h => h.get? p = some (pairObj d a b))
      (fun g r h' => r = a) := by
    (k_fill; k_dflt (refine' con_enter ?k6 ?k7 ?k9 ?kB ?c5 ?c2 ?c3 ?c4 ?cl ?_; (case k6 => k_is); (case k7 => k_is); (case k9 => first | exact fun _ _ => BindsTo.of_eq rfl | exact fun _ X => binds_K X rfl (by k_is) rfl rfl rfl); (case c5 => decide); (case kB => exact locs rfl); (case c2 => exact rfl); (case c3 => exact rfl); (case c4 => exact rfl); (case cl => decide); k_whole))
    intro dp un gd outer A₀ base mean mg mb s L' h₁ tk B X T hd hu hp F N
    k_steps
    refine type_pair (Fr.keep (by assumption) _ _ hp) ?_
    k_steps
    refine issub_pair (by k_in) ?_
    k_steps
    refine ⟨?_⟩
    (k_here; k_dflt (refine' method_type ?F ?X ?t ?s ?e ?h ?_; (case F => k_asm); (case X => k_asm); (case t => exact kitMeta_of (by decide +kernel)); (case s => decide +kernel); (case e => k_is); (case h => rfl); k_whole))
    k_steps
    refine getitem_pair (by k_in) (Fr.keep (by assumption) _ _ hp) (.inl ⟨rfl, rfl⟩) ?_
    exact ConEnd.intro (by assumption) rfl
set_option maxHeartbeats 8000000 in
theorem con_get1 (w : World) (a b : Value) (p d : Addr) :
    Con Challenge.rw_il0129_01.row.prog w (hd.heap_39 w.params) 57 2 [.ref 141, .ref p, .ref 169] (fun h => h.get? p = some (pairObj d a b))
      (fun g r h' => r = b) := by
    (k_fill; k_dflt (refine' con_enter ?k6 ?k7 ?k9 ?kB ?c5 ?c2 ?c3 ?c4 ?cl ?_; (case k6 => k_is); (case k7 => k_is); (case k9 => first | exact fun _ _ => BindsTo.of_eq rfl | exact fun _ X => binds_K X rfl (by k_is) rfl rfl rfl); (case c5 => decide); (case kB => exact locs rfl); (case c2 => exact rfl); (case c3 => exact rfl); (case c4 => exact rfl); (case cl => decide); k_whole))
    intro dp un gd outer A₀ base mean mg mb s L' h₁ tk B X T hd hu hp F N
    k_steps
    refine type_pair (Fr.keep (by assumption) _ _ hp) ?_
    k_steps
    refine issub_pair (by k_in) ?_
    k_steps
    refine ⟨?_⟩
    (k_here; k_dflt (refine' method_type ?F ?X ?t ?s ?e ?h ?_; (case F => k_asm); (case X => k_asm); (case t => exact kitMeta_of (by decide +kernel)); (case s => decide +kernel); (case e => k_is); (case h => rfl); k_whole))
    k_steps
    refine getitem_pair (by k_in) (Fr.keep (by assumption) _ _ hp) (.inr ⟨rfl, rfl⟩) ?_
    exact ConEnd.intro (by assumption) rfl

end
end Mine

namespace Mine
section
open PySem PySem.Calls PySem.W PyProof.Rows Builtin Builtin.ObjectAttr Builtin.Getset_descriptor
theorem ga_169 (P : Params) : findIn (hd.heap_39 P) (.ref 169) (Str.ofString "__getattribute__") = some (some (.builtin "tuple.__getattribute__")) := by kernel_rfl
theorem gh_169 (P : Params) : findIn (hd.heap_39 P) (.ref 169) (Str.ofString "__getattr__") = some none := by kernel_rfl
theorem found_name (P : Params) : findObj (hd.heap_39 P) 169 (some emptyDict) (Str.ofString "name") = some (.bind (.ref 57) (.ref 138)) := by kernel_rfl
theorem found_value (P : Params) : findObj (hd.heap_39 P) 169 (some emptyDict) (Str.ofString "value") = some (.bind (.ref 57) (.ref 141)) := by kernel_rfl
set_option pp.deepTerms false
set_option pp.deepTerms.threshold 6
set_option pp.maxSteps 6000
set_option maxHeartbeats 8000000 in
theorem attr_pair {prog : Program} {w : World} {ad : Addr} {name : Str} {a b v : Value} {p d : Addr} (C : Con prog w (hd.heap_39 w.params) 57 2 [.ref ad, .ref p, .ref 169] (fun h => h.get? p = some (pairObj d a b)) (fun _ r _ => r = v))
    (hf : findObj (hd.heap_39 w.params) 169 (some emptyDict) name = some (.bind (.ref 57) (.ref ad))) (hv : handedIn v = true) {expr : Bool}
    {dp un : Nat} {gd : Option (List Code)} {cn : Str} {cs : Scope} {fa : Addr} {ccd : Value} {cl : List (Str × Addr)} {outer : List Env} {A₀ : Around} {base h₀ : Heap} {L : Addr} {m : Str → Option Value} {mean : ExcName → Option Value} {mg mb : Str → Option Value} {s : Shared} {Q E : Value → Shared → Prop} {news : List (Addr × Obj)}
    (B : Below A₀ base outer h₀) (F : Fr h₀ L s.heap m) (X₀ : (hd.heap_39 w.params).In h₀) (N : News h₀ L s.heap news) (T : Top hd.view_39 (looseW hd.view_39 [Str.ofString "_tuplegetter", Str.ofString "Pair"]) mean mg mb h₀) (hk : cs.kind = .function)
    (hd : dp + 8 * 3 < recursionLimit) (hu : un + 64 * 3 < cLine) (hp : (p, pairObj d a b) ∈ news) (hdx : (d, emptyDict) ∈ news)
    (ret : ∀ h' tk', Fr h₀ L h' m → News h₀ L h' news → Q v { s with heap := h', toks := tk' }) :
    wpAny (model prog w) (ktrTop dp un gd cn cs L fa ccd cl outer) (getAttr (.ref p) name expr) Q E s := by
  have X := X₀.keeps F.keep
  have hp' := (N _ hp).1
  have hd' := (N _ hdx).1
  obtain ⟨hh, g, dr, t, os⟩ := s
  have I : InstAt hh p (pairObj d a b) 169 (some emptyDict) := ⟨hp', rfl, rfl, hd'⟩
  have t1 := I.type (M := model prog w)
  have L1 := looks_findIn (M := model prog w) X (ga_169 w.params)
  have L2 := looks_findIn (M := model prog w) X (gh_169 w.params)
  have L3 := looks_find (M := model prog w) X I hf
  have s1 := Looks.of_peek (M := model prog w) X (peek_sub w.params ⟨prog, w.params⟩)
  have t3 : Looks (model prog w) hh (isInstance (.ref p) (.type "tuple")) true := t1.andThen s1
  unfold getAttr getAttrBy
  refine wpAny_bind (wpAny_mkText (wpAny_holding (wpAny_bind (t1.at (wpAny_bind (L1.at ?_))))))
  dsimp only
  rw [if_neg (by decide)]
  unfold getAttrByItsOwn hookBefore
  rw [if_pos (by decide)]
  refine wpAny_bind (L2.at (wpAny_bind (wpAny_attempt (wpAny_holding ?_))))
  unfold callGetattribute
  rw [show (expr && onTheHeap (Value.builtin "tuple.__getattribute__")) = false from Bool.and_false _, if_neg (by decide)]
  unfold boundAndCalled
  rw [PySem.F.slot_tuple_getattribute.bind]
  refine wpAny_bind (wpAny_pure ?_)
  show wpAny _ _ (call (.builtin "tuple.__getattribute__") [.ref p, .str name t]) _ _ _
  refine wpAny_call (codeAny_call_builtin PySem.F.slot_tuple_getattribute.plain PySem.F.entry_tuple_ga (@check_slot (model prog w) _ _ ⟨hh, g, dr, t + 1, os⟩ "tuple.__getattribute__" "tuple" "__getattribute__" (.ref p) [.str name t] [] _ (by decide +kernel) (by decide +kernel) t3 (PySem.F.args_tuple_getattribute_2 _ _) ?_))
  unfold Builtin.«object.__getattribute__»
  refine wpAny_bind (wpAny_pure (wpAny_bind (wpAny_pure (wpAny_bind (t1.at (wpAny_bind (L3.at ?_)))))))
  show wpAny _ _ (holding [.ref ad] (call (.ref 57) [.ref ad, .ref p, .ref 169]) >>= PySem.ret) _ _ _
  refine wpAny_bind (wpAny_holding ?_)
  have F1 : Fr h₀ L (Shared.heap ⟨hh, g, dr, t + 1, os⟩) m := F
  refine C.use (un := un + 1) (s := ⟨hh, g, dr, t + 1, os⟩) B F1 X₀ (show News h₀ L hh news from N) T hk (by show dp + 8 * 2 < _; (first | lia | omega)) (by show un + 1 + 64 * 2 < _; (first | lia | omega)) hp' fun v' h' tk' F' N' _ post => ?_
  subst post
  refine wpAny_pure ?_
  show wpAny _ _ (handedOut v') _ _ _
  rw [handedOut_of hv]
  exact wpAny_pure (ret h' tk' F' N')

end
end Mine

namespace Mine
section
open PySem PySem.Calls PySem.W PyProof.Rows
local macro_rules | `(tactic| walk_at "zz") => `(tactic| fail)
local macro_rules | `(tactic| walk_at "getAttr") => `(tactic| (k_here; refine hold ?_))
local macro_rules | `(tactic| walk_at "call builtin:str.split") => `(tactic| (k_here; refine hold ?_))
set_option pp.deepTerms false
set_option pp.deepTerms.threshold 6
set_option pp.maxSteps 6000
set_option maxHeartbeats 8000000 in
theorem con_parse (w : World) (x l r : Str) (t1 : Tok) :
    Con Challenge.rw_il0129_01.row.prog w (hd.heap_39 w.params) 163 5 [.ref 169, .str x t1] (fun _ => x = l ++ Str.ofString "=" ++ r ∧ 61 ∉ l.cps.toList ∧ x.length ≤ 1000)
      (fun g v h' => ∃ p d u1 u2, v = .ref p ∧ New g h' [(p, pairObj d (.str (Txt.strip l) u1) (.str (Txt.strip r) u2)), (d, emptyDict)]) := by
  (k_fill; k_dflt (refine' con_enter ?k6 ?k7 ?k9 ?kB ?c5 ?c2 ?c3 ?c4 ?cl ?_; (case k6 => k_is); (case k7 => k_is); (case k9 => first | exact fun _ _ => BindsTo.of_eq rfl | exact fun _ X => binds_K X rfl (by k_is) rfl rfl rfl); (case c5 => decide); (case kB => exact locs rfl); (case c2 => exact rfl); (case c3 => exact rfl); (case c4 => exact rfl); (case cl => decide); k_whole))
  intro dp un gd outer A₀ base mean mg mb s L' h₁ tk B X T hd hu hp F N
  obtain ⟨hx, hl, hz⟩ := hp
  have e61 : (Str.ofString "=").length = 1 := by decide +kernel
  have hlen : x.length = l.length + 1 + r.length := by rw [hx, Str.length_append, Str.length_append, e61]
  k_steps
  refine ⟨?_⟩
  (k_here; k_dflt (refine' attr_type ?F ?X ?t ?s ?e ?h ?_; (case F => k_asm); (case X => k_asm); (case t => decide +kernel); (case s => decide +kernel); (case e => k_is); (case h => rfl); k_whole))
  k_steps
  refine ⟨?_⟩
  refine split_once (by k_asm) (by k_asm) hx hl hz ?_
  intro D u1 u2 h2 k2 F2 N2 l2
  k_steps
  refine star_map_strip rfl F2 N2 (.head _) (by (first | lia | omega)) (by (first | lia | omega)) ?_
  intro u3 u4 h3 k3 F3 N3
  refine ⟨X.keeps F3.keep, ?_⟩
  refine (con_pair w _ _).use B F3 X N3 T rfl (by (first | lia | omega)) (by (first | lia | omega)) trivial ?_
  intro v h4 k4 F4 N4 K4 post
  obtain ⟨p, d, rfl, W⟩ := post
  have N5 := W.news F3 N4
  exact ConEnd.intro F4 ⟨p, d, u3, u4, rfl, fun q hq => new_of N5 q (List.mem_append.mpr (.inl hq))⟩

end
end Mine

namespace Mine
section
open PySem PySem.Calls PySem.W PyProof.Rows
local macro_rules | `(tactic| walk_at "zz") => `(tactic| fail)
theorem strsAre_get : ∀ {us : List Value} {ss : List Str} {k : Nat}, StrsAre us ss → k < ss.length → ∃ x t, ss[k]? = some x ∧ us[k]? = some (.str x t)
  | _, _, 0, .cons y t _, _ => ⟨y, t, rfl, rfl⟩
  | _, _, k + 1, .cons _ _ h, hk => strsAre_get (k := k) h (Nat.lt_of_succ_lt_succ hk)
theorem strsAre_dat : ∀ {us : List Value} {ss : List Str} {L : List (Addr × Obj)}, DatAll L us (ss.map Dat.str) → StrsAre us ss
  | [], [], _, _ => .nil
  | _ :: _, [], _, h => by cases h
  | [], _ :: _, _, h => by cases h
  | _ :: us, s :: ss, _, h => by
    cases h with
    | cons h r =>
      cases h with
      | str x t => exact .cons _ _ (strsAre_dat r)
section
variable {prog : Program} {w : World} {A : Around} {E : Value → Shared → Prop} {s : Shared} {h₀ : Heap} {L l : Addr} {news : List (Addr × Obj)}
theorem text_at {value slice : PySem.Expr} {us : List Value} {ss : List Str} {n : Nat} {k : Int} {u : Tok} {Q : Value → Shared → Prop} (N : News h₀ L s.heap news) (hm : (l, listOf us.toArray n) ∈ news) (hs : StrsAre us ss) (hz : ∀ x ∈ ss, x.length ≤ 8)
    (h0 : 0 ≤ k) (h1 : k < (ss.length : Int)) (hfit : ss.length ≤ 100) (h : ∀ x t, ss[k.toNat]? = some x → x.length ≤ 8 → Q (.str x t) s)
    (hsb : subscripted slice false (.ref l) (.int k u) = operate [.ref l, .int k u] (getItem (.ref l) (.int k u)) := by with_unfolding_all rfl) :
    wpAny (model prog w) A (subscriptTail value slice (.ref l) (.int k u)) Q E s := by
  obtain ⟨x, t, e1, e2⟩ := strsAre_get hs (show k.toNat < ss.length by (first | lia | omega))
  have hl : s.heap.IsList l us.toArray := ⟨_, (N _ hm).1, rfl, n, rfl⟩
  exact tail_any hl.typeIs slot_list_getitem.lookup (wpAny_getItem_list hl h0 (by (first | lia | omega)) (by simpa using e2) (h x t e1 (hz x (List.mem_of_getElem? e1)))) hsb
end
theorem names_short : ∀ nm ∈ names false, nm.length ≤ 8 := by decide +kernel
def blanks : List Str := [Str.ofString "", Str.ofString " ", Str.ofString "\t", Str.ofString " \t "]
theorem strip_name : ∀ b ∈ blanks, ∀ n ∈ names false, ∀ c ∈ blanks, Txt.strip (b ++ n ++ c) = n := by decide +kernel
theorem strip_value : ∀ b ∈ blanks, ∀ n ∈ values, ∀ c ∈ blanks, Txt.strip (b ++ n ++ c) = n := by decide +kernel
theorem no_eq : ∀ b ∈ blanks, ∀ n ∈ names false, ∀ c ∈ blanks, 61 ∉ (b ++ n ++ c).cps.toList := by decide +kernel
theorem blanks_short : ∀ b ∈ blanks, b.length ≤ 3 := by decide +kernel
theorem values_short : ∀ b ∈ values, b.length ≤ 2 := by decide +kernel
theorem con_parse' (w : World) (b0 nm b1 b2 v b3 : Str) (t1 : Tok) :
    Con Challenge.rw_il0129_01.row.prog w (hd.heap_39 w.params) 163 5 [.ref 169, .str (b0 ++ nm ++ b1 ++ Str.ofString "=" ++ b2 ++ v ++ b3) t1] (fun _ => b0 ∈ blanks ∧ nm ∈ names false ∧ b1 ∈ blanks ∧ b2 ∈ blanks ∧ v ∈ values ∧ b3 ∈ blanks)
      (fun g r h' => ∃ p d u1 u2, r = .ref p ∧ New g h' [(p, pairObj d (.str nm u1) (.str v u2)), (d, emptyDict)]) := by
  refine (con_parse w _ (b0 ++ nm ++ b1) (b2 ++ v ++ b3) t1).imp ?_ ?_
  · rintro _ ⟨h0, h1, h2, h3, h4, h5⟩
    refine ⟨by simp only [Str.append_assoc], no_eq b0 h0 nm h1 b1 h2, ?_⟩
    have a0 := blanks_short _ h0
    have a1 := names_short _ h1
    have a2 := blanks_short _ h2
    have a3 := blanks_short _ h3
    have a4 := values_short _ h4
    have a5 := blanks_short _ h5
    have e61 : (Str.ofString "=").length = 1 := by decide +kernel
    simp only [Str.length_append]
    (first | lia | omega)
  · rintro _ r h' ⟨h0, h1, h2, h3, h4, h5⟩ ⟨p, d, u1, u2, rfl, W⟩
    rw [strip_name b0 h0 nm h1 b1 h2, strip_value b2 h3 v h4 b3 h5] at W
    exact ⟨p, d, u1, u2, rfl, W⟩
theorem fm {b : Int} (a : Int) (hb : 0 < b) : 0 ≤ a.fmod b ∧ a.fmod b < b := ⟨Int.fmod_nonneg_of_pos _ hb, Int.fmod_lt_of_pos _ hb⟩
theorem blanks8 : ∀ x ∈ blanks, x.length ≤ 8 := by decide +kernel
theorem hv_at {k : Nat} {x : Str} (e : values[k]? = some x) : values.getD k (Str.ofString "") = x := by rw [List.getD_eq_getElem?_getD, e]; rfl
local macro_rules | `(tactic| walk_at "execs cons") => `(tactic| (k_here; (try dsimp only); (try k_gentoks); refine execs_hide ?_; intro QQ hQQ))
local macro_rules | `(tactic| walk_at "call ref") => `(tactic| (k_here; refine hold ?_))
local macro_rules | `(tactic| walk_at "subscriptTail") => `(tactic| (k_here; refine hold ?_))
set_option pp.deepTerms false
set_option pp.deepTerms.threshold 6
set_option pp.maxSteps 6000
set_option maxHeartbeats 1600000 in
theorem con_read (w : World) (nm : Str) (spot pick : Int) (t1 t2 t3 : Tok) :
    Con Challenge.rw_il0129_01.row.prog w (hd.heap_39 w.params) 200 7 [.str nm t1, .int spot t2, .int pick t3] (fun _ => nm ∈ names false ∧ 0 ≤ spot ∧ spot < 6)
      (fun g v h' => ∃ p d u1 u2, v = .ref p ∧ New g h' [(p, pairObj d (.str nm u1) (.str (values.getD spot.toNat (Str.ofString "")) u2)), (d, emptyDict)]) := by
    (k_fill; k_dflt (refine' con_enter ?k6 ?k7 ?k9 ?kB ?c5 ?c2 ?c3 ?c4 ?cl ?_; (case k6 => k_is); (case k7 => k_is); (case k9 => first | exact fun _ _ => BindsTo.of_eq rfl | exact fun _ X => binds_K X rfl (by k_is) rfl rfl rfl); (case c5 => decide); (case kB => exact locs rfl); (case c2 => exact rfl); (case c3 => exact rfl); (case c4 => exact rfl); (case cl => decide); k_whole))
    intro dp un gd outer A₀ base mean mg mb s L' h₁ tk B X T hd hu hp F N
    obtain ⟨hn, hs0, hs1⟩ := hp
    have hnz : nm.length ≤ 8 := names_short nm hn
    obtain ⟨m0, F⟩ := fr_three F (x := Str.ofString "name") (y := Str.ofString "spot") (z := Str.ofString "pick") rfl rfl rfl
    refine hide ?_
    intro Q0 hQ0
    (k_steps; (repeat' (refine hid_ap (by with_reducible assumption) ?_; (try dsimp only); k_steps)))
    refine ⟨?_⟩
    rename News _ _ _ _ => N1
    refine text_at N1 (.head _) (.cons _ _ (.cons _ _ (.cons _ _ (.cons _ _ .nil)))) blanks8 (fm _ (by decide)).1 (fm _ (by decide)).2 (by decide) (fun b0 tb0 hb0 hz0 => ?_) (by with_unfolding_all rfl)
    k_steps
    refine ⟨?_⟩
    refine text_at N1 (.head _) (.cons _ _ (.cons _ _ (.cons _ _ (.cons _ _ .nil)))) blanks8 (fm _ (by decide)).1 (fm _ (by decide)).2 (by decide) (fun b1 tb1 hb1 hz1 => ?_) (by with_unfolding_all rfl)
    k_steps
    refine ⟨?_⟩
    refine text_at N1 (.head _) (.cons _ _ (.cons _ _ (.cons _ _ (.cons _ _ .nil)))) blanks8 (fm _ (by decide)).1 (fm _ (by decide)).2 (by decide) (fun b2 tb2 hb2 hz2 => ?_) (by with_unfolding_all rfl)
    (k_steps; (repeat' (refine hid_ap (by with_reducible assumption) ?_; (try dsimp only); k_steps)))
    refine ⟨?_⟩
    rename Fr _ _ _ _ => F3
    rename News _ _ _ _ => N3
    refine (con_values w).use B F3 X N3 T rfl (roomD hd (by decide)) (roomU hu (by decide)) trivial ?_
    rintro _ h4 tk4 F4 N4 - ⟨vl, vvs, vk, rfl, W4, D4⟩
    have N4 := W4.news F3 N4
    have S4 := strsAre_dat D4
    clear F3 W4 D4 N3
    dsimp only [List.cons_append, List.nil_append] at N4
    k_steps
    refine ⟨?_⟩
    refine text_at N4 (.head _) S4 (by decide +kernel) hs0 hs1 (by decide) (fun v tv hv hzv => ?_) (by with_unfolding_all rfl)
    k_steps
    refine ⟨?_⟩
    refine text_at N4 (.tail _ (.tail _ (.head _))) (.cons _ _ (.cons _ _ (.cons _ _ (.cons _ _ .nil)))) blanks8 (fm _ (by decide)).1 (fm _ (by decide)).2 (by decide) (fun b3 tb3 hb3 hz3 => ?_) (by with_unfolding_all rfl)
    k_steps
    refine ⟨?_⟩
    refine call_meth (f := Value.ref 163) N4 (.tail _ (.head _)) ?_
    refine (con_parse' w b0 nm b1 b2 v b3 _).code B F4 X N4 T rfl (roomD hd (by decide)) (roomU hu (by decide)) ⟨List.mem_of_getElem? hb0, hn, List.mem_of_getElem? hb1, List.mem_of_getElem? hb2, List.mem_of_getElem? hv, List.mem_of_getElem? hb3⟩ ?_
    rintro _ h5 tk5 F5 N5 - ⟨p, d, u1, u2, rfl, W⟩
    (k_steps; (repeat' (refine hid_ap (by with_reducible assumption) ?_; (try dsimp only); k_steps)))
    rw [hv_at hv]
    exact ConEnd.intro F5 ⟨p, d, u1, u2, rfl, fun q hq => new_of (W.news F4 N5) q (List.mem_append_left _ hq)⟩

end
end Mine

namespace Mine
section
open PySem PySem.Calls PySem.W PyProof.Rows
section
variable {prog : Program} {w : World} {A : Around} {E : Value → Shared → Prop} {s : Shared} {env : Env} {h₀ : Heap} {target : PySem.Expr} {body : List Stmt} {Q : Flow → Shared → Prop}
/-- our loop's place: the walk stops here, and a loop rule of ours goes on -/
structure LpIter (prog : Program) (w : World) (A : Around) (h₀ : Heap) (env : Env) (target : PySem.Expr) (body : List Stmt) (Q : Flow → Shared → Prop) (E : Value → Shared → Prop) (xv : Value) (s₁ : Shared) : Prop where
  mk :: of : wpAny (model prog w) A (pyIter xv) (fun it s₂ => TurnsAt prog w A h₀ env target body Q E it s₂) E s₁
def LpEnd (h₀ : Heap) (L : Addr) (s₁ : Shared) (p : Addr × Obj) (rest : (Str → Option Value) → List (Addr × Obj) → Prop) (s₂ : Shared) : Prop :=
  ∃ h' tk m' news' nx', s₂ = { s₁ with heap := h', toks := tk } ∧ Fr h₀ L h' m' ∧ News h₀ L h' news' ∧ p ∈ news' ∧ (∀ q ∈ nx', q ∈ news' ∧ q.1 ≠ p.1) ∧ rest m' nx'
def LpPost (h₀ : Heap) (L : Addr) (s₁ : Shared) (p : Addr × Obj) (rest : (Str → Option Value) → List (Addr × Obj) → Prop) (Q : Flow → Shared → Prop) (f : Flow) (s₂ : Shared) : Prop :=
  match f with
  | .ret v => Q (.ret v) s₂
  | .brk => Q .next s₂
  | _ => LpEnd h₀ L s₁ p rest s₂
theorem For_lp {iter : PySem.Expr} {pos : Pos} {m : Str → Option Value} (F : Fr h₀ env.locals s.heap m)
    (h : wpAny (model prog w) A (eval iter env) (fun xv s₁ => LpIter prog w A h₀ env target body Q E xv s₁) E s)
    (hs : ∀ x, foldedSetIterable iter env x = pure x := by intro _; rfl)
    (hE : PassesOwn (model prog w) A env E := by passes_own) :
    wpAny (model prog w) A (exec (.For target iter body [] pos) env) Q E s := For_turns F (wpAny_mono h (fun _ _ x => x.of) fun _ _ x => x) hs hE

theorem lp_core {I : Addr} {cls : String} {fp wr : List Addr} {n : Nat} {P Md : Nat → Value → Heap → Prop} {St : Nat → Heap → Prop} {m₀ : Str → Option Value} {news₀ : List (Addr × Obj)} {hp : Heap} {tk0 : Nat}
    (stored : List Str) (J : Nat → List (Addr × Obj) → Prop)
    (W : KTurns prog w A target I fp wr n P Md St) (hobj : ∀ (i : Nat) (h : Heap), St i h → ∃ o, h.get? I = some o ∧ o.cls = .type cls)
    (hI : I ∈ fp ∧ I ∈ wr ∧ h₀.get? I = none) (hwr : ∀ b ∈ wr, b = I) (hfp : ∀ b ∈ fp, b = I ∨ (∃ o, h₀.get? b = some o) ∨ ∃ o, ∀ i nx, J i nx → (b, o) ∈ nx)
    (hL : env.locals ∉ fp) (hnw : ∀ p ∈ news₀, @Ne Nat p.1 I) (hst : St 0 hp) (F : Fr h₀ env.locals hp m₀) (N : News h₀ env.locals hp news₀) (hj : J 0 news₀)
    (turn : ∀ (i : Nat) (v : Value) (u : Str → Option Value) (nx : List (Addr × Obj)) (h : Heap) tk oI, i < n → P i v h → oI.cls = .type cls → J i nx → (∀ p ∈ nx, @Ne Nat p.1 I) → Fr h₀ env.locals h (fun y => if stored.contains y then u y else m₀ y) → News h₀ env.locals h ((I, oI) :: nx) →
      wpAny (model prog w) A (assign target env v) (fun _ s₂ => wpAny (model prog w) A (execs body env)
        (LpPost h₀ env.locals { s with heap := h, toks := tk } (I, oI) (fun m' n' => (∀ z, stored.contains z = false → m' z = m₀ z) ∧ J (i + 1) n') Q) E s₂) E { s with heap := h, toks := tk })
    (done : ∀ (u : Str → Option Value) (nx : List (Addr × Obj)) (h : Heap) tk, J n nx → Fr h₀ env.locals h (fun y => if stored.contains y then u y else m₀ y) → News h₀ env.locals h nx → Q .next { s with heap := h, toks := tk }) :
    TurnsAt prog w A h₀ env target body Q E (.ref I) { s with heap := hp, toks := tk0 } := by
  have fr : ∀ {m₁ : Str → Option Value} {h : Heap}, (∀ z, stored.contains z = false → m₁ z = m₀ z) → Fr h₀ env.locals h m₁ → Fr h₀ env.locals h (fun y => if stored.contains y then m₁ y else m₀ y) := by
    intro m₁ h e F
    have em : (fun y => if stored.contains y then m₁ y else m₀ y) = m₁ := by
      funext y
      cases c : stored.contains y with
      | true => simp
      | false => simp only [Bool.false_eq_true, if_false]; exact (e y c).symm
    rw [em]
    exact F
  refine ⟨I, fp, wr, n, P, Md, St, m₀, news₀, (fun i m₁ nx => (∀ z, stored.contains z = false → m₁ z = m₀ z) ∧ J i nx), rfl, W, hL, fun b hb => (hwr b hb) ▸ hI.2.2, fun p hp hq => hnw p hp (hwr _ hq), hst, F, N, ⟨fun _ _ => rfl, hj⟩, ?_, ?_⟩
  · intro i v m₁ nx h tk own hin hP hJ hoff hown hget hall hst₁ F₁ N₁
    obtain ⟨hm, hJ⟩ := hJ
    obtain ⟨o, ho, hc⟩ := hobj _ _ hst₁
    have hIown : (I, o) ∈ own := hall I hI.1 hI.2.2 o ho
    have hoff' : ∀ p ∈ nx, @Ne Nat p.1 I := fun p hp e => by
      refine hoff p hp ?_
      have e' : p.1 = I := e
      rw [e']
      exact hI.2.1
    have N₂ : News h₀ env.locals h ((I, o) :: nx) := fun p hp => by
      rcases List.mem_cons.mp hp with rfl | hp
      · exact N₁ _ (List.mem_append_left _ hIown)
      · exact N₁ _ (List.mem_append_right _ hp)
    refine wpAny_mono (turn i v m₁ nx h tk o hin hP hc hJ hoff' (fr hm F₁) N₂) (fun _ s₂ h₂ => wpAny_mono h₂ (fun f s₃ p => ?_) fun _ _ e => e) fun _ _ e => e
    have fin : LpEnd h₀ env.locals { s with heap := h, toks := tk } (I, o) (fun m' n' => (∀ z, stored.contains z = false → m' z = m₀ z) ∧ J (i + 1) n') s₃ →
        LoopStepU h₀ env.locals wr own (fun m₁ nx => (∀ z, stored.contains z = false → m₁ z = m₀ z) ∧ J (i + 1) nx) { s with heap := h, toks := tk } .next s₃ := by
      rintro ⟨h', tk', m', news', nx', e, F', N', hp', hn', hm', hJ'⟩
      refine ⟨rfl, h', tk', m', nx', e, F', ?_, ?_, hm', hJ'⟩
      · intro p hp
        rcases List.mem_append.mp hp with hp | hp
        · have hg := hget p hp
          rcases hfp p.1 (hown p hp) with e1 | ⟨o1, e1⟩ | ⟨o1, e1⟩
          · rw [e1, ho] at hg
            have : p = (I, o) := Prod.ext e1 (Option.some.inj hg).symm
            rw [this]
            exact N' _ hp'
          · have := (N₁ p (List.mem_append_left _ hp)).2.2
            rw [e1] at this
            cases this
          · have h1 := (N₁ _ (List.mem_append_right _ (e1 i nx hJ))).1
            have h1' : h.get? p.1 = some o1 := h1
            rw [h1'] at hg
            have : p = (p.1, o1) := Prod.ext rfl (Option.some.inj hg).symm
            rw [this]
            exact N' _ (hn' _ (e1 _ _ hJ')).1
        · exact N' p (hn' p hp).1
      · intro p hp hq
        exact (hn' p hp).2 (hwr _ hq)
    cases f with
    | ret v => exact .ret p
    | brk => exact .brk p
    | next => exact .next (fin p)
    | cont => exact .cont (fin p)
  · intro h' tk m' news' F' N' _ hJ
    exact done m' news' h' tk hJ.2 (fr hJ.1 F') N'

theorem LpEnd.intro {L : Addr} {s₁ : Shared} {p : Addr × Obj} {rest : (Str → Option Value) → List (Addr × Obj) → Prop} {h' : Heap} {tk' : Nat} {m' : Str → Option Value} {news' : List (Addr × Obj)} (nx' : List (Addr × Obj))
    (F : Fr h₀ L h' m') (N : News h₀ L h' news') (hp : p ∈ news') (hn : ∀ q ∈ nx', q ∈ news') (ho : ∀ q ∈ nx', @Ne Nat q.1 p.1) (hr : rest m' nx') : LpEnd h₀ L s₁ p rest { s₁ with heap := h', toks := tk' } :=
  ⟨h', tk', m', news', nx', rfl, F, N, hp, fun q hq => ⟨hn q hq, ho q hq⟩, hr⟩

/-- a list in the base heap or in the ledger -/
theorem lp_list {l : Addr} {ol : Obj} {vs : List Value} {nn : Nat} {m₀ : Str → Option Value} {news₀ news : List (Addr × Obj)} (stored : List Str) (J : Nat → List (Addr × Obj) → Prop)
    (hh : A.handled = none) (F : Fr h₀ env.locals s.heap m₀) (N : News h₀ env.locals s.heap news) (hl : s.heap.get? l = some ol) (hc : ol.cls = .type "list") (hd : ol.data = .seq vs.toArray nn) (hk : (∃ o, h₀.get? l = some o) ∨ ∃ o, (l, o) ∈ news ∧ ∀ i nx, J i nx → (l, o) ∈ nx)
    (hn : ∀ p ∈ news₀, p ∈ news) (hj : J 0 news₀)
    (turn : ∀ (i : Nat) (v : Value) (u : Str → Option Value) (nx : List (Addr × Obj)) (h : Heap) tk I oI, vs[i]? = some v → oI.cls = .type "list_iterator" → J i nx → (∀ p ∈ nx, @Ne Nat p.1 I) → Fr h₀ env.locals h (fun y => if stored.contains y then u y else m₀ y) → News h₀ env.locals h ((I, oI) :: nx) →
      wpAny (model prog w) A (assign target env v) (fun _ s₂ => wpAny (model prog w) A (execs body env)
        (LpPost h₀ env.locals { s with heap := h, toks := tk } (I, oI) (fun m' n' => (∀ z, stored.contains z = false → m' z = m₀ z) ∧ J (i + 1) n') Q) E s₂) E { s with heap := h, toks := tk })
    (done : ∀ (u : Str → Option Value) (nx : List (Addr × Obj)) (h : Heap) tk, J vs.length nx → Fr h₀ env.locals h (fun y => if stored.contains y then u y else m₀ y) → News h₀ env.locals h nx → Q .next { s with heap := h, toks := tk }) :
    LpIter prog w A h₀ env target body Q E (.ref l) s := by
  have hls : s.heap.IsList l vs.toArray := ⟨ol, hl, hc, nn, hd⟩
  have hlt : l < s.heap.objs.size := Heap.lt_size hl
  have hne : l ≠ s.heap.objs.size := Nat.ne_of_lt hlt
  refine ⟨wpAny_pyIter_list hls ?_⟩
  refine lp_core (tk0 := s.toks) (cls := "list_iterator") (news₀ := news₀) stored J (KTurns.ofWalks (Walks.list hh s.heap.objs.size l hne vs.toArray) fun i v s Q E st q => letGo_listiter st.1 q) ?_ ?_ ?_ ?_ ?_ ?_ ?_ (F.push _) ?_ hj ?_ ?_
  · rintro i h ⟨⟨o, ho, hc', _⟩, _⟩
    exact ⟨o, ho, hc'⟩
  · exact ⟨List.mem_cons_self .., List.mem_cons_self .., next_is_new F⟩
  · intro b hb
    exact List.mem_singleton.mp hb
  · intro b hb
    rcases List.mem_cons.mp hb with e | hb
    · exact .inl e
    · have e := List.mem_singleton.mp hb
      subst e
      rcases hk with hk | ⟨o, _, hk⟩
      · exact .inr (.inl hk)
      · exact .inr (.inr ⟨o, hk⟩)
  · intro hm
    rcases List.mem_cons.mp hm with e | hm
    · exact absurd F.ns.lt (e ▸ Nat.lt_irrefl _)
    · have e := List.mem_singleton.mp hm
      rcases hk with ⟨o, hk⟩ | ⟨o, hk, _⟩
      · exact absurd (Nat.lt_of_lt_of_le (Heap.lt_size hk) F.above) (e ▸ Nat.lt_irrefl _)
      · exact (N _ hk).2.1 e.symm
  · intro p hp e
    have := Heap.lt_size (N p (hn p hp)).1
    exact absurd this (by rw [show p.1 = s.heap.objs.size from e]; exact Nat.lt_irrefl _)
  · exact ⟨⟨_, Heap.get?_push_size _ rfl, rfl, rfl⟩, hls.at fun o e => Heap.get?_push_of_some _ e⟩
  · exact fun p hp => ⟨Heap.get?_push_of_some _ (N p (hn p hp)).1, (N p (hn p hp)).2⟩
  · intro i v u nx h tk oI hi hv hcI hJ hoff F₁ N₁
    have hv' : vs.toArray[i]? = some v := hv
    exact turn i v u nx h tk _ oI (by simpa using hv') hcI hJ hoff F₁ N₁
  · intro u nx h tk hJ F₁ N₁
    exact done u nx h tk (by simpa using hJ) F₁ N₁

theorem lp_range {x : Str} {px : Pos} {r : Addr} {a₀ b₀ : Int} {t₀ u₀ v₀ : Tok} {n : Nat} {m₀ : Str → Option Value} {news₀ news : List (Addr × Obj)} (stored : List Str) (J : Nat → List (Addr × Obj) → Prop)
    (hh : A.handled = none) (F : Fr h₀ env.locals s.heap m₀) (N : News h₀ env.locals s.heap news) (hr : IsRange s.heap r a₀ b₀ 1 t₀ u₀ v₀) (hsmall : Builtin.Range.small a₀ b₀ 1 = true) (hsz : Builtin.Range.rangeSize a₀ b₀ 1 = (n : Int))
    (hn : ∀ p ∈ news₀, p ∈ news) (hj : J 0 news₀)
    (turn : ∀ (i : Nat) (t : Tok) (u : Str → Option Value) (nx : List (Addr × Obj)) (h : Heap) tk I oI, i < n → oI.cls = .type "range_iterator" → J i nx → (∀ p ∈ nx, @Ne Nat p.1 I) → Fr h₀ env.locals h (fun y => if stored.contains y then u y else m₀ y) → News h₀ env.locals h ((I, oI) :: nx) →
      wpAny (model prog w) A (assign (.Name x px) env (.int (a₀ + (i : Int)) t)) (fun _ s₂ => wpAny (model prog w) A (execs body env)
        (LpPost h₀ env.locals { s with heap := h, toks := tk } (I, oI) (fun m' n' => (∀ z, stored.contains z = false → m' z = m₀ z) ∧ J (i + 1) n') Q) E s₂) E { s with heap := h, toks := tk })
    (done : ∀ (u : Str → Option Value) (nx : List (Addr × Obj)) (h : Heap) tk, J n nx → Fr h₀ env.locals h (fun y => if stored.contains y then u y else m₀ y) → News h₀ env.locals h nx → Q .next { s with heap := h, toks := tk }) :
    LpIter prog w A h₀ env (.Name x px) body Q E (.ref r) s := by
  refine ⟨wpAny_pyIter_range hr hsmall ?_⟩
  have W : Walks prog w A s.heap.objs.size [s.heap.objs.size] [s.heap.objs.size] n (fun i v => ∃ t, v = .int (a₀ + i * 1) t)
      (fun i h => IsRangeIter h s.heap.objs.size (a₀ + (i : Nat) * 1) ((n : Int) - (i : Nat)) 1) := Walks.range hh _ a₀ 1 n
  refine lp_core (tk0 := s.toks) (cls := "range_iterator") (news₀ := news₀) stored J (KTurns.ofWalks W fun i v s Q E st q => by unfold letOwnedTupleGo; exact wpAny_pure q) ?_ ?_ ?_ ?_ ?_ ?_ ?_ (F.push _) ?_ hj ?_ ?_
  · intro i h hi
    exact ⟨_, hi, rfl⟩
  · exact ⟨List.mem_cons_self .., List.mem_cons_self .., next_is_new F⟩
  · intro b hb
    exact List.mem_singleton.mp hb
  · intro b hb
    exact .inl (List.mem_singleton.mp hb)
  · intro hm
    exact absurd F.ns.lt ((List.mem_singleton.mp hm) ▸ Nat.lt_irrefl _)
  · intro p hp e
    have := Heap.lt_size (N p (hn p hp)).1
    exact absurd this (by rw [show p.1 = s.heap.objs.size from e]; exact Nat.lt_irrefl _)
  · show IsRangeIter _ _ _ _ _
    rw [hsz]
    simpa using Heap.get?_push_size _ rfl
  · exact fun p hp => ⟨Heap.get?_push_of_some _ (N p (hn p hp)).1, (N p (hn p hp)).2⟩
  · rintro i v u nx h tk oI hi ⟨t, rfl⟩ hcI hJ hoff F₁ N₁
    have e1 : a₀ + (i : Int) * 1 = a₀ + (i : Int) := by (first | lia | omega)
    rw [e1]
    exact turn i t u nx h tk _ oI hi hcI hJ hoff F₁ N₁
  · exact done
end
theorem keep_put {stored : List Str} {x : Str} {v : Option Value} {m m₀ : Str → Option Value} (hx : stored.contains x = true) (h : ∀ z, stored.contains z = false → m z = m₀ z) : ∀ z, stored.contains z = false → (if z = x then v else m z) = m₀ z := by
  intro z hz
  by_cases e : z = x
  · rw [e, hx] at hz
    cases hz
  · rw [if_neg e]
    exact h z hz
theorem keep_base {stored : List Str} {u m₀ : Str → Option Value} : ∀ z, stored.contains z = false → (if stored.contains z = true then u z else m₀ z) = m₀ z := by
  intro z hz
  rw [hz]
  rfl
theorem keep_in {st2 stored : List Str} {u m m₀ : Str → Option Value} (hs : st2.all (stored.contains ·) = true) (h : ∀ z, stored.contains z = false → m z = m₀ z) : ∀ z, stored.contains z = false → (if st2.contains z = true then u z else m z) = m₀ z := by
  intro z hz
  cases c : st2.contains z with
  | false => exact h z hz
  | true =>
    have := List.all_eq_true.mp hs z (by simpa using c)
    rw [hz] at this
    cases this
theorem allNe_nil {d : Addr} : ∀ p ∈ ([] : List (Addr × Obj)), p.1 ≠ d := fun _ h => nomatch h
theorem allNe_cons {d : Addr} {p : Addr × Obj} {r : List (Addr × Obj)} (h : p.1 ≠ d) (k : ∀ q ∈ r, q.1 ≠ d) : ∀ q ∈ p :: r, q.1 ≠ d := by
  intro q hq
  rcases List.mem_cons.mp hq with rfl | hq
  · exact h
  · exact k q hq
theorem allNe_all {d : Addr} : ∀ {l : List (Addr × Obj)}, AllNe d l → ∀ q ∈ l, q.1 ≠ d
  | [], _ => allNe_nil
  | _ :: _, h => allNe_cons h.1 (allNe_all h.2)
theorem allNe_app {d : Addr} {l r : List (Addr × Obj)} (h : AllNe d l) (k : AllNe d r) : ∀ q ∈ l ++ r, q.1 ≠ d := fun q hq => (List.mem_append.mp hq).elim (allNe_all h q) (allNe_all k q)
theorem upd_app {d : Addr} {o o' : Obj} : ∀ {pre r r' : List (Addr × Obj)}, (∀ p ∈ pre, p.1 ≠ d) → Upd d o o' r r' → Upd d o o' (pre ++ r) (pre ++ r')
  | [], _, _, _, u => u
  | p :: _, _, _, h, u => .tail (h p (.head _)) (upd_app (fun q hq => h q (.tail _ hq)) u)
theorem allNe_mk {d : Addr} : ∀ {l : List (Addr × Obj)}, (∀ q ∈ l, @Ne Nat q.1 d) → AllNe d l
  | [], _ => trivial
  | _ :: _, h => ⟨h _ (.head _), allNe_mk fun q hq => h q (.tail _ hq)⟩
theorem allNe_lt {d : Addr} : ∀ {l : List (Addr × Obj)}, AllLt d l → AllNe d l
  | [], _ => trivial
  | _ :: _, h => ⟨Nat.ne_of_lt h.1, allNe_lt h.2⟩

end
end Mine

namespace Mine
section
open PySem PySem.Calls PySem.W PyProof.Rows
theorem con_enterC {prog : Program} {w : World} {K : Frag} {f : Addr} {lev : Nat} {vals : List Value} {pre : Heap → Prop} {post : Heap → Value → Heap → Prop}
    {name qual : Str} {params : Arguments} {body : List Stmt} {scope : Scope} {dV kV doc pm cdv ct oc : Value} {an od : Option Addr} {osl : Array (Option Value)} {binds : List (Str × Value)}
    (ho : K.lookup f = some ⟨oc, od, .func (fnX name qual params body scope [] dV kV doc pm an cdv ct), osl⟩) (hcd : codeIn K cdv qual = true)
    (hbind : ∀ s : Shared, K.In s.heap → BindsTo s (fnX name qual params body scope [] dV kV doc pm an cdv ct) ⟨vals, []⟩ binds)
    (hkind : (binds.all fun y => scope.names.lookup y.1 == some .local || scope.names.lookup y.1 == some .cell) = true)
    (hnd : ((cellsFrom 0 scope.names []).map (·.1)).Nodup) (hco : scope.isCoroutine = false) (hgen : scope.isGenerator = false) (hk : scope.kind = .function) (hlev : 1 ≤ lev)
    (h : ∀ (dp un : Nat) (gd : Option (List Code)) (outer : List Env) (A₀ : Around) (base : Heap) (mean : ExcName → Option Value) (mg mb : Str → Option Value) (s : Shared) (L' : Addr) (h₁ : Heap) (tk : Nat) (cells : List (Addr × Obj)),
      Below A₀ base outer s.heap → K.In s.heap → Top hd.view_39 (looseW hd.view_39 [Str.ofString "_tuplegetter", Str.ofString "Pair"]) mean mg mb s.heap →
      dp + 7 + 8 * (lev - 1) < recursionLimit → un + 61 + 64 * (lev - 1) < cLine → pre s.heap →
      Fr s.heap L' h₁ (bindL (envOfC qual scope L' f cdv).kindOf binds fun _ => none) → News s.heap L' h₁ cells → CellsAre (bindC (envOfC qual scope L' f cdv).kindOf binds fun _ => none) (cellsFrom (L' + 1) scope.names []) cells →
      wpAny (model prog w) (ktrTop dp un gd qual scope L' f cdv (cellsFrom (L' + 1) scope.names []) outer) (execs body (envX qual scope L' f cdv (cellsFrom (L' + 1) scope.names [])))
        (fun fl s' => ConEnd s post (match fl with | .ret v => v | _ => .none) s') (fun _ _ => False) { s with heap := h₁, toks := tk }) :
    Con prog w K f lev vals pre post := by
  intro dp un gd cn cs a ccd cl outer A₀ base h₀ L m mean mg mb s Q E B F X T hkc hd hu hp ret
  have Xs : K.In s.heap := X.keeps F.keep
  have hroom : dp < recursionLimit := by (first | lia | omega)
  refine codeAny_call_function (fd := fnX name qual params body scope [] dV kV doc pm an cdv ct) (body := body) hroom (Xs _ _ ho) rfl hco hgen rfl (codeRec_of Xs hcd) (hbind s Xs _ _ _ _ ?_)
  refine wpAny_newFunctionEnv_cells hk (kindsX hkind _) fun env' he s' x => ?_
  subst he
  refine ⟨(T.keeps F.keep).nolimit.keeps x.toInCall.keep, codeAny_func ?_⟩
  obtain ⟨h₁, tk, rfl, _⟩ := x.done
  have hk₁ := x.toInCall.keep
  obtain ⟨cells, NC, Y⟩ := Cl.news (h₀ := s.heap) (Nat.le_refl _) fun n c hm => ⟨x.cell n c (lookup_of_mem_nodup (cellsFrom_names scope.names 0 (s.heap.objs.size + 1) [] [] rfl ▸ hnd) hm), x.above n c hm⟩
  have B' := pushX (env := envX cn cs L a ccd cl) B F rfl hkc
  have B2 : Below (ktrTop dp un gd cn cs L a ccd cl outer) base (envX cn cs L a ccd cl :: outer) s.heap := ⟨rfl, B'.stays, B'.frames⟩
  have z := h (dp + 1) (un + 3) gd (envX cn cs L a ccd cl :: outer) _ base mean mg mb s s.heap.objs.size h₁ tk cells B2 Xs (T.keeps F.keep) (by (first | lia | omega)) (by (first | lia | omega)) hp ⟨x.toInCall.ns, hk₁, Nat.le_refl _⟩ NC Y
  refine wpAny_mono z (fun fl s' hq => ?_) fun _ _ x => x.elim
  obtain ⟨h', tk', rfl, k, q⟩ := hq
  exact ret _ h' tk' k q
section
open LCg
variable {prog : Program} {w : World} {A : Around} {E : Value → Shared → Prop} {s : Shared} {h₀ : Heap} {L : Addr} {m : Str → Option Value} {env : Env}
theorem compEnd_mono {s₁ s₂ : Shared} {I C D : Addr} {oI oC oD : Obj} {S : List (Addr × Obj) → Prop} {r r' : Value → List (Addr × Obj) → Prop} {y : Value} (h : CompEnd h₀ L m s₁ I oI C oC D oD S r y s₂) (hr : ∀ n, r y n → r' y n) : CompEnd h₀ L m s₁ I oI C oC D oD S r' y s₂ := by
  obtain ⟨h', tk, n', e, F, N, o, hS, x⟩ := h
  exact ⟨h', tk, n', e, F, N, o, hS, hr _ x⟩
/-- a comprehension's turns by an invariant -/
theorem comp_inv {elt : PySem.Expr} {x : Str} {scope : Scope} {cl : List (Str × Addr)} {S : List (Addr × Obj) → Prop} {P : Nat → Value → Prop} {Fin : List Value → List (Addr × Obj) → Prop} {n : Nat} (J : Nat → List Value → List (Addr × Obj) → Prop) {news : List (Addr × Obj)}
    (h0 : J 0 [] news)
    (turn : ∀ i ys news v I oI C oC D m₂ h tk (E' : Value → Shared → Prop), i < n → J i ys news → P i v → NsObj oC m₂ → m₂ x = some v → Fr h₀ L h m → News h₀ L h ((I, oI) :: (C, oC) :: (D, lst ys) :: news) → Off3 I C D news → ((@Ne Nat I C) ∧ (@Ne Nat I D) ∧ (@Ne Nat C D)) →
      wpAny (model prog w) A (eval elt (compEnvC scope cl C env)) (CompEnd h₀ L m { s with heap := h, toks := tk } I oI C oC D (lst ys) S (fun y news' => J (i + 1) (ys ++ [y]) news')) E' { s with heap := h, toks := tk })
    (fin : ∀ ys news, J n ys news → Fin ys news) : CompRest prog w A h₀ L m env elt x scope cl s S P Fin n 0 [] news := by
  have go : ∀ (k i : Nat) (ys : List Value) (news : List (Addr × Obj)), k + i = n → J i ys news → CompRest prog w A h₀ L m env elt x scope cl s S P Fin k i ys news := by
    intro k
    induction k with
    | zero => intro i ys news e h; obtain rfl : i = n := by (first | lia | omega)
              exact .zero (fin _ _ h)
    | succ k ih =>
      intro i ys news e hj
      refine .succ fun v I oI C oC D m₂ h tk E' hP hC hx F N off ne => ?_
      exact wpAny_mono (turn i ys news v I oI C oC D m₂ h tk E' (by (first | lia | omega)) hj hP hC hx F N off ne) (fun y s₂ q => compEnd_mono q fun n' r => ih (i + 1) _ _ (by (first | lia | omega)) r) fun _ _ x => x
  exact go n 0 [] news (by (first | lia | omega)) h0
/-- a comprehension's iterable is reached: the walk stops here -/
structure CompHere (P : Value → Shared → Prop) (xv : Value) (s : Shared) : Prop where
  mk :: of : P xv s
theorem listComp_h {elt iter : PySem.Expr} {x : Str} {px : Pos} {scope : Scope} {cl : List (Str × Addr)} {pos : Pos} {Q : Value → Shared → Prop} (F₀ : Fr h₀ L s.heap m)
    (hclos : closureFor scope env = pure cl) (hcell : ∀ y ∈ scope.names, y.2 ≠ .cell) (hkind : scope.kind = .function)
    (hnames : ∀ y ∈ scope.names, y.2 = .local → scope.names.lookup y.1 = some .local) (hx : scope.names.lookup x = some .local)
    (h : wpAny (model prog w) A (eval iter env) (CompHere (CompSrc prog w A h₀ L m env elt x scope cl (fun s₂ => FinE h₀ L m s₂ Q))) E s)
    (hs : ∀ x, foldedSetIterable iter env x = pure x := by intro _; rfl) :
    wpAny (model prog w) A (eval (.ListComp elt [⟨.Name x px, iter, [], 0⟩] scope pos) env) Q E s :=
  ListComp_U F₀ hclos hcell hkind hnames hx (wpAny_mono h (fun _ _ q => q.of) fun _ _ e => e) hs
theorem assignComp_h {elt iter : PySem.Expr} {x y : Str} {px py : Pos} {scope : Scope} {cl : List (Str × Addr)} {pos spos : Pos} {Q : Flow → Shared → Prop} (F₀ : Fr h₀ L s.heap m) (hLe : env.locals = L)
    (hsw : swapsWith (.ListComp elt [⟨.Name x px, iter, [], 0⟩] scope pos) (some (.Name y py)) spos.line env = pure true)
    (hclos : closureFor scope env = pure cl) (hcell : ∀ z ∈ scope.names, z.2 ≠ .cell) (hkind : scope.kind = .function)
    (hnames : ∀ z ∈ scope.names, z.2 = .local → scope.names.lookup z.1 = some .local) (hx : scope.names.lookup x = some .local)
    (hy : env.kindOf y = some .local) (hp : (env.scope.kind == .class || (env.scope.kind == .module && env.locals != env.globals)) = false)
    (h : wpAny (model prog w) A (eval iter env) (CompHere (CompSrc prog w A h₀ L m env elt x scope cl (fun s₂ => FinA h₀ L m s₂ y Q))) E s)
    (hs : ∀ x, foldedSetIterable iter env x = pure x := by intro _; rfl) :
    wpAny (model prog w) A (exec (.Assign [.Name y py] (.ListComp elt [⟨.Name x px, iter, [], 0⟩] scope pos) spos) env) Q E s :=
  Assign_ListComp_U F₀ hLe hsw hclos hcell hkind hnames hx hy hp (wpAny_mono h (fun _ _ q => q.of) fun _ _ e => e) hs
theorem comp_next {tl9 news : List (Addr × Obj)} {s₁ : Shared} {I C D : Addr} {oI oC oD : Obj} {S : List (Addr × Obj) → Prop} {rest : Value → List (Addr × Obj) → Prop} {y : Value} {h' : Heap} {tk : Nat} (nx' : List (Addr × Obj))
    (F : Fr h₀ L h' m) (N : News h₀ L h' (tl9 ++ (I, oI) :: (C, oC) :: (D, oD) :: news)) (off : Off3 I C D news) (o9 : OwnOff tl9 (((I, oI) :: (C, oC) :: (D, oD) :: news).map (·.1))) (hn : ∀ p ∈ nx', p ∈ tl9 ∨ p ∈ news) (hS : S nx') (r : rest y nx') :
    CompEnd h₀ L m s₁ I oI C oC D oD S rest y { s₁ with heap := h', toks := tk } := by
  refine CompEnd.intro F N nx' (fun p hp => ?_) (Off3.of fun p hp => ?_) hS r
  · simp only [List.mem_cons, List.mem_append] at hp ⊢
    rcases hp with hp | hp | hp | hp
    · simp [hp]
    · simp [hp]
    · simp [hp]
    · rcases hn p hp with hp | hp <;> simp [hp]
  · rcases hn p hp with hp | hp
    · exact ⟨o9 p hp I (by simp), o9 p hp C (by simp), o9 p hp D (by simp)⟩
    · exact off.mem p hp
end

end
end Mine

namespace Mine
section
open PySem PySem.Calls PySem.W PyProof.Rows
open LCg
/-- a comprehension's ledger: what stood before, and what its items own -/
inductive JB (base : List (Addr × Obj)) (P : List (Addr × Obj) → Nat → List Value → Prop) (i : Nat) (ys : List Value) : List (Addr × Obj) → Prop
  | mk (t : List (Addr × Obj)) (ho : OwnOff t (base.map (·.1))) (hP : P t i ys) : JB base P i ys (base ++ t)
theorem JB.start {base : List (Addr × Obj)} {P : List (Addr × Obj) → Nat → List Value → Prop} (h : P [] 0 []) : JB base P 0 [] base := by
  have := JB.mk (base := base) [] (fun _ h => nomatch h) h
  rwa [List.append_nil] at this
theorem mid_or {α : Type} {A X Y : List α} {q : α} (hq : q ∈ A ++ (X ++ Y)) : q ∈ X ∨ q ∈ A ++ Y :=
  (List.mem_append.mp hq).elim (fun h => .inr (List.mem_append_left _ h)) fun h => (List.mem_append.mp h).elim .inl fun h => .inr (List.mem_append_right _ h)
theorem ownOff_app {o1 o2 : List (Addr × Obj)} {a : List Addr} (h : OwnOff o1 a) (k : OwnOff o2 a) : OwnOff (o1 ++ o2) a := fun p hp x hx => (List.mem_append.mp hp).elim (fun e => h p e x hx) fun e => k p e x hx
theorem ownOff_left {o1 A B : List (Addr × Obj)} (h : OwnOff o1 ((A ++ B).map (·.1))) : OwnOff o1 (A.map (·.1)) := fun p hp x hx => h p hp x (by rw [List.map_append]; exact List.mem_append_left _ hx)
theorem ownOff_cons {o1 : List (Addr × Obj)} {a : Addr} {l : List Addr} (h : OwnOff o1 (a :: l)) : OwnOff o1 l := fun p hp x hx => h p hp x (.tail _ hx)
theorem ownOff_one {o1 : List (Addr × Obj)} {a : Addr} {l : List Addr} (h : OwnOff o1 (a :: l)) : ∀ p ∈ o1, @Ne Nat p.1 a := fun p hp => h p hp a (.head _)
theorem off1_mem {D : Addr} : ∀ {l : List (Addr × Obj)}, Off1 D l → ∀ p ∈ l, @Ne Nat p.1 D
  | [], _, _, h => nomatch h
  | _ :: _, x, p, h => by
    rcases List.mem_cons.mp h with rfl | h
    · exact x.1
    · exact off1_mem x.2 p h
theorem own_new {d : Addr} {o : Obj} {t A : List (Addr × Obj)} (h : ∀ p ∈ A, @Ne Nat p.1 d) (k : OwnOff t (A.map (·.1))) : OwnOff ((d, o) :: t) (A.map (·.1)) := by
  intro p hp x hx
  rcases List.mem_cons.mp hp with rfl | hp
  · obtain ⟨q, hq, rfl⟩ := List.mem_map.mp hx
    exact Ne.symm (h q hq)
  · exact k p hp x hx
theorem news_rot {g h : Heap} {L : Addr} {d : Addr × Obj} {t A : List (Addr × Obj)} (N : News g L h (d :: (A ++ t))) : News g L h ((d :: t) ++ A) := fun p hp => N p (by
  rcases List.mem_cons.mp hp with rfl | hp
  · exact .head _
  · exact .tail _ ((List.mem_append.mp hp).elim (List.mem_append_right _) (List.mem_append_left _)))
theorem news_drop {g h : Heap} {L : Addr} {d : Addr × Obj} {l : List (Addr × Obj)} (N : News g L h (d :: l)) : News g L h l := fun p hp => N p (.tail _ hp)
theorem news_sub {g h : Heap} {L : Addr} {l l' : List (Addr × Obj)} (N : News g L h l) (hs : ∀ p ∈ l', p ∈ l) : News g L h l' := fun p hp => N p (hs p hp)
theorem swap2 {α : Type} {a b : α} {l : List α} : ∀ p ∈ a :: b :: l, p ∈ b :: a :: l := fun p hp => by
  rcases List.mem_cons.mp hp with rfl | hp
  · exact .tail _ (.head _)
  · rcases List.mem_cons.mp hp with rfl | hp
    · exact .head _
    · exact .tail _ (.tail _ hp)
theorem jb_next {h₀ h' : Heap} {L I C D : Addr} {m : Str → Option Value} {s₁ : Shared} {oI oC oD : Obj} {S : List (Addr × Obj) → Prop} {base t tl9 : List (Addr × Obj)} {P : List (Addr × Obj) → Nat → List Value → Prop} {i : Nat} {ys : List Value} {y : Value} {tk : Nat}
    (F : Fr h₀ L h' m) (N : News h₀ L h' (tl9 ++ (I, oI) :: (C, oC) :: (D, oD) :: (base ++ t))) (off : Off3 I C D (base ++ t)) (o9 : OwnOff tl9 (((I, oI) :: (C, oC) :: (D, oD) :: (base ++ t)).map (·.1))) (ho : OwnOff t (base.map (·.1)))
    (hS : S (base ++ (tl9 ++ t))) (hP : P (tl9 ++ t) i (ys ++ [y])) : CompEnd h₀ L m s₁ I oI C oC D oD S (fun y nx => JB base P i (ys ++ [y]) nx) y { s₁ with heap := h', toks := tk } :=
  comp_next (base ++ (tl9 ++ t)) F N off o9 (fun _ hq => mid_or hq) hS (.mk _ (ownOff_app (ownOff_left (ownOff_cons (ownOff_cons (ownOff_cons o9)))) ho) hP)
theorem jb_nextC {h₀ h' : Heap} {L I C D c : Addr} {m : Str → Option Value} {s₁ : Shared} {oI oC oD oc : Obj} {base t tl9 : List (Addr × Obj)} {P : List (Addr × Obj) → Nat → List Value → Prop} {i : Nat} {ys : List Value} {y : Value} {tk : Nat}
    (F : Fr h₀ L h' m) (N : News h₀ L h' (tl9 ++ (I, oI) :: (C, oC) :: (D, oD) :: (c, oc) :: (base ++ t))) (off : Off3 I C D ((c, oc) :: (base ++ t))) (hc : AllNe c (base ++ t)) (o9 : OwnOff tl9 (((I, oI) :: (C, oC) :: (D, oD) :: (c, oc) :: (base ++ t)).map (·.1))) (ho : OwnOff t (base.map (·.1)))
    (hP : P (tl9 ++ t) i (ys ++ [y])) : CompEnd h₀ L m s₁ I oI C oC D oD (fun _ => True) (fun y nx => ∃ nx', nx = (c, oc) :: nx' ∧ AllNe c nx' ∧ JB base P i (ys ++ [y]) nx') y { s₁ with heap := h', toks := tk } := by
  have o4 := ownOff_cons (ownOff_cons (ownOff_cons o9))
  refine comp_next ((c, oc) :: (base ++ (tl9 ++ t))) F N off o9 (fun q hq => ?_) trivial ⟨_, rfl, allNe_mk fun q hq => ?_, .mk _ (ownOff_app (ownOff_left (ownOff_cons o4)) ho) hP⟩
  · rcases List.mem_cons.mp hq with rfl | hq
    · exact .inr (.head _)
    · exact (mid_or hq).elim .inl fun h => .inr (.tail _ h)
  · exact (mid_or hq).elim (ownOff_one o4 q) (allNe_all hc q)
theorem hide_body {α β : Type} {M : Model} {A : Around} {t : Sem α} {u : Sem β} {Q : β → Shared → Prop} {E E' : Value → Shared → Prop} {s : Shared} (h : ∀ QQ : β → Shared → Prop, HideQ Q QQ → wpAny M A t (fun _ s₂ => wpAny M A u QQ E s₂) E' s) : wpAny M A t (fun _ s₂ => wpAny M A u Q E s₂) E' s := h Q ⟨fun _ _ q => q⟩
theorem append_in {prog : Program} {w : World} {A : Around} {E : Value → Shared → Prop} {s : Shared} {g : Heap} {L D : Addr} {m : Str → Option Value} {its : List Value} {n : Nat} {x : Value} {own rest : List (Addr × Obj)} {Q : Value → Shared → Prop} (F : Fr g L s.heap m) (N : News g L s.heap (own ++ (D, listOf its.toArray n) :: rest))
    (a : ∀ p ∈ own, @Ne Nat p.1 D) (b : ∀ p ∈ rest, @Ne Nat p.1 D) (hsz : its.length ≤ 100) (k : ∀ h', Fr g L h' m → News g L h' (own ++ (D, listOf (its ++ [x]).toArray (n + 1)) :: rest) → Q .none { s with heap := h' }) :
    wpAny (model prog w) A (call (.builtin "list.append") [.ref D, x]) Q E s := by
  have z := N (D, listOf its.toArray n) (List.mem_append.mpr (.inr (.head _)))
  refine append_at (hsz := by rw [List.size_toArray, sizeLine_eq]; (first | lia | omega)) z.1 fun h' hs ho' => k h' (F.change hs z.2.1 z.2.2) (news_set N a b hs ?_)
  rw [show (its ++ [x]).toArray = its.toArray.push x by simp]
  exact ho'
theorem mid2 {α : Type} {a b : α} {l : List α} : ∀ q ∈ a :: l, q ∈ a :: b :: l := fun q hq => (List.mem_cons.mp hq).elim (fun e => e ▸ .head _) fun h => .tail _ (.tail _ h)
theorem holdC {M : Model} {A : Around} {env : Env} {x : Str} {v : Value} {Q : Unit → Shared → Prop} {E : Value → Shared → Prop} {s : Shared} (_h : env.kindOf x = some .cell) (H : HoldP (wpAny M A (storeName env x v) Q E s)) : wpAny M A (storeName env x v) Q E s := H.of
/-- the two loops' ledgers: cells that change -/
inductive JOne (a : Addr) (l : List (Addr × Obj)) : List (Addr × Obj) → Prop
  | mk (o : Obj) (v : Option Value) (h : o.data = .cell v) : JOne a l ((a, o) :: l)
inductive JTwo (a b : Addr) (l : List (Addr × Obj)) : List (Addr × Obj) → Prop
  | mk (o p : Obj) (v u : Option Value) (h : o.data = .cell v) (h2 : p.data = .cell u) : JTwo a b l ((a, o) :: (b, p) :: l)
theorem tup4_eq {α : Type} {a b c d a' b' c' d' : α} (h : #[a, b, c, d] = #[a', b', c', d']) : a = a' ∧ b = b' ∧ c = c' ∧ d = d' := by
  injection h with h
  injection h with h1 h
  injection h with h2 h
  injection h with h3 h
  injection h with h4
  exact ⟨h1, h2, h3, h4⟩

end
end Mine

namespace Mine
section
open PySem PySem.Calls PySem.W PyProof.Rows
theorem ints_of : ∀ {l : List Value}, (∀ v ∈ l, ∃ n t, v = .int n t) → ∃ ms, IntsAre l ms
  | [], _ => ⟨[], .nil⟩
  | v :: r, h => by
    obtain ⟨n, t, rfl⟩ := h v (.head _)
    obtain ⟨ms, hm⟩ := ints_of (l := r) fun v hv => h v (.tail _ hv)
    exact ⟨n :: ms, .cons n t hm⟩
theorem ints_are : ∀ {l : List Value} {ms : List Int}, IntsAre l ms → ∀ v ∈ l, ∃ n t, v = .int n t
  | _, _, .cons n t h, v, hv => by
    rcases List.mem_cons.mp hv with rfl | hv
    · exact ⟨n, t, rfl⟩
    · exact ints_are h v hv
theorem pick_ints {vs : List Value} {ns : List Int} {lo hi st : Option Int} (h : IntsAre vs ns) : ∃ ms, IntsAre (slicePick vs.toArray lo hi st).toList ms := by
  refine ints_of fun v hv => ?_
  unfold slicePick at hv
  simp only [List.mem_filterMap] at hv
  obtain ⟨i, _, e⟩ := hv
  refine ints_are h v ?_
  have : v ∈ vs.toArray := Array.mem_of_getElem? e
  simpa using this
section
variable {prog : Program} {w : World} {A : Around} {E : Value → Shared → Prop} {s : Shared} {h₀ : Heap} {L l : Addr} {m : Str → Option Value} {news : List (Addr × Obj)}
theorem sum_any {its : Array Value} {n : Nat} {Q : Value → Shared → Prop} (hh : A.handled = none) (F : Fr h₀ L s.heap m) (N : News h₀ L s.heap ((l, ({ cls := .type "list", data := .seq its n } : Obj)) :: news)) (hi : ∃ ms, IntsAre its.toList ms)
    (h : ∀ x h' tk t, Fr h₀ L h' m → News h₀ L h' news → Q (.int x t) { s with heap := h', toks := tk }) : wpAny (model prog w) A (call (.builtin "sum") [.ref l]) Q E s := by
  obtain ⟨ms, hi⟩ := hi
  exact sumK hh F N (vs := its.toList) ⟨_, (N _ (.head _)).1, rfl, n, rfl⟩ hi fun h' tk t' F' N' => h _ h' tk t' F' fun p hp => N' p (.tail _ hp)
end
section
variable {prog : Program} {w : World} {A : Around} {E : Value → Shared → Prop} {s : Shared} {h₀ : Heap} {L l : Addr} {news : List (Addr × Obj)}
theorem int_at {value slice : PySem.Expr} {us : List Value} {ns : List Int} {n : Nat} {k : Int} {u : Tok} {Q : Value → Shared → Prop} (N : News h₀ L s.heap news) (hm : (l, listOf us.toArray n) ∈ news) (hs : IntsAre us ns)
    (h0 : 0 ≤ k) (h1 : k < (ns.length : Int)) (hfit : ns.length ≤ 100) (h : ∀ x t, ns[k.toNat]? = some x → Q (.int x t) s)
    (hsb : subscripted slice false (.ref l) (.int k u) = operate [.ref l, .int k u] (getItem (.ref l) (.int k u)) := by with_unfolding_all rfl) :
    wpAny (model prog w) A (subscriptTail value slice (.ref l) (.int k u)) Q E s := by
  have hlt : k.toNat < ns.length := by (first | lia | omega)
  obtain ⟨t, e2⟩ := hs.get k.toNat ns[k.toNat] (by simp [hlt])
  have hl : s.heap.IsList l us.toArray := ⟨_, (N _ hm).1, rfl, n, rfl⟩
  have := hs.length
  exact tail_any hl.typeIs slot_list_getitem.lookup (wpAny_getItem_list hl h0 (by (first | lia | omega)) (by simpa using e2) (h _ t (by simp [hlt]))) hsb
end
/-- a row of the law's: how often, a name, a spot, a pick -/
def Row1 (d : Dat) : Prop := ∃ o n sp p, d = .tuple [.int o, .str n, .int sp, .int p] ∧ 1 ≤ o ∧ o ≤ 8 ∧ n ∈ names false ∧ 0 ≤ sp ∧ sp < 6
theorem names_8 (o : Bool) : (names o).length = 8 := by cases o <;> rfl
theorem names_len8 : ∀ o : Bool, ∀ x ∈ names o, x.length ≤ 8 := by decide +kernel
theorem names_100 (o : Bool) : (names o).length ≤ 100 := by rw [names_8]; decide
inductive RowsJ (l1 : Addr) (i : Nat) : List (Addr × Obj) → Prop
  | mk (us : List Value) (tl : List (Addr × Obj)) (k : Nat) (ds : List Dat) (hD : DatAll tl us ds) (h6 : ds.length = i) (hr : ∀ d ∈ ds, Row1 d) (ho : ∀ p ∈ tl, @Ne Nat p.1 l1) : RowsJ l1 i ((l1, listOf us.toArray k) :: tl)
theorem row_snoc {ds : List Dat} {o sp p : Int} {n : Str} (h : ∀ d ∈ ds, Row1 d) (a1 : 1 ≤ o) (a2 : o ≤ 8) (hn : n ∈ names false) (h0 : 0 ≤ sp) (h6 : sp < 6) : ∀ d ∈ ds ++ [.tuple [.int o, .str n, .int sp, .int p]], Row1 d := fun d hd =>
  (List.mem_append.mp hd).elim (h d) fun hd => List.mem_singleton.mp hd ▸ ⟨o, n, sp, p, rfl, a1, a2, hn, h0, h6⟩
theorem line_dat {tl : List (Addr × Obj)} {D : Addr} {kk : Nat} {r sp p : Int} {n : Str} {t1 t2 t3 t4 : Tok} : DatAll ((D, ({ cls := .type "tuple", data := .seq #[.int r t1, .str n t2, .int sp t3, .int p t4] kk } : Obj)) :: tl) [.ref D] [.tuple [.int r, .str n, .int sp, .int p]] :=
  .one (.tuple (n := kk) (vs := [.int _ t1, .str n t2, .int sp t3, .int p t4]) (.head _) (.cons (.int _ _) (.cons (.str _ _) (.cons (.int _ _) (.cons (.int _ _) .nil)))))
theorem k6 {i : Nat} (h : i < 6) : 0 ≤ (0 + (i : Int)) ∧ (0 + (i : Int)) < 6 := by (first | lia | omega)
/-- the post -/
inductive RowsPost (g : Heap) : Value → Heap → Prop
  | mk (r : Addr) (us : List Value) (tl : List (Addr × Obj)) (k : Nat) (ds : List Dat) (h' : Heap) (W : New g h' ((r, listOf us.toArray k) :: tl)) (hD : DatAll tl us ds) (h6 : ds.length = 6) (hr : ∀ d ∈ ds, Row1 d) : RowsPost g (.ref r) h'
local macro_rules | `(tactic| walk_at "execs cons") => `(tactic| (k_here; (try dsimp only); (try k_gentoks); refine execs_hide ?_; intro QQ hQQ))
local macro_rules | `(tactic| walk_at "call ref") => `(tactic| (k_here; refine hold ?_))
local macro_rules | `(tactic| walk_at "call builtin:sum") => `(tactic| (k_here; refine hold ?_))
local macro_rules | `(tactic| walk_at "call builtin:list.append") => `(tactic| (k_here; refine hold ?_))
local macro_rules | `(tactic| walk_at "subscriptTail") => `(tactic| (k_here; refine hold ?_))
local macro_rules | `(tactic| walk_at "exec For Name Call cons nil") => `(tactic| (k_here; refine hold ?_))
set_option pp.deepTerms false
set_option pp.deepTerms.threshold 6
set_option pp.maxSteps 6000
set_option maxHeartbeats 400000 in
theorem con_rows (w : World) (l : Addr) (vs : List Value) (ns : List Int) :
    Con Challenge.rw_il0129_01.row.prog w (hd.heap_39 w.params) 207 3 [.ref l] (fun h => h.IsList l vs.toArray ∧ IntsAre vs ns ∧ ns.length ≤ 63) RowsPost := by
    (k_fill; k_dflt (refine' con_enter ?k6 ?k7 ?k9 ?kB ?c5 ?c2 ?c3 ?c4 ?cl ?_; (case k6 => k_is); (case k7 => k_is); (case k9 => first | exact fun _ _ => BindsTo.of_eq rfl | exact fun _ X => binds_K X rfl (by k_is) rfl rfl rfl); (case c5 => decide); (case kB => exact locs rfl); (case c2 => exact rfl); (case c3 => exact rfl); (case c4 => exact rfl); (case cl => decide); k_whole))
    intro dp un gd outer A₀ base mean mg mb s L' h₁ tk B X T hd hu hp F N
    obtain ⟨hl, hI, hns⟩ := hp
    obtain ⟨m0, F⟩ := fr_three F (x := Str.ofString "script") (y := Str.ofString "script") (z := Str.ofString "script") rfl rfl rfl
    refine hide ?_
    intro Q0 hQ0
    (k_steps; (repeat' (refine hid_ap (by with_reducible assumption) ?_; (try dsimp only); k_steps)))
    refine ⟨?_⟩
    rename Fr _ _ _ _ => F1
    with_unfolding_all refine' For_lp F1 ?_
    k_steps
    rename_i l1 _ _ _ _ _ _ _ h5 tk5 t5 u5 v5 R5 F5 N5 K5
    refine lp_range (n := 6) (news₀ := [(l1, listOf #[] 0)]) [Str.ofString "k", Str.ofString "x"] (RowsJ l1)
      rfl F5 N5 R5 (by decide) (by decide) (fun _ h => h) (.mk [] [] 0 [] .nil rfl (fun _ h => nomatch h) alln) ?_ ?_
    · clear F5 N5 R5 K5
      rintro i t u nx h tk I oI hi hcI ⟨us, tl, k, ds, hD, hds, hrow, ho⟩ hne F N
      have hI1 := hne _ (.head _)
      dsimp only
      refine hide_body ?_
      intro QL hQL
      (k_steps; (repeat' (refine hid_ap (by with_reducible assumption) ?_; (try dsimp only); k_steps)))
      refine ⟨?_⟩
      rename News _ _ _ _ => N1
      refine int_at N1 (.head _) (.cons _ _ (.cons _ _ (.cons _ _ (.cons _ _ (.cons _ _ (.cons _ _ .nil)))))) (k6 hi).1 (k6 hi).2 (by decide) (fun x tx _ => ?_) (by with_unfolding_all rfl)
      k_steps
      refine ⟨?_⟩
      rename Fr _ _ _ _ => F2
      rename News _ _ _ _ => N2
      refine sum_any rfl F2 N2 (pick_ints hI) fun xx h3 tk3 tt F3 N3 => ?_
      clear F2 N2 
      have N3 : News s.heap L' h3 ((I, oI) :: (l1, listOf us.toArray k) :: tl) := fun p hp => N3 p (.tail _ hp)
      (k_steps; (repeat' (refine hid_ap (by with_reducible assumption) ?_; (try dsimp only); k_steps)))
      refine ⟨?_⟩
      rename Fr _ _ _ _ => F4
      rename News _ _ _ _ => N4
      refine (con_names w false _).use B F4 X N4 T rfl (roomD hd (by decide)) (roomU hu (by decide)) trivial ?_
      rintro _ h6 tk6 F6 N6 - ⟨nl, nvs, nk, rfl, W6, D6⟩
      have N6 := W6.news F4 N6
      have S6 := strsAre_dat D6
      obtain ⟨-, nel, -⟩ := allNe_of W6 N4
      clear N4 W6 D6 F4
      dsimp only [List.cons_append, List.nil_append] at N6
      k_steps
      refine ⟨?_⟩
      refine text_at N6 (.head _) S6 (names_len8 _) (fm _ (by decide)).1 (by rw [names_8]; exact (fm _ (by decide)).2) (names_100 _) (fun xn tn hxn hzn => ?_) (by with_unfolding_all rfl)
      k_steps
      refine ⟨?_⟩
      rename_i D7 h7 F7 N7 lt7
      obtain ⟨-, lt1, lt2, lt3⟩ := lt7
      have hlen : us.length ≤ 100 := by rw [hD.length]; (first | lia | omega)
      refine append_in (own := [(D7, _), (nl, _), (I, oI)]) (rest := tl) F7 N7 (allc (Nat.ne_of_gt lt2) (allc (Ne.symm nel) (all1 (Ne.symm hI1)))) ho hlen fun h8 F8 N8 => ?_
      clear N7
      (k_steps; (repeat' (refine hid_ap (by with_reducible assumption) ?_; (try dsimp only); k_steps)))
      exact LpEnd.intro ((l1, listOf (us ++ [Value.ref D7]).toArray (k + 1)) :: (D7, _) :: tl) F8 N8 (.tail _ (.tail _ (.head _)))
        (allc (.tail _ (.tail _ (.tail _ (.head _)))) (allc (.head _) fun p hp => .tail _ (.tail _ (.tail _ (.tail _ hp)))))
        (allc hI1 (allc (Nat.ne_of_gt lt1) fun p hp => hne p (.tail _ hp)))
        ⟨by (repeat (first | refine keep_put (by decide) ?_ | exact keep_base | refine keep_in (by decide) ?_)); done, .mk _ _ _ _ ((hD.mono fun p hp => .tail _ hp).append line_dat) (by rw [List.length_append, hds]; rfl) (row_snoc hrow (Int.le_add_of_nonneg_left (fm _ (by decide)).1) (Int.add_one_le_of_lt (fm _ (by decide)).2) (List.mem_of_getElem? hxn) (fm _ (by decide)).1 (fm _ (by decide)).2) (allc (Nat.ne_of_gt lt2) ho)⟩
    · clear F5 N5 R5 K5
      rintro u nx h tk ⟨us, tl, k, ds, hD, hds, hrow, ho⟩ F N
      (k_steps; (repeat' (refine hid_ap (by with_reducible assumption) ?_; (try dsimp only); k_steps)))
      exact ConEnd.intro F (.mk l1 us tl k ds _ (new_of N) hD hds hrow)

end
end Mine

namespace Mine
section
open PySem PySem.Calls PySem.W PyProof.Rows
section
variable {n : Nat} {key : Nat → Int} {cmp : Nat → Nat → (Bool → Shared → Prop) → Shared → Prop} {s : Shared}
def Kp (key : Nat → Int) (p : Array Nat) (i : Nat) : Int := key (p.getD i 0)
def Srt (key : Nat → Int) (p : Array Nat) (k : Nat) : Prop := ∀ i j, i ≤ j → j < k → Kp key p i ≤ Kp key p j
def Non (key : Nat → Int) (p : Array Nat) (k : Nat) : Prop := ∀ i j, i ≤ j → j < k → Kp key p j ≤ Kp key p i
def Pm (n : Nat) (p : Array Nat) : Prop := p.Perm (List.range n).toArray
theorem Pm.size {p : Array Nat} (h : Pm n p) : p.size = n := by simpa using h.size_eq
theorem Pm.lt {p : Array Nat} (h : Pm n p) (h0 : 0 < n) (i : Nat) : p.getD i 0 < n := by
  by_cases hi : i < p.size
  · have e : p.getD i 0 = p[i] := by simp [Array.getD, hi]
    rw [e]
    have m : p[i] ∈ p := Array.getElem_mem hi
    simpa using h.mem_iff.mp m
  · have e : p.getD i 0 = 0 := by simp [Array.getD, hi]
    rw [e]
    exact h0
theorem Pm.rev {p : Array Nat} (h : Pm n p) (i j : Nat) : Pm n (kas_rev p i j) := (mirror_perm _ _ _ _).trans h
theorem Pm.bub {p : Array Nat} (h : Pm n p) (i j : Nat) : Pm n (bubble p i j) := (bubble_perm _ _ _).trans h
theorem getD_of {p q : Array Nat} {i j : Nat} (h : p[i]? = q[j]?) : p.getD i 0 = q.getD j 0 := by
  rw [Array.getD_eq_getD_getElem?, Array.getD_eq_getD_getElem?, h]
theorem Kp_rev {p : Array Nat} {i j : Nat} (hj : j ≤ p.size) (k : Nat) : Kp key (kas_rev p i j) k = if i ≤ k ∧ k < j then Kp key p (i + j - 1 - k) else Kp key p k := by
  have e := getElem?_mirror_all (i := i) hj k
  unfold Kp kas_rev
  by_cases h1 : i ≤ k ∧ k < j
  · rw [if_pos h1] at e ⊢; rw [getD_of e]
  · rw [if_neg h1] at e ⊢; rw [getD_of e]
theorem Kp_rev_eq {p : Array Nat} {i j : Nat} (hj : j ≤ p.size) (heq : ∀ k, i ≤ k → k < j → Kp key p k = Kp key p (j - 1)) (k : Nat) : Kp key (kas_rev p i j) k = Kp key p k := by
  rw [Kp_rev hj]
  split
  · rw [heq _ (by (first | lia | omega)) (by (first | lia | omega)), heq k (by (first | lia | omega)) (by (first | lia | omega))]
  · rfl
/-- every question is answered by the keys, and the state stays -/
def Asks (n : Nat) (key : Nat → Int) (cmp : Nat → Nat → (Bool → Shared → Prop) → Shared → Prop) (s : Shared) : Prop := ∀ i j C, i < n → j < n → C (decide (key i < key j)) s → cmp i j C s
theorem step_up {p : Array Nat} {k : Nat} (h1 : 1 ≤ k) (h : Srt key p k) (hk : ¬ Kp key p k < Kp key p (k - 1)) : Srt key p (k + 1) := by
  intro i j hij hj
  by_cases hjk : j < k
  · exact h i j hij hjk
  · obtain rfl : j = k := by (first | lia | omega)
    by_cases hi : i = j
    · rw [hi]; exact Int.le_refl _
    · exact Int.le_trans (h i (j - 1) (by (first | lia | omega)) (by (first | lia | omega))) (by (first | lia | omega))
theorem step_down {p : Array Nat} {k : Nat} (h : Non key p k) (h1 : 1 ≤ k) (hk : Kp key p k ≤ Kp key p (k - 1)) : Non key p (k + 1) := by
  intro i j hij hj
  by_cases hjk : j < k
  · exact h i j hij hjk
  · obtain rfl : j = k := by (first | lia | omega)
    by_cases hi : i = j
    · rw [hi]; exact Int.le_refl _
    · exact Int.le_trans hk (h i (j - 1) (by (first | lia | omega)) (by (first | lia | omega)))
theorem asc_wp {p : Array Nat} {Q : Nat → Shared → Prop} (A : Asks n key cmp s) (h0 : 0 < n) (P : Pm n p) : ∀ (f a : Nat), 1 ≤ a → Srt key p a → (∀ m, a ≤ m → m ≤ a + f → Srt key p m → Q m s) → (kas_asc p f a).kasWp cmp Q s
  | 0, a, _, hs, h => h a (Nat.le_refl _) (Nat.le_refl _) hs
  | f + 1, a, h1, hs, h => by
    refine A _ _ _ (P.lt h0 _) (P.lt h0 _) ?_
    dsimp only
    by_cases hl : key (p.getD a 0) < key (p.getD (a - 1) 0)
    · simp only [hl, decide_true, if_true]
      exact h a (Nat.le_refl _) (Nat.le_add_right _ _) hs
    · simp only [hl, decide_false, Bool.false_eq_true, if_false]
      exact asc_wp A h0 P f (a + 1) (by (first | lia | omega)) (step_up h1 hs hl) fun m a1 a2 a3 => h m (by (first | lia | omega)) (by (first | lia | omega)) a3
theorem asc_wp' {p : Array Nat} {Q : Nat → Shared → Prop} (A : Asks n key cmp s) (h0 : 0 < n) (P : Pm n p) : ∀ (f a : Nat), 1 ≤ a → Srt key p a → (∀ m, a ≤ m → m ≤ a + f → Srt key p m → (m < a + f → Kp key p m < Kp key p (m - 1)) → Q m s) → (kas_asc p f a).kasWp cmp Q s
  | 0, a, _, hs, h => h a (Nat.le_refl _) (Nat.le_refl _) hs fun h => absurd h (Nat.lt_irrefl _)
  | f + 1, a, h1, hs, h => by
    refine A _ _ _ (P.lt h0 _) (P.lt h0 _) ?_
    dsimp only
    by_cases hl : key (p.getD a 0) < key (p.getD (a - 1) 0)
    · simp only [hl, decide_true, if_true]
      exact h a (Nat.le_refl _) (Nat.le_add_right _ _) hs fun _ => hl
    · simp only [hl, decide_false, Bool.false_eq_true, if_false]
      exact asc_wp' A h0 P f (a + 1) (by (first | lia | omega)) (step_up h1 hs hl) fun m a1 a2 a3 a4 => h m (by (first | lia | omega)) (by (first | lia | omega)) a3 fun hm => a4 (by (first | lia | omega))
theorem desc_wp {Q : Array Nat × Nat × Nat → Shared → Prop} (A : Asks n key cmp s) (h0 : 0 < n) : ∀ (f : Nat) (p : Array Nat) (m q : Nat), Pm n p → 1 ≤ m → m + f ≤ n → Non key p m → q + 1 ≤ m → (∀ i, m - (q + 1) ≤ i → i < m → Kp key p i = Kp key p (m - 1)) →
    (∀ p' m' q', Pm n p' → m ≤ m' → m' ≤ m + f → Non key p' m' → q' + 1 ≤ m' → (∀ i, m' - (q' + 1) ≤ i → i < m' → Kp key p' i = Kp key p' (m' - 1)) → Q (p', m', q') s) → (kas_desc f p m q).kasWp cmp Q s
  | 0, p, m, q, P, h1, hf, hn, hq, he, h => h p m q P (Nat.le_refl _) (Nat.le_refl _) hn hq he
  | f + 1, p, m, q, P, h1, hf, hn, hq, he, h => by
    refine A _ _ _ (P.lt h0 _) (P.lt h0 _) ?_
    dsimp only
    by_cases hl : key (p.getD m 0) < key (p.getD (m - 1) 0)
    · simp only [hl, decide_true, if_true]
      have hl' : Kp key p m ≤ Kp key p (m - 1) := Int.le_of_lt hl
      by_cases hqq : q > 0
      · rw [if_pos hqq]
        have hk : ∀ k, Kp key (kas_rev p (m - (q + 1)) m) k = Kp key p k := Kp_rev_eq (by rw [P.size]; (first | lia | omega)) he
        refine desc_wp A h0 f _ (m + 1) 0 (P.rev _ _) (by (first | lia | omega)) (by (first | lia | omega)) ?_ (by (first | lia | omega)) ?_ fun p' m' q' a1 a2 a3 => h p' m' q' a1 (by (first | lia | omega)) (by (first | lia | omega))
        · intro i j hij hj
          rw [hk, hk]
          exact step_down hn h1 hl' i j hij hj
        · intro i a1 a2
          congr 1
          (first | lia | omega)
      · rw [if_neg hqq]
        refine desc_wp A h0 f _ (m + 1) 0 P (by (first | lia | omega)) (by (first | lia | omega)) (step_down hn h1 hl') (by (first | lia | omega)) ?_ fun p' m' q' a1 a2 a3 => h p' m' q' a1 (by (first | lia | omega)) (by (first | lia | omega))
        intro i a1 a2
        congr 1
        (first | lia | omega)
    · simp only [hl, decide_false, Bool.false_eq_true, if_false]
      refine A _ _ _ (P.lt h0 _) (P.lt h0 _) ?_
      dsimp only
      by_cases hg : key (p.getD (m - 1) 0) < key (p.getD m 0)
      · simp only [hg, decide_true, if_true]
        exact h p m q P (Nat.le_refl _) (by (first | lia | omega)) hn hq he
      · simp only [hg, decide_false, Bool.false_eq_true, if_false]
        have hem : Kp key p m = Kp key p (m - 1) := Int.le_antisymm (Int.not_lt.mp hg) (Int.not_lt.mp hl)
        refine desc_wp A h0 f p (m + 1) (q + 1) P (by (first | lia | omega)) (by (first | lia | omega)) (step_down hn h1 (by (first | lia | omega))) (by (first | lia | omega)) ?_ fun p' m' q' a1 a2 a3 => h p' m' q' a1 (by (first | lia | omega)) (by (first | lia | omega))
        intro i a1 a2
        rw [show m + 1 - 1 = m by (first | lia | omega)]
        by_cases hi : i = m
        · rw [hi]
        · rw [hem]
          exact he i (by (first | lia | omega)) (by (first | lia | omega))
theorem tail3_wp {Q : Nat × Array Nat → Shared → Prop} (A : Asks n key cmp s) (h0 : 0 < n) {p : Array Nat} {m : Nat} (P : Pm n p) (h1 : 1 ≤ m) (hm : m ≤ n) (hn : Non key p m)
    (h : ∀ k p', Pm n p' → 1 ≤ k → k ≤ n → Srt key p' k → Q (k, p') s) : (kas_tail3 m n p).kasWp cmp Q s := by
  unfold kas_tail3
  rw [KasT.kasWp_bind]
  refine asc_wp A h0 (P.rev 0 m) (n - m) m h1 ?_ fun k a1 a2 a3 => h k _ (P.rev 0 m) (by (first | lia | omega)) (by (first | lia | omega)) a3
  intro i j hij hj
  rw [Kp_rev (by rw [P.size]; (first | lia | omega)), Kp_rev (by rw [P.size]; (first | lia | omega)), if_pos (by (first | lia | omega)), if_pos (by (first | lia | omega))]
  exact hn _ _ (by (first | lia | omega)) (by (first | lia | omega))
theorem descPart_wp {Q : Nat × Array Nat → Shared → Prop} (A : Asks n key cmp s) (h0 : 0 < n) {p : Array Nat} {m : Nat} (P : Pm n p) (hm : m + 1 ≤ n) (hn : Non key p (m + 1))
    (h : ∀ k p', Pm n p' → 1 ≤ k → k ≤ n → Srt key p' k → Q (k, p') s) : (kas_descPart m n p).kasWp cmp Q s := by
  unfold kas_descPart
  rw [KasT.kasWp_bind]
  refine desc_wp A h0 (n - (m + 1)) p (m + 1) 0 P (by (first | lia | omega)) (by (first | lia | omega)) hn (by (first | lia | omega)) (fun i a1 a2 => by congr 1; (first | lia | omega)) fun p' m' q' P' a1 a2 hn' hq he => ?_
  dsimp only
  by_cases hq0 : q' > 0
  · rw [if_pos hq0]
    refine tail3_wp A h0 (P'.rev _ _) (by (first | lia | omega)) (by (first | lia | omega)) ?_ h
    intro i j hij hj
    rw [Kp_rev_eq (by rw [P'.size]; (first | lia | omega)) he, Kp_rev_eq (by rw [P'.size]; (first | lia | omega)) he]
    exact hn' i j hij hj
  · rw [if_neg hq0]
    exact tail3_wp A h0 P' (by (first | lia | omega)) (by (first | lia | omega)) hn' h
theorem count_wp {Q : Nat × Array Nat → Shared → Prop} (A : Asks n key cmp s) (h0 : 0 < n) {p : Array Nat} (P : Pm n p)
    (h : ∀ k p', Pm n p' → 1 ≤ k → k ≤ n → Srt key p' k → Q (k, p') s) : (kas_count n p).kasWp cmp Q s := by
  have one : ∀ (p : Array Nat), Srt key p 1 := fun p i j a b => by
    obtain rfl : i = j := by (first | lia | omega)
    exact Int.le_refl _
  unfold kas_count
  rw [KasT.kasWp_bind]
  refine asc_wp' A h0 P (n - 1) 1 (Nat.le_refl _) (one p) fun m a1 a2 a3 a4 => ?_
  by_cases e : m = n
  · subst e
    simp only [beq_self_eq_true, if_true]
    exact h m p P a1 (by (first | lia | omega)) a3
  · have e' : (m == n) = false := by simpa using e
    rw [e']
    simp only [Bool.false_eq_true, if_false]
    have hlt := a4 (by (first | lia | omega))
    by_cases hm : m > 1
    · rw [if_pos hm]
      refine A _ _ _ (P.lt h0 _) (P.lt h0 _) ?_
      dsimp only
      by_cases hr : key (p.getD 0 0) < key (p.getD (m - 1) 0)
      · simp only [hr, decide_true, if_true]
        exact h m p P a1 (by (first | lia | omega)) a3
      · simp only [hr, decide_false, Bool.false_eq_true, if_false]
        refine descPart_wp A h0 (P.rev 0 m) (by (first | lia | omega)) ?_ h
        have all : ∀ i, i < m → Kp key p i = Kp key p (m - 1) := fun i hi => by
          have b1 := a3 0 i (Nat.zero_le _) hi
          have b2 := a3 i (m - 1) (by (first | lia | omega)) (by (first | lia | omega))
          have b3 : Kp key p (m - 1) ≤ Kp key p 0 := Int.not_lt.mp hr
          (first | lia | omega)
        intro i j hij hj
        rw [Kp_rev_eq (by rw [P.size]; (first | lia | omega)) (fun k _ hk => all k hk), Kp_rev_eq (by rw [P.size]; (first | lia | omega)) (fun k _ hk => all k hk)]
        by_cases hj' : j < m
        · rw [all i (by (first | lia | omega)), all j hj']
          exact Int.le_refl _
        · obtain rfl : j = m := by (first | lia | omega)
          by_cases hi : i = j
          · rw [hi]; exact Int.le_refl _
          · rw [all i (by (first | lia | omega))]
            exact Int.le_of_lt hlt
    · rw [if_neg hm]
      obtain rfl : m = 1 := by (first | lia | omega)
      refine descPart_wp A h0 P (by (first | lia | omega)) ?_ h
      intro i j hij hj
      by_cases hi : i = j
      · rw [hi]; exact Int.le_refl _
      · obtain rfl : i = 0 := by (first | lia | omega)
        obtain rfl : j = 1 := by (first | lia | omega)
        exact Int.le_of_lt hlt
theorem place_wp {p : Array Nat} {k : Nat} {Q : Nat → Shared → Prop} (A : Asks n key cmp s) (h0 : 0 < n) (P : Pm n p) (hs : Srt key p k) : ∀ (f l r : Nat), r - l ≤ f → l ≤ r → r ≤ k → (∀ i, i < l → Kp key p i ≤ Kp key p k) → (∀ i, r ≤ i → i < k → Kp key p k ≤ Kp key p i) →
    (∀ m, m ≤ k → (∀ i, i < m → Kp key p i ≤ Kp key p k) → (∀ i, m ≤ i → i < k → Kp key p k ≤ Kp key p i) → Q m s) → (kas_place p k f l r).kasWp cmp Q s
  | 0, l, r, hf, hlr, hrk, hl, hr, h => by
    obtain rfl : l = r := by (first | lia | omega)
    exact h l hrk hl hr
  | f + 1, l, r, hf, hlr, hrk, hl, hr, h => by
    unfold kas_place
    by_cases hge : l ≥ r
    · rw [if_pos hge]
      obtain rfl : l = r := by (first | lia | omega)
      exact h l hrk hl hr
    · rw [if_neg hge]
      refine A _ _ _ (P.lt h0 _) (P.lt h0 _) ?_
      dsimp only
      by_cases hc : key (p.getD k 0) < key (p.getD ((l + r) / 2) 0)
      · simp only [hc, decide_true, if_true]
        refine place_wp A h0 P hs f l ((l + r) / 2) (by (first | lia | omega)) (by (first | lia | omega)) (by (first | lia | omega)) hl (fun i a1 a2 => ?_) h
        exact Int.le_trans (Int.le_of_lt hc) (hs _ _ a1 a2)
      · simp only [hc, decide_false, Bool.false_eq_true, if_false]
        refine place_wp A h0 P hs f ((l + r) / 2 + 1) r (by (first | lia | omega)) (by (first | lia | omega)) hrk (fun i a1 => ?_) hr h
        exact Int.le_trans (hs i ((l + r) / 2) (by (first | lia | omega)) (by (first | lia | omega))) (Int.not_lt.mp hc)
theorem bin_wp {Q : Array Nat → Shared → Prop} (A : Asks n key cmp s) (h0 : 0 < n) : ∀ (f : Nat) (p : Array Nat) (k : Nat), Pm n p → k + f = n → Srt key p k → (∀ p', Pm n p' → Srt key p' n → Q p' s) → (kas_bin f p k).kasWp cmp Q s
  | 0, p, k, P, hf, hs, h => by
    obtain rfl : k = n := by (first | lia | omega)
    exact h p P hs
  | f + 1, p, k, P, hf, hs, h => by
    unfold kas_bin
    rw [KasT.kasWp_bind]
    refine place_wp A h0 P hs k 0 k (by (first | lia | omega)) (by (first | lia | omega)) (Nat.le_refl _) (fun i hi => absurd hi (Nat.not_lt_zero _)) (fun i a b => absurd b (by (first | lia | omega))) fun l hl b1 b2 => ?_
    refine bin_wp A h0 f _ (k + 1) (P.bub _ _) (by (first | lia | omega)) ?_ h
    have e : ∀ i, Kp key (bubble p k (k - l)) i = if i = l then Kp key p k else if l < i ∧ i ≤ k then Kp key p (i - 1) else Kp key p i := by
      intro i
      have z := getElem?_bubble (xs := p) (src := k) (by rw [P.size]; (first | lia | omega)) (k - l) (by (first | lia | omega)) i
      rw [show k - (k - l) = l by (first | lia | omega)] at z
      unfold Kp
      by_cases c1 : i = l
      · rw [if_pos c1] at z ⊢; rw [getD_of z]
      · rw [if_neg c1] at z ⊢
        by_cases c2 : l < i ∧ i ≤ k
        · rw [if_pos c2] at z ⊢; rw [getD_of z]
        · rw [if_neg c2] at z ⊢; rw [getD_of z]
    intro i j hij hj
    rw [e i, e j]
    by_cases i1 : i = l
    · rw [if_pos i1]
      by_cases j1 : j = l
      · rw [if_pos j1]; exact Int.le_refl _
      · rw [if_neg j1, if_pos (by (first | lia | omega))]
        exact b2 _ (by (first | lia | omega)) (by (first | lia | omega))
    · rw [if_neg i1]
      by_cases i2 : l < i ∧ i ≤ k
      · rw [if_pos i2, if_neg (by (first | lia | omega)), if_pos (by (first | lia | omega))]
        exact hs _ _ (by (first | lia | omega)) (by (first | lia | omega))
      · rw [if_neg i2]
        by_cases j1 : j = l
        · rw [if_pos j1]; exact b1 _ (by (first | lia | omega))
        · rw [if_neg j1]
          by_cases j2 : l < j ∧ j ≤ k
          · rw [if_pos j2]; exact hs _ _ (by (first | lia | omega)) (by (first | lia | omega))
          · rw [if_neg j2]; exact hs _ _ (by (first | lia | omega)) (by (first | lia | omega))
/-- what the library's asking tree of a sort gives, where the questions are answered by integer keys -/
theorem sort_wp {Q : Array Nat → Shared → Prop} (A : Asks n key cmp s) (h0 : 0 < n) (h : ∀ p, Pm n p → Srt key p n → Q p s) : (kas_sort n).kasWp cmp Q s := by
  unfold kas_sort
  rw [KasT.kasWp_bind]
  refine count_wp A h0 (p := (List.range n).toArray) (Array.Perm.refl _) fun k p P h1 hk hs => ?_
  dsimp only
  by_cases hlt : k < n
  · rw [if_pos hlt]
    refine bin_wp A h0 _ _ _ P (by (first | lia | omega)) ?_ h
    rw [show max k 1 = k by (first | lia | omega)]
    exact hs
  · rw [if_neg hlt]
    obtain rfl : k = n := by (first | lia | omega)
    exact h p P hs
end

end
end Mine

namespace Mine
section
open PySem PySem.Calls PySem.W PyProof.Rows
def posOf (o : Bool) (n : Str) : Nat := (names o).findIdx (· == n)
theorem posOf_at : ∀ o : Bool, ∀ n ∈ names false, posOf o n < 8 ∧ (names o)[posOf o n]? = some n := by decide +kernel
/-- a line of the law's file -/
def Line1 (o : Bool) (d : Dat) : Prop := ∃ n sp p, d = .tuple [.int (6 * (posOf o n : Int) + sp), .str n, .int sp, .int p] ∧ n ∈ names false ∧ 0 ≤ sp ∧ sp < 6
def rankD : Dat → Int
  | .tuple (.int r :: _) => r
  | _ => 0
def pickD : Dat → Int
  | .tuple [_, _, _, .int p] => p
  | _ => 0
theorem pick_bound : ∀ ds : List Dat, ∃ M : Int, 0 ≤ M ∧ ∀ d ∈ ds, -M ≤ pickD d ∧ pickD d ≤ M
  | [] => ⟨0, Int.le_refl _, fun _ h => nomatch h⟩
  | d :: ds => by
    obtain ⟨M, h0, h⟩ := pick_bound ds
    refine ⟨M + pickD d + 2 * (if pickD d < 0 then - pickD d else 0), ?_, fun e he => ?_⟩
    · split <;> (first | lia | omega)
    · rcases List.mem_cons.mp he with rfl | he
      · split <;> (first | lia | omega)
      · have := h e he
        split <;> (first | lia | omega)
def DatShape (news : List (Addr × Obj)) (v : Value) : Dat → Prop
  | .int i => ∃ t, v = .int i t
  | .str x => ∃ t, v = .str x t
  | .tuple ds => ∃ a vs n, v = .ref a ∧ (a, ({ cls := .type "tuple", data := .seq (List.toArray vs) n } : Obj)) ∈ news ∧ DatAll news vs ds
  | _ => True
theorem datIn_inv {news : List (Addr × Obj)} {v : Value} {d : Dat} (h : DatIn news v d) : DatShape news v d := by
  cases h with
  | int i t => exact ⟨t, rfl⟩
  | str x t => exact ⟨t, rfl⟩
  | tuple hm ha => exact ⟨_, _, _, rfl, hm, ha⟩
  | _ => trivial
theorem datAll_inv {news : List (Addr × Obj)} {vs : List Value} {d : Dat} {ds : List Dat} (h : DatAll news vs (d :: ds)) : ∃ v r, vs = v :: r ∧ DatShape news v d ∧ DatAll news r ds := by
  cases h with
  | cons a b => exact ⟨_, _, rfl, datIn_inv a, b⟩
theorem datAll_nil {news : List (Addr × Obj)} {vs : List Value} (h : DatAll news vs []) : vs = [] := by
  cases h
  rfl
theorem tup4_inv {news : List (Addr × Obj)} {v : Value} {a b c : Int} {n : Str} (h : DatIn news v (.tuple [.int a, .str n, .int b, .int c])) :
    ∃ ad k t1 t2 t3 t4, v = .ref ad ∧ (ad, ({ cls := .type "tuple", data := .seq #[.int a t1, .str n t2, .int b t3, .int c t4] k } : Obj)) ∈ news := by
  obtain ⟨ad, vs, k, rfl, hm, h0⟩ := datIn_inv h
  obtain ⟨_, _, rfl, ⟨t1, rfl⟩, h1⟩ := datAll_inv h0
  obtain ⟨_, _, rfl, ⟨t2, rfl⟩, h2⟩ := datAll_inv h1
  obtain ⟨_, _, rfl, ⟨t3, rfl⟩, h3⟩ := datAll_inv h2
  obtain ⟨_, _, rfl, ⟨t4, rfl⟩, h4⟩ := datAll_inv h3
  obtain rfl := datAll_nil h4
  exact ⟨ad, k, t1, t2, t3, t4, rfl, hm⟩
section
variable {prog : Program} {w : World} {A : Around} {E : Value → Shared → Prop} {s : Shared} {h₀ : Heap} {L l : Addr} {m : Str → Option Value} {news : List (Addr × Obj)} {o : Bool}
theorem line_lt {x y : Value} {dx dy : Dat} {Q : Bool → Shared → Prop} (N : ∀ p ∈ news, s.heap.get? p.1 = some p.2) (hx : DatIn news x dx) (hy : DatIn news y dy) (lx : Line1 o dx) (ly : Line1 o dy)
    (h : ∀ b : Bool, (b = true ↔ (rankD dx < rankD dy ∨ (rankD dx = rankD dy ∧ pickD dx < pickD dy))) → Q b s) : wpAny (model prog w) A (keyLt' (tuples' true) x y) Q E s := by
  obtain ⟨n1, s1, p1, rfl, hn1, a1, a2⟩ := lx
  obtain ⟨n2, s2, p2, rfl, hn2, b1, b2⟩ := ly
  obtain ⟨ad1, k1, t1, t2, t3, t4, rfl, m1⟩ := tup4_inv hx
  obtain ⟨ad2, k2, u1, u2, u3, u4, rfl, m2⟩ := tup4_inv hy
  refine kat_lt (N _ m1) rfl (N _ m2) rfl ?_
  show KatLex prog w A true false Q [(_, _), (_, _), (_, _), (_, _)] 0 s
  have q1 := posOf_at o n1 hn1
  have q2 := posOf_at o n2 hn2
  have h : ∀ b : Bool, (b = true ↔ (6 * (posOf o n1 : Int) + s1 < 6 * (posOf o n2 : Int) + s2 ∨ (6 * (posOf o n1 : Int) + s1 = 6 * (posOf o n2 : Int) + s2 ∧ p1 < p2))) → Q b s := h
  refine kat_cons (wpAny_eqBool_int (kat_go (fun e => ?_) fun e => ?_))
  · have er : 6 * (posOf o n1 : Int) + s1 = 6 * (posOf o n2 : Int) + s2 := by simpa using e
    have ep : posOf o n1 = posOf o n2 := by (first | lia | omega)
    have es : s1 = s2 := by (first | lia | omega)
    have en : n1 = n2 := by
      have := q1.2
      rw [ep, q2.2] at this
      exact (Option.some.inj this).symm
    refine kat_yes (kat_cons (wpAny_eqBool_str ?_))
    rw [decide_eq_true en]
    refine kat_yes (kat_cons (wpAny_eqBool_int ?_))
    have : (s1 == s2) = true := by simpa using es
    rw [this]
    refine kat_yes (kat_cons (wpAny_eqBool_int (kat_go (fun e => ?_) fun e => ?_)))
    · have e' : p1 = p2 := by simpa using e
      refine kat_yes (kat_nil (h false ?_))
      simp only [Bool.false_eq_true, false_iff]
      (first | lia | omega)
    · refine kat_no ?_
      show wpAny (model prog w) A (oneLt' false _ _) _ _ _
      refine kat_one _ _ (lt_int (h _ ?_))
      rw [decide_eq_true_iff]
      (first | lia | omega)
  · have er : ¬ 6 * (posOf o n1 : Int) + s1 = 6 * (posOf o n2 : Int) + s2 := by simpa using e
    refine kat_no ?_
    show wpAny (model prog w) A (oneLt' true _ _) _ _ _
    refine oneLt_int (h _ ?_)
    rw [decide_eq_true_iff]
    (first | lia | omega)
theorem katTups_of {h : Heap} (N : ∀ p ∈ news, h.get? p.1 = some p.2) : ∀ {vs : List Value} {ds : List Dat}, DatAll news vs ds → (∀ d ∈ ds, Line1 o d) → ∃ fs, KatTups h vs fs ∧ fs.length = vs.length ∧ ∀ v ∈ fs, ∃ n t, v = .int n t
  | [], _, _, _ => ⟨[], .nil, rfl, fun _ h => nomatch h⟩
  | v :: vs, _, hD, hL => by
    cases hD with
    | cons h1 hD =>
      obtain ⟨fs, k, hl, hi⟩ := katTups_of N hD fun d hd => hL d (.tail _ hd)
      obtain ⟨n, sp, p, rfl, _⟩ := hL _ (.head _)
      obtain ⟨ad, kk, t1, t2, t3, t4, rfl, hm⟩ := tup4_inv h1
      refine ⟨_ :: fs, .cons (N _ hm) rfl rfl rfl k, by simp [hl], fun v hv => ?_⟩
      rcases List.mem_cons.mp hv with rfl | hv
      · exact ⟨_, _, rfl⟩
      · exact hi v hv
theorem datAll_getD {vs : List Value} {ds : List Dat} (h : DatAll news vs ds) {i : Nat} (hi : i < ds.length) : DatIn news (vs.getD i Value.none) (ds.getD i .none) := by
  obtain ⟨v, e, d⟩ := h.get hi
  rw [List.getD_eq_getElem?_getD, e, List.getD_eq_getElem?_getD, List.getElem?_eq_getElem hi]
  exact d
theorem datAll_map {vs : List Value} {ds : List Dat} (h : DatAll news vs ds) : ∀ (l : List Nat), (∀ i ∈ l, i < ds.length) → DatAll news (l.map fun i => vs.getD i Value.none) (l.map fun i => ds.getD i .none)
  | [], _ => .nil
  | i :: l, hl => .cons (datAll_getD h (hl i (.head _))) (datAll_map h l fun j hj => hl j (.tail _ hj))
theorem line_getD {ds : List Dat} (hL : ∀ d ∈ ds, Line1 o d) {i : Nat} (hi : i < ds.length) : ds.getD i .none ∈ ds := by
  rw [List.getD_eq_getElem?_getD, List.getElem?_eq_getElem hi]
  exact List.getElem_mem hi

theorem sorted_small {vs : List Value} {Q : Value → Shared → Prop} (hl : s.heap.IsList l vs.toArray) (h2 : vs.length < 2)
    (h : Q (.ref (s.heap.objs.size + 1)) { s with heap := sortedAll s.heap vs vs.toArray }) : wpAny (model prog w) A (call (.builtin "sorted") [.ref l]) Q E s := by
  refine Calls.call_function_entry kind_sorted plain_sorted entry_sorted (args_sorted1 _) ?_
  unfold Builtin.«sorted»
  refine wpAny_bind (m := checkCount "sorted" 1 1 _) (wpAny_pure ?_)
  refine wpAny_bind (collect_list hl ?_ (by rw [sizeLine_eq]; (first | lia | omega)))
  refine wpAny_bind (wpAny_newList ?_ (by rw [sizeLine_eq]; (first | lia | omega)))
  have hsz : ((s.heap.push (seqObj "list" #[] 0)).update s.heap.objs.size (Obj.mapSeq (· ++ vs.toArray))).objs.size = s.heap.objs.size + 1 := by
    rw [Heap.size_update, size_push']
  have hoL : (((s.heap.push (seqObj "list" #[] 0)).update s.heap.objs.size (Obj.mapSeq (· ++ vs.toArray))).push (seqObj "list" vs.toArray 0)).get? (s.heap.objs.size + 1) = some (seqObj "list" vs.toArray 0) := by
    rw [← hsz]; exact Heap.get?_push_size _ rfl
  show wpAny _ _ _ _ _ { s with heap := ((s.heap.push (seqObj "list" #[] 0)).update s.heap.objs.size (Obj.mapSeq (· ++ vs.toArray))).push (seqObj "list" vs.toArray 0) }
  rw [hsz]
  refine wpAny_bind (wpAny_holding (wpAny_call_entry slot_list_sort ⟨_, hoL, rfl⟩ entry_list_sort ?body (args_list_sort _)))
  case body =>
    rw [list_sort_plain]
    generalize eh : (((s.heap.push (seqObj "list" #[] 0)).update s.heap.objs.size (Obj.mapSeq (· ++ vs.toArray))).push (seqObj "list" vs.toArray 0)) = g at hoL ⊢
    have ha : s.heap.objs.size + 1 < g.objs.size := Heap.lt_size hoL
    refine wpAny_bind (listItems_at hoL rfl ?_)
    refine wpAny_bind (listUpdate_at hoL rfl ?_ (by rw [List.size_toArray, sizeLine_eq]; (first | lia | omega)) (Nat.zero_le _))
    obtain ⟨e1, ho1⟩ : ∃ e1, (g.update (s.heap.objs.size + 1) (Obj.mapSeq fun _ => (#[] : Array Value))).get? (s.heap.objs.size + 1) = some (seqObj "list" #[] e1) := ⟨_, get?_update_seq hoL (fun _ => #[])⟩
    refine wpAny_bind (seqEpoch_at ho1 rfl ?_)
    refine wpAny_bind (wpAny_newTuple ?_ (by show vs.length ≤ _; rw [sizeLine_eq]; (first | lia | omega)))
    refine wpAny_bind (wpAny_newList ?_ (Nat.zero_le _))
    refine wpAny_holding ?_
    have ho6 : (((g.update (s.heap.objs.size + 1) (Obj.mapSeq fun _ => (#[] : Array Value))).push (seqObj "tuple" vs.toArray 0)).push (seqObj "list" #[] 0)).get? (s.heap.objs.size + 1) = some (seqObj "list" #[] e1) := by
      rw [Heap.get?_push_ne _ _ _ (by rw [size_push', Heap.size_update]; exact Nat.ne_of_lt (Nat.lt_succ_of_lt ha)), Heap.get?_push_ne _ _ _ (by rw [Heap.size_update]; exact Nat.ne_of_lt ha)]
      exact ho1
    show wpAny (model prog w) A.in1.in1 _ _ E { s with heap := ((g.update (s.heap.objs.size + 1) (Obj.mapSeq fun _ => (#[] : Array Value))).push (seqObj "tuple" vs.toArray 0)).push (seqObj "list" #[] 0) }
    dsimp only
    have hn2 : vs.toArray.size < 2 := by rw [List.size_toArray]; exact h2
    rw [if_pos hn2, if_pos hn2]
    refine wpAny_bind (wpAny_pure ?_)
    rw [StateT.run_pure]
    refine wpAny_bind (wpAny_pure ?_)
    dsimp only
    refine wpAny_bind (seqEpoch_at ho6 rfl ?_)
    refine wpAny_bind (listUpdate_at ho6 rfl ?_ (Nat.zero_le _) (by rw [Array.size_map]; show (pairsOf vs).size ≤ _; rw [pairsOf_size, sizeLine_eq]; (first | lia | omega)))
    simp only [bne_self_eq_false, Bool.false_eq_true, if_false]
    refine wpAny_pure ⟨_, rfl, wpAny_pure ⟨_, rfl, ?_⟩⟩
    have e2 : (arrOf (SortSt.mk' general' (vs.toArray.zip vs.toArray) #[] 7 none)).map (·.2) = vs.toArray := by
      show (vs.toArray.zip vs.toArray).map (·.2) = vs.toArray
      apply Array.toList_inj.mp
      rw [Array.toList_map, Array.toList_zip]
      exact List.map_snd_zip (Nat.le_refl _)
    subst eh
    rw [e2]
    exact h

theorem key_iff {ds : List Dat} {M : Int} (h0 : 0 ≤ M) (hM : ∀ d ∈ ds, -M ≤ pickD d ∧ pickD d ≤ M) {a b : Dat} (ha : a ∈ ds) (hb : b ∈ ds) :
    (rankD a * (2 * M + 1) + pickD a < rankD b * (2 * M + 1) + pickD b) ↔ (rankD a < rankD b ∨ (rankD a = rankD b ∧ pickD a < pickD b)) := by
  have a1 := hM a ha
  have b1 := hM b hb
  have mono : ∀ x y : Int, x < y → x * (2 * M + 1) + (2 * M + 1) ≤ y * (2 * M + 1) := fun x y h => by
    have : (x + 1) * (2 * M + 1) ≤ y * (2 * M + 1) := Int.mul_le_mul_of_nonneg_right (by (first | lia | omega)) (by (first | lia | omega))
    rw [Int.add_mul, Int.one_mul] at this
    exact this
  constructor
  · intro h
    rcases Int.lt_trichotomy (rankD a) (rankD b) with c | c | c
    · exact .inl c
    · rw [c] at h
      exact .inr ⟨c, by (first | lia | omega)⟩
    · have := mono _ _ c
      (first | lia | omega)
  · rintro (c | ⟨c, d⟩)
    · have := mono _ _ c
      (first | lia | omega)
    · rw [c]
      (first | lia | omega)
theorem sorted_lines {nd : List (Addr × Obj)} {vs : List Value} {ds : List Dat} {k : Nat} {Q : Value → Shared → Prop} (F : Fr h₀ L s.heap m) (N : News h₀ L s.heap news) (hl : (l, listOf vs.toArray k) ∈ news) (hnd : ∀ p ∈ nd, p ∈ news) (hD : DatAll nd vs ds) (hL : ∀ d ∈ ds, Line1 o d) (h64 : vs.length < 64)
    (h : ∀ D e h' vs' ds', Fr h₀ L h' m → News h₀ L h' ((D, listOf (List.toArray vs') e) :: news) → (∀ q ∈ news, q.1 < D) → DatAll nd vs' ds' → ds'.length = ds.length → (∀ d ∈ ds', Line1 o d) → ds'.Pairwise (fun a b => rankD a ≤ rankD b) → Q (.ref D) { s with heap := h' }) :
    wpAny (model prog w) A (call (.builtin "sorted") [.ref l]) Q E s := by
  have hls : s.heap.IsList l vs.toArray := ⟨_, (N _ hl).1, rfl, k, rfl⟩
  have hlen := hD.length
  by_cases h2 : vs.length < 2
  · refine sorted_small hls h2 ?_
    obtain ⟨e, he⟩ := sortedAll_at s.heap vs vs.toArray
    refine h _ e _ vs ds (F.kept fun _ _ => sortedAll_old) (N.kept_cons F (fun _ _ => sortedAll_old) (Nat.le_succ _) he) (fun q hq => Nat.lt_succ_of_lt (Heap.lt_size (N q hq).1)) hD rfl hL ?_
    match ds, hlen with
    | [], _ => exact .nil
    | [_], _ => exact List.pairwise_singleton ..
    | _ :: _ :: _, hlen => simp at hlen; (first | lia | omega)
  · obtain ⟨M, hM0, hM⟩ := pick_bound ds
    refine kat_sorted F N hls (by (first | lia | omega)) h64 fun D e1 h' F' N' lt => ?_
    have live : ∀ p ∈ nd, h'.get? p.1 = some p.2 := fun p hp => (N' p (.tail _ (hnd p hp))).1
    obtain ⟨fs, ht, hfl, hfi⟩ := katTups_of (h := h') live hD hL
    refine kat_kind (T := .type "int") ht (by (first | lia | omega)) (fun v hv => ?_) rfl ?_
    · obtain ⟨n, t, rfl⟩ := hfi v hv
      exact Looks.of_pure rfl
    · show KasT.kasWp (kas_ask prog w A.in1.in1 (tuples' true) vs) (kas_sort vs.length) _ _
      refine sort_wp (n := vs.length) (key := fun i => rankD (ds.getD i .none) * (2 * M + 1) + pickD (ds.getD i .none)) ?_ (by (first | lia | omega)) fun p P hs => ?_
      · intro i j C hi hj hC
        have mi := line_getD hL (o := o) (i := i) (by (first | lia | omega))
        have mj := line_getD hL (o := o) (i := j) (by (first | lia | omega))
        refine line_lt live (datAll_getD hD (i := i) (by (first | lia | omega))) (datAll_getD hD (i := j) (by (first | lia | omega))) (hL _ mi) (hL _ mj) fun b hb => ?_
        have e : b = decide (rankD (ds.getD i .none) * (2 * M + 1) + pickD (ds.getD i .none) < rankD (ds.getD j .none) * (2 * M + 1) + pickD (ds.getD j .none)) := by
          rw [Bool.eq_iff_iff, hb, decide_eq_true_iff, key_iff hM0 hM mi mj]
        rw [e]
        exact hC
      · have pin : ∀ i ∈ p.toList, i < ds.length := fun i hi => by
          have := P.mem_iff.mp (Array.mem_toList_iff.mp hi)
          rw [← hlen]
          simpa using this
        refine KasFin.intro F' N' (.head fun q hq => Nat.ne_of_lt (lt q hq)) fun h'' c F'' N'' => ?_
        refine h D c h'' _ (p.toList.map fun i => ds.getD i .none) F'' N'' lt (datAll_map hD _ pin) ?_ ?_ ?_
        · rw [List.length_map, Array.length_toList, P.size, hlen]
        · intro d hd
          obtain ⟨i, hi, rfl⟩ := List.mem_map.mp hd
          exact hL _ (line_getD hL (o := o) (pin i hi))
        · rw [List.pairwise_map, List.pairwise_iff_getElem]
          intro i j hi hj hij
          have hj' : j < p.size := by simpa using hj
          have z := hs i j (Nat.le_of_lt hij) (by rw [← P.size]; exact hj')
          have ei : p.getD i 0 = p.toList[i] := by simp [Array.getD, Nat.lt_trans hij hj']
          have ej : p.getD j 0 = p.toList[j] := by simp [Array.getD, hj']
          unfold Kp at z
          rw [ei, ej] at z
          dsimp only at z
          have mi := line_getD hL (o := o) (pin _ (List.getElem_mem hi))
          have mj := line_getD hL (o := o) (pin _ (List.getElem_mem hj))
          have := key_iff hM0 hM mj mi
          by_cases c : rankD (ds.getD p.toList[j] .none) < rankD (ds.getD p.toList[i] .none)
          · have := this.mpr (.inl c)
            (first | lia | omega)
          · (first | lia | omega)
end

end
end Mine

namespace Mine
section
open PySem PySem.Calls PySem.W PyProof.Rows
theorem posOf_no : ∀ o : Bool, ∀ n ∈ names false, ∀ i < posOf o n, (names o)[i]? ≠ some n := by decide +kernel
section
variable {prog : Program} {w : World} {A : Around} {E : Value → Shared → Prop} {s : Shared} {h₀ : Heap} {L l : Addr} {m : Str → Option Value} {news : List (Addr × Obj)}
def strEq (n : Str) : Value → Bool
  | .str x _ => decide (x = n)
  | _ => false
theorem strsAre_getE : ∀ {us : List Value} {ss : List Str} {k : Nat} {v : Value}, StrsAre us ss → us[k]? = some v → ∃ x t, ss[k]? = some x ∧ v = .str x t
  | _, _, 0, _, .cons y t _, h => ⟨y, t, rfl, (Option.some.inj h).symm⟩
  | _, _, _ + 1, _, .cons _ _ h, hk => by
    obtain ⟨x, t, a, b⟩ := strsAre_getE h (by simpa using hk)
    exact ⟨x, t, by simpa using a, b⟩
theorem strsAre_len : ∀ {us : List Value} {ss : List Str}, StrsAre us ss → us.length = ss.length
  | _, _, .nil => rfl
  | _, _, .cons _ _ h => congrArg (· + 1) (strsAre_len h)
theorem index_text {us : List Value} {k : Nat} {o : Bool} {n : Str} {t : Tok} {Q : Value → Shared → Prop} (N : News h₀ L s.heap news) (hm : (l, listOf us.toArray k) ∈ news) (hs : StrsAre us (names o)) (hn : n ∈ names false)
    (h : Q (.int (posOf o n : Int) s.toks) { s with toks := s.toks + 1 }) : wpAny (model prog w) A (call (.builtin "list.index") [.ref l, .str n t]) Q E s := by
  obtain ⟨p1, p2⟩ := posOf_at o n hn
  have hlen := strsAre_len hs
  obtain ⟨x, u, e1, e2⟩ := strsAre_get hs (show posOf o n < (names o).length from (List.getElem?_eq_some_iff.mp p2).1)
  rw [p2] at e1
  obtain rfl := Option.some.inj e1
  have hlt : posOf o n < us.length := (List.getElem?_eq_some_iff.mp e2).1
  refine call_meets PySem.F.slot_list_index ⟨_, (N _ hm).1, rfl⟩ PySem.F.entry_list_index (PySem.F.args_list_index_2 _ _)
    (MeetsSeq.list_index l us.toArray k (.str n t) (strEq n) (fun y hy => ?_) (posOf o n) (by simpa using hlt) (by (first | lia | omega)) ?_ (fun i hi hlt' => ?_)) ⟨(N _ hm).1, h⟩
  · have hy' : y ∈ us := by simpa using hy
    obtain ⟨j, hj⟩ := List.getElem?_of_mem hy'
    obtain ⟨x, u', _, rfl⟩ := strsAre_getE hs hj
    exact fun _ _ _ _ _ _ h => wpAny_eqBool_str h
  · have : us.toArray[posOf o n]'(by simpa using hlt) = .str n u := by
      have := List.getElem?_eq_some_iff.mp e2
      simpa using this.2
    rw [this]
    simp [strEq]
  · have hi' : i < us.length := by simpa using hi
    obtain ⟨x, u', f1, f2⟩ := strsAre_getE hs (List.getElem?_eq_getElem hi')
    have e : us.toArray[i] = .str x u' := by simpa using f2
    rw [e]
    simp only [strEq, decide_eq_false_iff_not]
    rintro rfl
    exact posOf_no o x hn i hlt' f1
end
theorem IsTup_of {h : Heap} {a : Addr} {items : Array Value} {k : Nat} (e : h.get? a = some { cls := .type "tuple", data := .seq items k }) : IsTup h a items := ⟨_, e, rfl, k, rfl⟩
theorem isTup_inj {h : Heap} {T : Addr} {a b : Array Value} (x : IsTup h T a) (y : IsTup h T b) : a = b := by
  obtain ⟨o, e, _, n, hd⟩ := x
  obtain ⟨o', e', _, n', hd'⟩ := y
  rw [e] at e'
  obtain rfl := Option.some.inj e'
  rw [hd] at hd'
  injection hd'
inductive RowAt (h : Heap) (ds : List Dat) (i : Nat) : Value → Prop
  | mk (T : Addr) (of : Int) (n : Str) (sp p : Int) (u1 u2 u3 u4 : Tok) (ht : IsTup h T #[.int of u1, .str n u2, .int sp u3, .int p u4]) (hd : ds[i]? = some (.tuple [.int of, .str n, .int sp, .int p])) (hn : n ∈ names false) (h0 : 0 ≤ sp) (h6 : sp < 6) (hb : 1 ≤ of ∧ of ≤ 8) : RowAt h ds i (.ref T)
theorem row_at {h : Heap} {us : List Value} {tl : List (Addr × Obj)} {ds : List Dat} (htl : ∀ p ∈ tl, h.get? p.1 = some p.2) (hD : DatAll tl us ds) (hrow : ∀ d ∈ ds, Row1 d) (i : Nat) (v : Value) (hv : us.toArray[i]? = some v) : RowAt h ds i v := by
  have hv' : us[i]? = some v := by simpa using hv
  have hlt : i < ds.length := by rw [← hD.length]; exact (List.getElem?_eq_some_iff.mp hv').1
  obtain ⟨v', e, hd⟩ := hD.get hlt
  rw [hv'] at e
  obtain rfl := Option.some.inj e
  obtain ⟨of, n, sp, p, ed, hb1, hb2, hn, h0, h6⟩ := hrow _ (List.getElem_mem hlt)
  have hdi : ds[i]? = some ds[i] := List.getElem?_eq_getElem hlt
  rw [ed] at hd hdi
  obtain ⟨ad, kk, u1, u2, u3, u4, rfl, hm⟩ := tup4_inv hd
  exact .mk ad of n sp p u1 u2 u3 u4 (IsTup_of (htl _ hm)) hdi hn h0 h6 ⟨hb1, hb2⟩
theorem row_tup {h : Heap} {ds : List Dat} {i : Nat} {v : Value} (x : RowAt h ds i v) : ∃ T x y z u, v = .ref T ∧ IsTup h T #[x, y, z, u] := by
  cases x with
  | mk T of n sp p u1 u2 u3 u4 ht => exact ⟨T, _, _, _, _, rfl, ht⟩
theorem values_getD : ∀ k, (values.getD k (Str.ofString "")).length ≤ 100 := by
  intro k
  by_cases h : k < values.length
  · rw [List.getD_eq_getElem?_getD, List.getElem?_eq_getElem h]
    exact Nat.le_trans (values_short _ (List.getElem_mem h)) (by decide)
  · rw [List.getD_eq_getElem?_getD, List.getElem?_eq_none (Nat.le_of_not_lt h)]
    decide +kernel
theorem attr_name {w : World} {n : Str} {u : Tok} {b : Value} {p d : Addr} {expr : Bool}
    {dp un : Nat} {gd : Option (List Code)} {cn : Str} {cs : Scope} {fa : Addr} {ccd : Value} {cl : List (Str × Addr)} {outer : List Env} {A₀ : Around} {base h₀ : Heap} {L : Addr} {m : Str → Option Value} {mean : ExcName → Option Value} {mg mb : Str → Option Value} {s : Shared} {Q E : Value → Shared → Prop} {news : List (Addr × Obj)}
    (B : Below A₀ base outer h₀) (F : Fr h₀ L s.heap m) (X₀ : (hd.heap_39 w.params).In h₀) (N : News h₀ L s.heap news) (T : Top hd.view_39 (looseW hd.view_39 [Str.ofString "_tuplegetter", Str.ofString "Pair"]) mean mg mb h₀) (hk : cs.kind = .function)
    (hd : dp + 8 * 3 < recursionLimit) (hu : un + 64 * 3 < cLine) (hp : (p, pairObj d (.str n u) b) ∈ news) (hdx : (d, emptyDict) ∈ news)
    (ret : ∀ h' tk', Fr h₀ L h' m → News h₀ L h' news → Q (.str n u) { s with heap := h', toks := tk' }) :
    wpAny (model Challenge.rw_il0129_01.row.prog w) (ktrTop dp un gd cn cs L fa ccd cl outer) (getAttr (.ref p) (Str.ofString "name") expr) Q E s :=
  attr_pair (con_get0 w _ _ p d) (found_name _) rfl B F X₀ N T hk hd hu hp hdx ret
theorem attr_value {w : World} {n : Str} {u : Tok} {a : Value} {p d : Addr} {expr : Bool}
    {dp un : Nat} {gd : Option (List Code)} {cn : Str} {cs : Scope} {fa : Addr} {ccd : Value} {cl : List (Str × Addr)} {outer : List Env} {A₀ : Around} {base h₀ : Heap} {L : Addr} {m : Str → Option Value} {mean : ExcName → Option Value} {mg mb : Str → Option Value} {s : Shared} {Q E : Value → Shared → Prop} {news : List (Addr × Obj)}
    (B : Below A₀ base outer h₀) (F : Fr h₀ L s.heap m) (X₀ : (hd.heap_39 w.params).In h₀) (N : News h₀ L s.heap news) (T : Top hd.view_39 (looseW hd.view_39 [Str.ofString "_tuplegetter", Str.ofString "Pair"]) mean mg mb h₀) (hk : cs.kind = .function)
    (hd : dp + 8 * 3 < recursionLimit) (hu : un + 64 * 3 < cLine) (hp : (p, pairObj d a (.str n u)) ∈ news) (hdx : (d, emptyDict) ∈ news)
    (ret : ∀ h' tk', Fr h₀ L h' m → News h₀ L h' news → Q (.str n u) { s with heap := h', toks := tk' }) :
    wpAny (model Challenge.rw_il0129_01.row.prog w) (ktrTop dp un gd cn cs L fa ccd cl outer) (getAttr (.ref p) (Str.ofString "value") expr) Q E s :=
  attr_pair (con_get1 w _ _ p d) (found_value _) rfl B F X₀ N T hk hd hu hp hdx ret
/-- the lines' list -/
inductive FileJ (l1 : Addr) (o : Bool) (c : Nat) : List (Addr × Obj) → Prop
  | mk (us : List Value) (tl : List (Addr × Obj)) (k : Nat) (ds : List Dat) (hD : DatAll tl us ds) (hc : ds.length ≤ c) (hl : ∀ d ∈ ds, Line1 o d) (ho : ∀ p ∈ tl, @Ne Nat p.1 l1) : FileJ l1 o c ((l1, listOf us.toArray k) :: tl)
inductive FileK (l1 I : Addr) (oI : Obj) (o : Bool) (c : Nat) : List (Addr × Obj) → Prop
  | mk (us : List Value) (tl : List (Addr × Obj)) (k : Nat) (ds : List Dat) (hD : DatAll tl us ds) (hc : ds.length ≤ c) (hl : ∀ d ∈ ds, Line1 o d) (ho : ∀ p ∈ tl, @Ne Nat p.1 l1) (hI : ∀ p ∈ tl, @Ne Nat p.1 I) : FileK l1 I oI o c ((l1, listOf us.toArray k) :: (I, oI) :: tl)
theorem line_snoc {o : Bool} {ds : List Dat} {n : Str} {sp p : Int} (h : ∀ d ∈ ds, Line1 o d) (hn : n ∈ names false) (h0 : 0 ≤ sp) (h6 : sp < 6) : ∀ d ∈ ds ++ [.tuple [.int (6 * (posOf o n : Int) + sp), .str n, .int sp, .int p]], Line1 o d := fun d hd =>
  (List.mem_append.mp hd).elim (h d) fun hd => List.mem_singleton.mp hd ▸ ⟨n, sp, p, rfl, hn, h0, h6⟩
theorem len_le {α : Type} {l : List α} {d : α} {a b : Nat} (h : l.length ≤ a) (h2 : a + 1 ≤ b) : (l ++ [d]).length ≤ b := by
  rw [List.length_append]
  exact Nat.le_trans (Nat.succ_le_succ h) h2
/-- how often a line is written -/
inductive Often (s : Shared) : Value → Shared → Prop
  | mk (b : Int) (t : Tok) (tk : Nat) (h : 0 ≤ b ∧ b ≤ 2) : Often s (.int b t) { s with toks := tk }
theorem mono_often {M : Model} {A : Around} {t : Sem Value} {Q : Value → Shared → Prop} {E : Value → Shared → Prop} {s : Shared} (h : wpAny M A t (Often s) E s) (k : ∀ b u tk, 0 ≤ b ∧ b ≤ 2 → Q (.int b u) { s with toks := tk }) : wpAny M A t Q E s := wpAny_mono h (fun _ _ x => match x with | .mk b u tk h => k b u tk h) fun _ _ e => e
theorem often_div {of : Int} (h : 1 ≤ of ∧ of ≤ 8) : 0 ≤ of.fdiv 3 ∧ of.fdiv 3 ≤ 2 := by
  rw [Int.fdiv_eq_ediv_of_nonneg _ (by decide)]
  (first | lia | omega)
theorem often_mod {of : Int} : 0 ≤ of.fmod 3 ∧ of.fmod 3 ≤ 2 := ⟨Int.fmod_nonneg_of_pos _ (by decide), Int.le_of_lt_add_one (Int.fmod_lt_of_pos _ (by decide))⟩
/-- what the law's file is: the ranks in order, and the things of those ranks -/
def rankThing (o : Bool) (r : Int) : Dat := thing o ((names o).getD (r.toNat / 6) (Str.ofString "")) (values.getD (r.toNat % 6) (Str.ofString ""))
def RowsIn (r : Addr) (h : Heap) : Prop := ∃ us tl k ds, h.get? r = some (listOf us.toArray k) ∧ (∀ p ∈ tl, h.get? p.1 = some p.2) ∧ DatAll tl us ds ∧ ds.length = 6 ∧ ∀ d ∈ ds, Row1 d
def Ranks (rs : List Int) : Prop := rs.length ≤ 12 ∧ rs.Pairwise (· ≤ ·) ∧ ∀ r ∈ rs, 0 ≤ r ∧ r < 48
theorem range_sz {b : Int} (h : 0 ≤ b ∧ b ≤ 2) : Builtin.Range.small 0 b 1 = true ∧ Builtin.Range.rangeSize 0 b 1 = (b.toNat : Int) := by
  obtain ⟨h0, h2⟩ := h
  have : b = 0 ∨ b = 1 ∨ b = 2 := by (first | lia | omega)
  rcases this with rfl | rfl | rfl <;> decide
section
variable {prog : Program} {w : World} {A : Around} {E : Value → Shared → Prop} {s : Shared} {env : Env} {h₀ : Heap} {body : List Stmt} {Q : Flow → Shared → Prop}
theorem lp_range2 {x : Str} {px : Pos} {r : Addr} {b₀ : Int} {t₀ u₀ v₀ : Tok} {m₀ : Str → Option Value} {news₀ news : List (Addr × Obj)} (stored : List Str) (J : Nat → List (Addr × Obj) → Prop)
    (hh : A.handled = none) (F : Fr h₀ env.locals s.heap m₀) (N : News h₀ env.locals s.heap news) (hr : IsRange s.heap r 0 b₀ 1 t₀ u₀ v₀) (hb : 0 ≤ b₀ ∧ b₀ ≤ 2)
    (hn : ∀ p ∈ news₀, p ∈ news) (hj : J 0 news₀)
    (turn : ∀ (i : Nat) (t : Tok) (u : Str → Option Value) (nx : List (Addr × Obj)) (h : Heap) tk I oI, i < 2 → oI.cls = .type "range_iterator" → J i nx → (∀ p ∈ nx, @Ne Nat p.1 I) → Fr h₀ env.locals h (fun y => if stored.contains y then u y else m₀ y) → News h₀ env.locals h ((I, oI) :: nx) →
      wpAny (model prog w) A (assign (.Name x px) env (.int (0 + (i : Int)) t)) (fun _ s₂ => wpAny (model prog w) A (execs body env)
        (LpPost h₀ env.locals { s with heap := h, toks := tk } (I, oI) (fun m' n' => (∀ z, stored.contains z = false → m' z = m₀ z) ∧ J (i + 1) n') Q) E s₂) E { s with heap := h, toks := tk })
    (done : ∀ (n : Nat) (u : Str → Option Value) (nx : List (Addr × Obj)) (h : Heap) tk, n ≤ 2 → J n nx → Fr h₀ env.locals h (fun y => if stored.contains y then u y else m₀ y) → News h₀ env.locals h nx → Q .next { s with heap := h, toks := tk }) :
    LpIter prog w A h₀ env (.Name x px) body Q E (.ref r) s := by
  obtain ⟨a, b⟩ := range_sz hb
  exact lp_range stored J hh F N hr a b hn hj (fun i t u nx h tk I oI hi => turn i t u nx h tk I oI (by (first | lia | omega))) fun u nx h tk => done _ u nx h tk (by (first | lia | omega))
end
/-- the ledger of the second loop: the ranks' list, the things' list, the sorted lines, and the rest T -/
inductive ThJ (rk th D : Addr) (oD : Obj) (tl3 : List (Addr × Obj)) (o : Bool) (done : List Dat) : List (Addr × Obj) → Prop
  | mk (ras ths : List Value) (T : List (Addr × Obj)) (ka kb : Nat) (hra : IntsAre ras (done.map rankD)) (hth : DatAll T ths (done.map fun d => rankThing o (rankD d))) (hs : ∀ p ∈ tl3, p ∈ T) (h1 : ∀ p ∈ T, @Ne Nat p.1 rk) (h2 : ∀ p ∈ T, @Ne Nat p.1 th) (h3 : ∀ p ∈ T, @Ne Nat p.1 D) :
    ThJ rk th D oD tl3 o done ((rk, listOf (List.toArray ras) ka) :: (th, listOf (List.toArray ths) kb) :: (D, oD) :: T)
theorem ThJ.mem {rk th D : Addr} {oD : Obj} {tl3 : List (Addr × Obj)} {o : Bool} {done : List Dat} {nx : List (Addr × Obj)} (h : ThJ rk th D oD tl3 o done nx) : (D, oD) ∈ nx := by
  cases h
  exact .tail _ (.tail _ (.head _))
theorem rankThing_eq {o : Bool} {n : Str} {sp : Int} (hn : n ∈ names false) (h0 : 0 ≤ sp) (h6 : sp < 6) : rankThing o (6 * (posOf o n : Int) + sp) = thing o n (values.getD sp.toNat (Str.ofString "")) := by
  unfold rankThing
  have e1 : (6 * (posOf o n : Int) + sp).toNat / 6 = posOf o n := by (first | lia | omega)
  have e2 : (6 * (posOf o n : Int) + sp).toNat % 6 = sp.toNat := by (first | lia | omega)
  rw [e1, e2, List.getD_eq_getElem?_getD, (posOf_at o n hn).2]
  rfl
/-- a sorted line -/
inductive LineAt (o : Bool) (h : Heap) (ds : List Dat) (i : Nat) : Value → Prop
  | mk (T : Addr) (n : Str) (sp p : Int) (u1 u2 u3 u4 : Tok) (ht : IsTup h T #[.int (6 * (posOf o n : Int) + sp) u1, .str n u2, .int sp u3, .int p u4]) (hd : ds[i]? = some (.tuple [.int (6 * (posOf o n : Int) + sp), .str n, .int sp, .int p])) (hn : n ∈ names false) (h0 : 0 ≤ sp) (h6 : sp < 6) : LineAt o h ds i (.ref T)
theorem line_at {o : Bool} {h : Heap} {vs : List Value} {tl : List (Addr × Obj)} {ds : List Dat} {i : Nat} {v : Value} (htl : ∀ p ∈ tl, h.get? p.1 = some p.2) (hD : DatAll tl vs ds) (hL : ∀ d ∈ ds, Line1 o d) (hv : vs[i]? = some v) : LineAt o h ds i v := by
  have hlt : i < ds.length := by rw [← hD.length]; exact (List.getElem?_eq_some_iff.mp hv).1
  obtain ⟨v', e, hd⟩ := hD.get hlt
  rw [hv] at e
  obtain rfl := Option.some.inj e
  obtain ⟨n, sp, p, ed, hn, h0, h6⟩ := hL _ (List.getElem_mem hlt)
  have hdi : ds[i]? = some ds[i] := List.getElem?_eq_getElem hlt
  rw [ed] at hd hdi
  obtain ⟨ad, kk, u1, u2, u3, u4, rfl, hm⟩ := tup4_inv hd
  exact .mk ad n sp p u1 u2 u3 u4 (IsTup_of (htl _ hm)) hdi hn h0 h6
theorem fit_of {α β : Type} {f : α → β} {vs : List Value} {l : List α} {i : Nat} (h : vs.length = ((l.take i).map f).length) (h2 : l.length ≤ 12 := by assumption) : vs.length ≤ 100 := by
  rw [h, List.length_map, List.length_take]
  (first | lia | omega)
theorem ranks_of {o : Bool} {ds : List Dat} (hl : ∀ d ∈ ds, Line1 o d) (hs : ds.Pairwise fun a b => rankD a ≤ rankD b) (h12 : ds.length ≤ 12) : Ranks (ds.map rankD) := by
  refine ⟨by rw [List.length_map]; exact h12, List.pairwise_map.mpr hs, fun x hx => ?_⟩
  obtain ⟨d, hd, rfl⟩ := List.mem_map.mp hx
  obtain ⟨n, sp, p, rfl, hn, hsp0, hsp6⟩ := hl d hd
  have := (posOf_at o n hn).1
  simp only [rankD]
  (first | lia | omega)
/-- the post of the law's file -/
inductive FilePost (o : Bool) (g : Heap) : Value → Heap → Prop
  | mk (t : Addr) (k : Nat) (a : Addr) (ka : Nat) (b : Addr) (kb : Nat) (ras : List Value) (rs : List Int) (ths : List Value) (tl : List (Addr × Obj)) (h' : Heap)
    (W : New g h' ((t, ({ cls := .type "tuple", data := .seq #[.ref a, .ref b] k } : Obj)) :: (a, listOf (List.toArray ras) ka) :: (b, listOf (List.toArray ths) kb) :: tl)) (hI : IntsAre ras rs) (hD : DatAll tl ths (rs.map (rankThing o))) (hR : Ranks rs) : FilePost o g (.ref t) h'
local macro_rules | `(tactic| walk_at "execs cons") => `(tactic| (k_here; (try dsimp only); (try k_gentoks); refine execs_hide ?_; intro QQ hQQ))
local macro_rules | `(tactic| walk_at "call ref") => `(tactic| (k_here; refine hold ?_))
local macro_rules | `(tactic| walk_at "getAttr ref") => `(tactic| (k_here; refine hold ?_))
local macro_rules | `(tactic| walk_at "call builtin:list.index") => `(tactic| (k_here; refine hold ?_))
local macro_rules | `(tactic| walk_at "call builtin:list.append") => `(tactic| (k_here; refine hold ?_))
local macro_rules | `(tactic| walk_at "exec For Tuple Name cons nil") => `(tactic| (k_here; refine hold ?_))
local macro_rules | `(tactic| walk_at "exec For Tuple Call cons nil") => `(tactic| (k_here; refine hold ?_))
local macro_rules | `(tactic| walk_at "exec For Name IfExp cons nil") => `(tactic| (k_here; refine hold ?_))
local macro_rules | `(tactic| walk_at "exec For Name Call cons nil") => `(tactic| (k_here; refine hold ?_))
local macro_rules | `(tactic| walk_at "eval IfExp") => `(tactic| (k_here; refine hold ?_))
set_option pp.deepTerms false
set_option pp.deepTerms.threshold 6
set_option pp.maxSteps 6000
set_option maxHeartbeats 800000 in
theorem con_file (w : World) (r : Addr) (sd : Int) (o : Bool) (t1 t2 : Tok) :
    Con Challenge.rw_il0129_01.row.prog w (hd.heap_39 w.params) 214 8 [.ref r, .int sd t1, .int (ordI o) t2] (fun h => RowsIn r h) (FilePost o) := by
    (k_fill; k_dflt (refine' con_enter ?k6 ?k7 ?k9 ?kB ?c5 ?c2 ?c3 ?c4 ?cl ?_; (case k6 => k_is); (case k7 => k_is); (case k9 => first | exact fun _ _ => BindsTo.of_eq rfl | exact fun _ X => binds_K X rfl (by k_is) rfl rfl rfl); (case c5 => decide); (case kB => exact locs rfl); (case c2 => exact rfl); (case c3 => exact rfl); (case c4 => exact rfl); (case cl => decide); k_whole))
    intro dp un gd outer A₀ base mean mg mb s L' h₁ tk B X T hd hu hp F N
    obtain ⟨us, tl, k, ds, hr, htl, hD, hds, hrow⟩ := hp
    have hul := hD.length
    obtain ⟨m0, F⟩ := fr_three F (x := Str.ofString "rows") (y := Str.ofString "side") (z := Str.ofString "order") rfl rfl rfl
    refine hide ?_
    intro Q0 hQ0
    (k_steps; (repeat' (refine hid_ap (by with_reducible assumption) ?_; (try dsimp only); k_steps)))
    rename_i l1 _ _ h1 F1 N1 _ _
    refine ⟨?_⟩
    with_unfolding_all refine' For_lp F1 ?_
    k_steps
    refine lp_list (l := r) (vs := us) (news₀ := [(l1, listOf #[] 0)]) [Str.ofString "often", Str.ofString "name", Str.ofString "spot", Str.ofString "pick", Str.ofString "turn"] (fun i => FileJ l1 o (2 * i))
      rfl F1 N1 (F1.keep _ _ hr) rfl rfl (.inl ⟨_, hr⟩) (fun _ h => h) (.mk [] [] 0 [] .nil (Nat.zero_le _) (fun _ h => nomatch h) alln) ?_ ?_
    · clear F1 N1
      rintro i v u nx h tk I oI hi hcI ⟨us2, tl2, k2, ds2, hD2, hds2, hlin, ho⟩ hne F N
      have hi6 : i < us.length := (List.getElem?_eq_some_iff.mp hi).1
      obtain ⟨T0, of, n, sp, p, u1, u2, u3, u4, hT, hdi, hn, hsp0, hsp6, hb⟩ := row_at htl hD hrow i v (by rw [List.getElem?_toArray]; exact hi)
      have hI1 := hne _ (.head _)
      dsimp only
      refine hide_body ?_
      intro QL hQL
      (k_steps; (repeat' (refine hid_ap (by with_reducible assumption) ?_; (try dsimp only); k_steps)))
      refine ⟨?_⟩
      rename Fr _ _ _ _ => F2
      rename News _ _ _ _ => N2
      with_unfolding_all refine' For_lp F2 ?_
      k_steps
      refine ⟨?_⟩
      refine mono_often ?_ fun b tb tkb hbb => ?_
      · refine IfExp_ ?_
        k_steps
        · exact .mk _ _ _ (often_div hb)
        · exact .mk _ _ _ often_mod
      · dsimp only
        k_steps
        rename_i h3 tk3 t3 u3' v3 R3 F3 N3 K3
        refine lp_range2 (news₀ := (l1, listOf us2.toArray k2) :: (I, oI) :: tl2) [Str.ofString "turn"] (fun j => FileK l1 I oI o (2 * i + j)) rfl F3 N3 R3 hbb swap2 (.mk us2 tl2 k2 ds2 hD2 hds2 hlin ho fun p hp => hne p (.tail _ hp)) ?_ ?_
        · clear F3 N3 R3 K3 hD2 hds2 hlin ho
          rintro j t u5 nx h5 tk5 J oJ hj hcJ ⟨us3, tl3, k3, ds3, hD3, hds3, hlin3, ho3, hx3⟩ hne3 F N
          have hJ1 := hne3 _ (.head _)
          have hJ2 := hne3 _ (.tail _ (.head _))
          dsimp only
          refine hide_body ?_
          intro QM hQM
          (k_steps; (repeat' (refine hid_ap (by with_reducible assumption) ?_; (try dsimp only); k_steps)))
          refine ⟨?_⟩
          rename Fr _ _ _ _ => F4
          rename News _ _ _ _ => N4
          refine (con_names w o _).use B F4 X N4 T rfl (roomD hd (by decide)) (roomU hu (by decide)) trivial ?_
          rintro _ h6 tk6 F6 N6 - ⟨nl, nvs, nk, rfl, W6, D6⟩
          have N6 := W6.news F4 N6
          have S6 := strsAre_dat D6
          obtain ⟨-, nel, -⟩ := allNe_of W6 N4
          clear N4 W6 D6 F4
          dsimp only [List.cons_append, List.nil_append] at N6
          k_steps
          refine ⟨?_⟩
          refine index_text N6 (.head _) S6 hn ?_
          k_steps
          refine ⟨?_⟩
          rename_i D7 h7 F7 N7 lt7
          obtain ⟨-, lt1, lt2, lt3, lt4⟩ := lt7
          have hlen : us3.length ≤ 100 := by rw [hD3.length]; (first | lia | omega)
          refine append_in (own := [(D7, _), (nl, _), (J, oJ)]) (rest := (I, oI) :: tl3) F7 N7 (allc (Nat.ne_of_gt lt2) (allc (Ne.symm nel) (all1 (Ne.symm hJ1)))) (allc (Ne.symm hI1) ho3) hlen fun h8 F8 N8 => ?_
          clear N7
          (k_steps; (repeat' (refine hid_ap (by with_reducible assumption) ?_; (try dsimp only); k_steps)))
          exact LpEnd.intro ((l1, listOf (us3 ++ [Value.ref D7]).toArray (k3 + 1)) :: (I, oI) :: (D7, _) :: tl3) F8 N8 (.tail _ (.tail _ (.head _)))
            (allc (.tail _ (.tail _ (.tail _ (.head _)))) (allc (.tail _ (.tail _ (.tail _ (.tail _ (.head _))))) (allc (.head _) fun p hp => .tail _ (.tail _ (.tail _ (.tail _ (.tail _ hp)))))))
            (allc hJ1 (allc hJ2 (allc (Nat.ne_of_gt lt1) fun p hp => hne3 p (.tail _ (.tail _ hp)))))
            ⟨by (repeat (first | refine keep_put (by decide) ?_ | exact keep_base | refine keep_in (by decide) ?_)); done, .mk _ _ _ _ ((hD3.mono fun p hp => .tail _ hp).append line_dat) (len_le hds3 (Nat.le_refl _)) (line_snoc hlin3 hn hsp0 hsp6) (allc (Nat.ne_of_gt lt2) ho3) (allc (Nat.ne_of_gt lt3) hx3)⟩
        · clear F3 N3 R3 K3 hD2 hds2 hlin ho
          rintro c u5 nx h5 tk5 hc ⟨us3, tl3, k3, ds3, hD3, hds3, hlin3, ho3, hx3⟩ F N
          (k_steps; (repeat' (refine hid_ap (by with_reducible assumption) ?_; (try dsimp only); k_steps)))
          exact LpEnd.intro ((l1, listOf us3.toArray k3) :: tl3) F N (.tail _ (.head _)) mid2 (allc hI1 hx3) ⟨by (repeat (first | refine keep_put (by decide) ?_ | exact keep_base | refine keep_in (by decide) ?_)); done, .mk us3 tl3 k3 ds3 hD3 (by (first | lia | omega)) hlin3 ho3⟩
    · rintro u nx h tk ⟨us3, tl3, k3, ds3, hD3, hds3, hlin3, ho3⟩ F N
      (k_steps; (repeat' (refine hid_ap (by with_reducible assumption) ?_; (try dsimp only); k_steps)))
      rename_i rk _ _ _ lt3 _ _ _ _ th _ lt4 h6 F6 N6 _ _
      obtain ⟨-, c5⟩ := lt3
      obtain ⟨c6, -, c8⟩ := lt4
      have hus : us3.length ≤ 12 := by rw [hD3.length]; (first | lia | omega)
      refine ⟨?_⟩
      with_unfolding_all refine' For_lp F6 ?_
      k_steps
      refine sorted_lines (o := o) F6 N6 (.tail _ (.tail _ (.head _))) (nd := tl3) (fun q hq => .tail _ (.tail _ (.tail _ hq))) hD3 hlin3 (Nat.lt_of_le_of_lt hus (by decide)) ?_
      clear F6 N6
      intro D e h' vs' ds' F' N' lt D' el lin' srt
      have cD : ∀ p ∈ tl3, @Ne Nat p.1 D := fun p hp => Nat.ne_of_lt (lt p (.tail _ (.tail _ (.tail _ hp))))
      have cth := Nat.ne_of_gt (lt _ (.head _))
      have crk := Nat.ne_of_gt (lt _ (.tail _ (.head _)))
      have ctr := Nat.ne_of_gt c6
      dsimp only at cth crk ctr
      refine lp_list (vs := vs') (news₀ := (rk, listOf #[] 0) :: (th, listOf #[] 0) :: (D, listOf vs'.toArray e) :: tl3) [Str.ofString "rank", Str.ofString "name", Str.ofString "spot", Str.ofString "pick", Str.ofString "pair"] (fun i => ThJ rk th D (listOf vs'.toArray e) tl3 o (ds'.take i))
        rfl F' N' (N' _ (.head _)).1 rfl rfl (.inr ⟨_, .head _, fun i nx hJ => hJ.mem⟩) (allc (.tail _ (.tail _ (.head _))) (allc (.tail _ (.head _)) (allc (.head _) fun p hp => .tail _ (.tail _ (.tail _ (.tail _ hp))))))
        (.mk [] [] tl3 0 0 .nil .nil (fun _ h => h) (allNe_all (allNe_lt c5)) (allNe_all (allNe_lt c8)) cD) ?_ ?_
      · clear F' N' lt cD c5 c6 c8
        rintro i v u9 nx h9 tk9 I oI hi hcI ⟨ras, ths, T5, ka, kb, hra, hth, hsub, d1, d2, d3⟩ hne F N
        obtain ⟨T0, n, sp, p, u1, u2, u3, u4, hT, hdi, hn, hsp0, hsp6⟩ := line_at (fun p hp => (N p (.tail _ (.tail _ (.tail _ (.tail _ (hsub p hp)))))).1) D' lin' hi
        have hth1 := hth.length
        have hds12 : ds'.length ≤ 12 := by rw [el, ← hD3.length]; exact hus
        have hra1 := hra.length
        dsimp only
        refine hide_body ?_
        intro QL hQL
        (k_steps; (repeat' (refine hid_ap (by with_reducible assumption) ?_; (try dsimp only); k_steps)))
        refine ⟨?_⟩
        rename Fr _ _ _ _ => F1
        rename News _ _ _ _ => N1
        refine (con_read w _ _ _ _ _ _).use B F1 X N1 T rfl (roomD hd (by decide)) (roomU hu (by decide)) ⟨hn, hsp0, hsp6⟩ ?_
        rintro _ h2 tk2 F2 N2 - ⟨p9, d9, y1, y2, rfl, W2⟩
        have N2 := W2.news F1 N2
        have off2 := New.off N1 W2
        clear N1 F1 W2
        dsimp only [List.cons_append, List.nil_append] at N2
        have hIr := hne _ (.head _)
        have hIt := hne _ (.tail _ (.head _))
        have hID := hne _ (.tail _ (.tail _ (.head _)))
        have fit := fit_of hra1
        have fit2 := fit_of hth1
        have offk := off2.ne (b := rk) (.tail _ (.head _))
        (k_steps; (repeat' (refine hid_ap (by with_reducible assumption) ?_; (try dsimp only); k_steps)))
        refine ⟨?_⟩
        rename Fr _ _ _ _ => F3
        rename News _ _ _ _ => N3
        refine append_in (own := [(p9, _), (d9, _), (I, oI)]) (rest := (th, _) :: (D, _) :: T5) F3 N3 (allc (offk _ (.head _)) (allc (offk _ (.tail _ (.head _))) (all1 (Ne.symm hIr)))) (allc ctr (allc crk d1)) fit fun h4 F4 N4 => ?_
        clear N3 offk off2
        dsimp only [List.cons_append, List.nil_append] at N4
        (k_steps; (repeat' (refine hid_ap (by with_reducible assumption) ?_; (try dsimp only); k_steps)))
        refine ⟨?_⟩
        refine attr_name B F4 X N4 T rfl (roomD hd (by decide)) (roomU hu (by decide)) (.head _) (.tail _ (.head _)) fun h5 tk5 F5 N5 => ?_
        clear F4 N4
        k_steps
        refine ⟨?_⟩
        refine attr_value B F5 X N5 T rfl (roomD hd (by decide)) (roomU hu (by decide)) (.head _) (.tail _ (.head _)) fun h6 tk6 F6 N6 => ?_
        clear F5 N5
        k_steps
        refine ⟨?_⟩
        refine (con_thing w o _ _ _ _ _).use B F6 X N6 T rfl (roomD hd (by decide)) (roomU hu (by decide)) ⟨Nat.le_trans (names_short _ hn) (by decide), values_getD _⟩ ?_
        rintro v9 h7 tk7 F7 N7 - ⟨t9, W7, hv9⟩
        have N7 := W7.news F6 N7
        have off7 := New.off N6 W7
        clear N6 F6 W7
        have N8 : News s.heap L' h7 ((th, listOf ths.toArray kb) :: (I, oI) :: (rk, listOf (ras ++ [Value.int (6 * (posOf o n : Int) + sp) u1]).toArray (ka + 1)) :: (D, listOf vs'.toArray e) :: (t9 ++ T5)) :=
          allc (N7 _ (List.mem_append_right _ (.tail _ (.tail _ (.tail _ (.tail _ (.head _))))))) (allc (N7 _ (List.mem_append_right _ (.tail _ (.tail _ (.head _))))) (allc (N7 _ (List.mem_append_right _ (.tail _ (.tail _ (.tail _ (.head _)))))) (allc (N7 _ (List.mem_append_right _ (.tail _ (.tail _ (.tail _ (.tail _ (.tail _ (.head _)))))))) (alla (fun p hp => N7 p (List.mem_append_left _ hp)) fun p hp => N7 p (List.mem_append_right _ (.tail _ (.tail _ (.tail _ (.tail _ (.tail _ (.tail _ hp)))))))))))
        have off7 := ownOff_cons (ownOff_cons off7)
        have o7I := ownOff_one off7
        have o7r := ownOff_one (ownOff_cons off7)
        have o7t := ownOff_one (ownOff_cons (ownOff_cons off7))
        have o7D := ownOff_one (ownOff_cons (ownOff_cons (ownOff_cons off7)))
        clear N7 off7
        k_steps
        refine ⟨?_⟩
        refine append_in (own := []) F7 N8 alln (allc (Ne.symm hIt) (allc (Ne.symm ctr) (allc cth (alla o7t d2)))) fit2 fun h8 F8 N8 => ?_
        (k_steps; (repeat' (refine hid_ap (by with_reducible assumption) ?_; (try dsimp only); k_steps)))
        have et : ds'.take (i + 1) = ds'.take i ++ [.tuple [.int (6 * (posOf o n : Int) + sp), .str n, .int sp, .int p]] := by rw [List.take_add_one, hdi]; rfl
        refine LpEnd.intro ((rk, listOf (ras ++ [Value.int (6 * (posOf o n : Int) + sp) u1]).toArray (ka + 1)) :: (th, listOf (ths ++ [v9]).toArray (kb + 1)) :: (D, listOf vs'.toArray e) :: (t9 ++ T5)) F8 N8 (.tail _ (.head _))
          (allc (.tail _ (.tail _ (.head _))) (allc (.head _) (allc (.tail _ (.tail _ (.tail _ (.head _)))) fun p hp => .tail _ (.tail _ (.tail _ (.tail _ hp))))))
          (allc hIr (allc hIt (allc hID (alla o7I fun p hp => hne p (.tail _ (.tail _ (.tail _ hp))))))) ⟨by (repeat (first | refine keep_put (by decide) ?_ | exact keep_base | refine keep_in (by decide) ?_)); done, ?_⟩
        rw [et]
        refine .mk _ _ _ _ _ ?_ ?_ (fun p hp => List.mem_append_right _ (hsub p hp)) (alla o7r d1) (alla o7t d2) (alla o7D d3)
        · rw [List.map_append]
          exact hra.append (.cons _ _ .nil)
        · rw [List.map_append]
          refine (hth.mono fun q hq => List.mem_append_right _ hq).append (.one ?_)
          show DatIn _ v9 (rankThing o (6 * (posOf o n : Int) + sp))
          rw [rankThing_eq hn hsp0 hsp6]
          exact hv9.mono fun q hq => List.mem_append_left _ hq
      · clear F' N' lt
        rintro u9 nx h9 tk9 ⟨ras, ths, T5, ka, kb, hra, hth, hsub, d1, d2, d3⟩ F N
        rw [D'.length, List.take_length] at hra hth
        (k_steps; (repeat' (refine hid_ap (by with_reducible assumption) ?_; (try dsimp only); k_steps)))
        rename_i D9 h9 F9 N9 _
        refine ConEnd.intro F9 (.mk D9 _ rk _ th _ ras (ds'.map rankD) ths ((D, _) :: T5) _ (new_of N9) hra (by rw [List.map_map]; exact hth.mono fun q hq => .tail _ hq) (ranks_of lin' srt ?_))
        rw [el]
        (first | lia | omega)

end
end Mine

namespace Mine
section
open PySem PySem.Calls PySem.W PyProof.Rows
def dueStep (ms due : List Int) (r : Int) : List Int := if r ∉ ms ∧ (r ∉ due ∨ ∀ a ∈ (-1 :: ms), a < r) then due ++ [r] else due
def dueOf (ns ms : List Int) : List Int := ns.foldl (dueStep ms) []
theorem dueOf_take {ns ms : List Int} {i : Nat} {r : Int} (h : ns[i]? = some r) : dueOf (ns.take (i + 1)) ms = dueStep ms (dueOf (ns.take i) ms) r := by
  unfold dueOf
  rw [List.take_add_one, h, List.foldl_append]
  rfl
theorem step_in {ms due : List Int} {r : Int} (h : r ∈ ms) : dueStep ms due r = due := if_neg fun c => c.1 h
theorem step_new {ms due : List Int} {r : Int} (h : r ∉ ms) (k : r ∉ due) : dueStep ms due r = due ++ [r] := if_pos ⟨h, .inl k⟩
theorem step_big {ms due : List Int} {r M : Int} (h : r ∉ ms) (k : ∀ a, a ∈ [-1] ++ ms → a ≤ M) (c : M < r) : dueStep ms due r = due ++ [r] := if_pos ⟨h, .inr fun a ha => Int.lt_of_le_of_lt (k a ha) c⟩
theorem step_small {ms due : List Int} {r M : Int} (k : r ∈ due) (hM : M ∈ [-1] ++ ms) (c : ¬ M < r) : dueStep ms due r = due := if_neg fun d => d.2.elim (fun e => e k) fun e => c (e M hM)
theorem dueOf_len (ns ms : List Int) : (dueOf ns ms).length ≤ ns.length := by
  have go : ∀ (ns acc : List Int), (ns.foldl (dueStep ms) acc).length ≤ acc.length + ns.length := by
    intro ns
    induction ns with
    | nil => intro acc; simp
    | cons r ns ih =>
      intro acc
      have := ih (dueStep ms acc r)
      have : (dueStep ms acc r).length ≤ acc.length + 1 := by unfold dueStep; split <;> simp
      simp only [List.foldl_cons, List.length_cons]
      (first | lia | omega)
  simpa [dueOf] using go ns []
section
variable {prog : Program} {w : World} {A : Around} {E : Value → Shared → Prop} {s : Shared} {h₀ : Heap} {L l : Addr} {m : Str → Option Value} {news : List (Addr × Obj)}
def intEq (k : Int) : Value → Bool
  | .int x _ => x == k
  | _ => false
theorem notin_ints {vs : List Value} {ns : List Int} {k : Int} {t : Tok} {Q : Value → Shared → Prop} (hl : s.heap.IsList l vs.toArray) (hi : IntsAre vs ns) (h1 : k ∈ ns → Q (.bool false) s) (h2 : k ∉ ns → Q (.bool true) s) :
    wpAny (model prog w) A (compareOp .NotIn (.int k t) (.ref l)) Q E s := by
  refine PySem.SeqInW.notIn_listW (intEq k) (fun y hy => ?_) hl ?_
  · obtain ⟨x, u, rfl⟩ := ints_are hi y (by simpa using hy)
    exact fun _ _ _ _ _ _ h => wpAny_eqBool_int h
  · have e : vs.toArray.any (intEq k) = decide (k ∈ ns) := by
      have : ∀ {vs : List Value} {ns : List Int}, IntsAre vs ns → vs.any (intEq k) = decide (k ∈ ns) := by
        intro vs ns hi
        induction hi with
        | nil => simp
        | cons n t _ ih =>
          rw [List.any_cons, ih]
          simp only [intEq, List.mem_cons]
          by_cases c : n = k
          · subst c; simp
          · have : ¬ k = n := fun e => c e.symm
            simp [c, this]
      simpa using this hi
    rw [e]
    by_cases c : k ∈ ns
    · rw [decide_eq_true c]; exact h1 c
    · rw [decide_eq_false c]; exact h2 c
end
theorem isList_base {h₀ h : Heap} {L l : Addr} {m : Str → Option Value} {vs : List Value} {k : Nat} (F : Fr h₀ L h m) (e : h₀.get? l = some (listOf vs.toArray k)) : h.IsList l vs.toArray := ⟨_, F.keep _ _ e, rfl, k, rfl⟩
theorem isList_led {h₀ h : Heap} {L l : Addr} {news : List (Addr × Obj)} {vs : List Value} {k : Nat} (N : News h₀ L h news) (e : (l, listOf vs.toArray k) ∈ news) : h.IsList l vs.toArray := ⟨_, (N _ e).1, rfl, k, rfl⟩
theorem dueOf_sub (ns ms : List Int) : ∀ r ∈ dueOf ns ms, r ∈ ns := by
  have go : ∀ (ns acc : List Int), ∀ r ∈ ns.foldl (dueStep ms) acc, r ∈ acc ∨ r ∈ ns := by
    intro ns
    induction ns with
    | nil => intro acc r hr; exact .inl hr
    | cons x ns ih =>
      intro acc r hr
      rcases ih _ r hr with h | h
      · unfold dueStep at h
        split at h
        · rcases List.mem_append.mp h with h | h
          · exact .inl h
          · exact .inr (by simp [List.mem_singleton.mp h])
        · exact .inl h
      · exact .inr (.tail _ h)
  intro r hr
  exact (go ns [] r hr).elim (fun h => nomatch h) id
theorem rankThing_at {o : Bool} {r : Int} {n v : Str} (h0 : 0 ≤ r) (hn : (names o)[(r.fdiv 6).toNat]? = some n) (hv : values[(r.fmod 6).toNat]? = some v) : rankThing o r = thing o n v := by
  rw [Int.fdiv_eq_ediv_of_nonneg _ (by decide)] at hn
  rw [Int.fmod_eq_emod_of_nonneg _ (by decide)] at hv
  have e1 : (r / 6).toNat = r.toNat / 6 := by (first | lia | omega)
  have e2 : (r % 6).toNat = r.toNat % 6 := by (first | lia | omega)
  unfold rankThing
  rw [List.getD_eq_getElem?_getD, List.getD_eq_getElem?_getD, ← e1, ← e2, hn, hv]
  rfl
def ListIn (l : Addr) (vs : List Value) (ns : List Int) (h : Heap) : Prop := (∃ k, h.get? l = some (listOf vs.toArray k)) ∧ IntsAre vs ns
inductive DueJ (dl : Addr) (xs : List (Addr × Obj)) (due : List Int) : List (Addr × Obj) → Prop
  | mk (us : List Value) (k : Nat) (hI : IntsAre us due) : DueJ dl xs due ((dl, listOf (List.toArray us) k) :: xs)
/-- the post -/
inductive DuePost (o : Bool) (rs : List Int) (g : Heap) : Value → Heap → Prop
  | mk (r : Addr) (us : List Value) (k : Nat) (tl : List (Addr × Obj)) (h' : Heap) (W : New g h' ((r, listOf (List.toArray us) k) :: tl)) (hD : DatAll tl us (rs.map (rankThing o))) : DuePost o rs g (.ref r) h'
/-- a test is told; what it made is dropped -/
inductive Tested (g : Heap) (L : Addr) (m : Str → Option Value) (led : List (Addr × Obj)) (c : Prop) (s : Shared) : Bool → Shared → Prop
  | mk (b : Bool) (h : Heap) (tk : Nat) (F : Fr g L h m) (N : News g L h led) (hb : b = true ↔ c) : Tested g L m led c s b { s with heap := h, toks := tk }
theorem if_tested {M : Model} {A : Around} {env : Env} {test : PySem.Expr} {body orelse : List Stmt} {pos : Pos} {Q : Flow → Shared → Prop} {E : Value → Shared → Prop} {s : Shared} {h₁ : Heap} {t₁ : Nat} {g : Heap} {L : Addr} {m : Str → Option Value} (_F : Fr g L h₁ m) (led : List (Addr × Obj)) (c : Prop)
    (h : wpAny M A (isTrue test env (eval test env)) (Tested g L m led c s) E { s with heap := h₁, toks := t₁ })
    (yes : c → ∀ h tk, Fr g L h m → News g L h led → wpAny M A (execs body env) Q E { s with heap := h, toks := tk }) (no : ¬ c → ∀ h tk, Fr g L h m → News g L h led → wpAny M A (execs orelse env) Q E { s with heap := h, toks := tk }) :
    wpAny M A (exec (.If test body orelse pos) env) Q E { s with heap := h₁, toks := t₁ } := by
  refine wpAny_If (wpAny_mono h ?_ fun _ _ e => e)
  rintro b _ ⟨h, tk, F, N, hb⟩
  cases b with
  | true => exact yes (hb.mp rfl) h tk F N
  | false => exact no (fun x => Bool.false_ne_true (hb.mpr x)) h tk F N
theorem int_i {vs : List Value} {ns : List Int} {i : Nat} {v : Value} (h : IntsAre vs ns) (hv : vs[i]? = some v) : ∃ r t, v = .int r t ∧ ns[i]? = some r := by
  have hlt : i < ns.length := by rw [← h.length]; exact (List.getElem?_eq_some_iff.mp hv).1
  obtain ⟨t, e⟩ := h.get i ns[i] (List.getElem?_eq_getElem hlt)
  rw [hv] at e
  exact ⟨_, t, Option.some.inj e, List.getElem?_eq_getElem hlt⟩
theorem fdiv6 {r : Int} (h : 0 ≤ r ∧ r < 48) : 0 ≤ r.fdiv 6 ∧ r.fdiv 6 < 8 := by
  rw [Int.fdiv_eq_ediv_of_nonneg _ (by decide)]
  (first | lia | omega)
theorem sum12 {ms : List Int} (h : ms.length ≤ 12) : [(-1 : Int)].length + ms.length ≤ sizeLine := by rw [sizeLine_eq, List.length_singleton]; (first | lia | omega)
theorem fits {us : List Value} (h : us.length ≤ 100) : us.toArray.size ≤ sizeLine := by rw [List.size_toArray, sizeLine_eq]; (first | lia | omega)
abbrev PD (o : Bool) (rs : List Int) (t : List (Addr × Obj)) (i : Nat) (ys : List Value) : Prop := DatAll t ys ((rs.take i).map (rankThing o))
theorem due12 {ns ms : List Int} {us : List Value} {i : Nat} (h : IntsAre us (dueOf (ns.take i) ms)) (h2 : ns.length ≤ 12) : us.length ≤ 100 := by
  have := dueOf_len (ns.take i) ms
  rw [List.length_take] at this
  rw [h.length]
  (first | lia | omega)
theorem step_yes {ms due : List Int} {r : Int} (h : r ∉ ms ∧ (r ∉ due ∨ ∀ a ∈ (-1 :: ms), a < r)) : dueStep ms due r = due ++ [r] := if_pos h
theorem step_no {ms due : List Int} {r : Int} (h : ¬ (r ∉ ms ∧ (r ∉ due ∨ ∀ a ∈ (-1 :: ms), a < r))) : dueStep ms due r = due := if_neg h
theorem big_iff {ms : List Int} {M r : Int} (hM : M ∈ [-1] ++ ms) (hle : ∀ a, a ∈ [-1] ++ ms → a ≤ M) : (M < r) ↔ ∀ a ∈ (-1 :: ms), a < r := ⟨fun c a ha => Int.lt_of_le_of_lt (hle a ha) c, fun h => h M hM⟩
local macro_rules | `(tactic| walk_at "execs cons") => `(tactic| (k_here; (try dsimp only); (try k_gentoks); refine execs_hide ?_; intro QQ hQQ))
local macro_rules | `(tactic| walk_at "call ref") => `(tactic| (k_here; refine hold ?_))
local macro_rules | `(tactic| walk_at "call builtin:list.append") => `(tactic| (k_here; refine hold ?_))
local macro_rules | `(tactic| walk_at "call builtin:max") => `(tactic| (k_here; refine hold ?_))
local macro_rules | `(tactic| walk_at "binaryOp Add ref ref") => `(tactic| (k_here; refine hold ?_))
local macro_rules | `(tactic| walk_at "compareOp NotIn int ref") => `(tactic| (k_here; refine hold ?_))
local macro_rules | `(tactic| walk_at "subscriptTail") => `(tactic| (k_here; refine hold ?_))
local macro_rules | `(tactic| walk_at "eval ListComp") => `(tactic| (k_here; refine hold ?_))
local macro_rules | `(tactic| walk_at "exec If") => `(tactic| (k_here; refine hold ?_))
local macro_rules | `(tactic| walk_at "storeName") => `(tactic| (k_here; refine holdC rfl ?_))
local macro_rules | `(tactic| walk_at "exec For Name Name cons nil") => `(tactic| (k_here; refine hold ?_))
set_option pp.deepTerms false
set_option pp.deepTerms.threshold 6
set_option pp.maxSteps 6000
set_option maxHeartbeats 400000 in
theorem con_due (w : World) (a b : Addr) (va vb : List Value) (ns ms : List Int) (o : Bool) (t : Tok) :
    Con Challenge.rw_il0129_01.row.prog w (hd.heap_39 w.params) 219 4 [.ref a, .ref b, .int (ordI o) t] (fun h => ListIn a va ns h ∧ ListIn b vb ms h ∧ Ranks ns ∧ Ranks ms) (DuePost o (dueOf ns ms)) := by
    (k_fill; k_dflt (refine' con_enterC ?k6 ?k7 ?k9 ?kB ?kD ?c2 ?c3 ?c4 ?cl ?_; (case k6 => k_is); (case k7 => k_is); (case k9 => first | exact fun _ _ => BindsTo.of_eq rfl | exact fun _ X => binds_K X rfl (by k_is) rfl rfl rfl); (case kD => decide +kernel); (case kB => exact rfl); (case c2 => exact rfl); (case c3 => exact rfl); (case c4 => exact rfl); (case cl => decide); k_whole))
    (intro dp un gd outer A₀ base mean mg mb s L' h₁ tk cells B X T hd hu hp F N Y; k_cells Y; (try simp only [List.cons_append, List.nil_append] at N); (try dsimp only))
    obtain ⟨⟨⟨ka, ha⟩, hia⟩, ⟨⟨kb, hb⟩, hib⟩, hrn, hrm⟩ := hp
    have hal := hia.length
    obtain ⟨m0, F⟩ := fr_three F (x := Str.ofString "mine") (y := Str.ofString "other") (z := Str.ofString "mine") rfl rfl rfl
    refine hide ?_
    intro Q0 hQ0
    (k_steps; (repeat' (refine hid_ap (by with_reducible assumption) ?_; (try dsimp only); k_steps)))
    rename_i o1 o2 o3 d1 d2 d3 dl _ lt3 h4 F4 N4 _ _
    obtain ⟨g1, g2, g3⟩ := lt3
    have gR : ∀ p ∈ [(L' + 1 + 1 + 1, o1), (L' + 1 + 1, o2), (L' + 1, o3)], @Ne Nat p.1 dl := allc (Nat.ne_of_lt g1) (allc (Nat.ne_of_lt g2) (all1 (Nat.ne_of_lt g3)))
    clear g1 g2 g3
    refine ⟨?_⟩
    with_unfolding_all refine' For_lp F4 ?_
    k_steps
    refine lp_list (vs := va) (news₀ := (dl, listOf #[] 0) :: [(L' + 1 + 1 + 1, o1), (L' + 1 + 1, o2), (L' + 1, o3)]) [Str.ofString "rank"] (fun i => DueJ dl [(L' + 1 + 1 + 1, o1), (L' + 1 + 1, o2), (L' + 1, o3)] (dueOf (ns.take i) ms))
      rfl F4 N4 (F4.keep _ _ ha) rfl rfl (.inl ⟨_, ha⟩) (fun _ h => h) (.mk [] 0 .nil) ?_ ?_
    · clear F4 N4
      rintro i v u nx h tk I oI hi hcI ⟨us, k, hus⟩ hne F N
      obtain ⟨r, tv, rfl, hnr⟩ := int_i hia hi
      have hId := hne _ (.head _)
      dsimp only
      refine hide_body ?_
      intro QL hQL
      (k_steps; (repeat' (refine hid_ap (by with_reducible assumption) ?_; (try dsimp only); k_steps)))
      refine ⟨?_⟩
      rename Fr _ _ _ _ => F5
      rename News _ _ _ _ => N5
      refine if_tested (s := s) F5 ((I, oI) :: (dl, listOf us.toArray k) :: [(L' + 1 + 1 + 1, o1), (L' + 1 + 1, o2), (L' + 1, o3)]) (r ∉ ms ∧ (r ∉ dueOf (ns.take i) ms ∨ ∀ a ∈ (-1 :: ms), a < r)) ?_ ?_ ?_
      · clear hQL
        k_steps
        refine ⟨?_⟩
        refine notin_ints (isList_base F5 hb) hib (fun h1 => ?_) fun h1 => ?_
        · k_steps
          exact .mk _ _ _ F5 N5 ⟨fun h => absurd h Bool.false_ne_true, fun c => absurd h1 c.1⟩
        · k_steps
          refine ⟨?_⟩
          refine notin_ints (isList_led N5 (.tail _ (.head _))) hus (fun h2 => ?_) fun h2 => ?_
          · k_steps
            refine ⟨?_⟩
            rename Fr _ _ _ _ => F6
            rename News _ _ _ _ => N6
            refine kmk_add_ints F6 N6 (isList_led N6 (.head _)) (isList_base F6 hb) (.cons _ _ .nil) hib (fun D7 us7 h7 F7 N7 _ hI7 => ?_) (sum12 hrm.1)
            k_steps
            refine ⟨?_⟩
            refine kso_max F7 N7 (isList_led N7 (.head _)) hI7 (Nat.succ_pos _) rfl fun h8 M tM tk8 F8 N8 hM hle => ?_
            k_steps
            all_goals
              rename Fr _ _ _ _ => F9
              rename News _ _ _ _ => N9
              first
                | exact .mk _ _ _ F9 (news_drop (news_drop N9)) ⟨fun _ => ⟨h1, .inr ((big_iff hM hle).mp (by assumption))⟩, fun _ => rfl⟩
                | exact .mk _ _ _ F9 (news_drop (news_drop N9)) ⟨fun h => absurd h Bool.false_ne_true, fun c => c.2.elim (fun e => absurd h2 e) fun e => absurd ((big_iff hM hle).mpr e) (by assumption)⟩
                | exact .mk _ _ _ F9 (news_drop (news_drop N9)) (decide_eq_true_iff.trans ⟨fun e => ⟨h1, .inr ((big_iff hM hle).mp e)⟩, fun c => c.2.elim (fun e => absurd h2 e) (big_iff hM hle).mpr⟩)
          · k_steps
            exact .mk _ _ _ F5 N5 ⟨fun _ => ⟨h1, .inl h2⟩, fun _ => rfl⟩
      · intro c h5 tk5 F6 N6
        clear N5
        (k_steps; (repeat' (refine hid_ap (by with_reducible assumption) ?_; (try dsimp only); k_steps)))
        refine ⟨?_⟩
        refine append_in (own := [(I, oI)]) (rest := [(L' + 1 + 1 + 1, o1), (L' + 1 + 1, o2), (L' + 1, o3)]) F6 N6 (all1 (Ne.symm hId)) gR (due12 hus hrn.1) fun h7 F7 N7 => ?_
        dsimp only [List.cons_append, List.nil_append] at N7
        (k_steps; (repeat' (refine hid_ap (by with_reducible assumption) ?_; (try dsimp only); k_steps)))
        refine LpEnd.intro ((dl, listOf (us ++ [Value.int r tv]).toArray (k + 1)) :: [(L' + 1 + 1 + 1, o1), (L' + 1 + 1, o2), (L' + 1, o3)]) F7 N7 (.head _) (fun q hq => .tail _ hq) (allc hId fun p hp => hne p (.tail _ hp)) ⟨by (repeat (first | refine keep_put (by decide) ?_ | exact keep_base | refine keep_in (by decide) ?_)); done, ?_⟩
        rw [dueOf_take hnr, step_yes c]
        exact .mk _ _ (hus.append (.cons _ _ .nil))
      · intro c h5 tk5 F6 N6
        clear N5
        (k_steps; (repeat' (refine hid_ap (by with_reducible assumption) ?_; (try dsimp only); k_steps)))
        refine LpEnd.intro ((dl, listOf us.toArray k) :: [(L' + 1 + 1 + 1, o1), (L' + 1 + 1, o2), (L' + 1, o3)]) F6 N6 (.head _) (fun q hq => .tail _ hq) hne ⟨by (repeat (first | refine keep_put (by decide) ?_ | exact keep_base | refine keep_in (by decide) ?_)); done, ?_⟩
        rw [dueOf_take hnr, step_no c]
        exact .mk us k hus
    · clear F4 N4
      rintro u nx h tk ⟨us, k, hus⟩ F N
      rw [hal, List.take_length] at hus
      have e3 : o3.data = .cell (some (.int (ordI o) t)) := d3
      (k_steps; (repeat' (refine hid_ap (by with_reducible assumption) ?_; (try dsimp only); k_steps)))
      refine ⟨?_⟩
      refine (con_names w o _).use B F X N T rfl (roomD hd (by decide)) (roomU hu (by decide)) trivial ?_
      rintro _ h2 tk2 F2 N2 - ⟨nl, nvs, nk, rfl, W1, D1⟩
      have N3 := W1.news F N2
      obtain ⟨-, n3, n2, -, -⟩ := allNe_of W1 N
      have S1 := strsAre_dat D1
      clear N2 W1 D1 F N
      dsimp only [List.cons_append, List.nil_append] at N3
      have g3 := Ne.symm (gR _ (.head _))
      have g2 := Ne.symm (gR _ (.tail _ (.head _)))
      (k_steps; (repeat' (refine hid_ap (by with_reducible assumption) ?_; (try dsimp only); k_steps)))
      refine ⟨?_⟩
      refine storeX_C F2 N3 rfl (.tail (Ne.symm n2) (.tail g2 (.tail nn1 (.head (all1 (Ne.symm nn1)))))) d2 (fun h4 p2 F4 N4 e2 => ?_) rfl rfl
      clear F2 N3 d2
      (k_steps; (repeat' (refine hid_ap (by with_reducible assumption) ?_; (try dsimp only); k_steps)))
      refine ⟨?_⟩
      refine (con_values w).use B F4 X N4 T rfl (roomD hd (by decide)) (roomU hu (by decide)) trivial ?_
      rintro _ h5 tk5 F5 N5 - ⟨vl, vvs, vk, rfl, W2, D2⟩
      have N6 := W2.news F4 N5
      obtain ⟨-, -, v3, -⟩ := allNe_of W2 N4
      have S2 := strsAre_dat D2
      clear N5 W2 D2 F4 N4
      dsimp only [List.cons_append, List.nil_append] at N6
      (k_steps; (repeat' (refine hid_ap (by with_reducible assumption) ?_; (try dsimp only); k_steps)))
      refine ⟨?_⟩
      refine storeX_C F5 N6 rfl (.tail (Ne.symm v3) (.tail (Ne.symm n3) (.tail g3 (.head (allc (Ne.symm nn1) (all1 (Ne.symm nn2))))))) d1 (fun h7 p1 F7 N7 e1 => ?_) rfl rfl
      clear F5 N6 d1
      (k_steps; (repeat' (refine hid_ap (by with_reducible assumption) ?_; (try dsimp only); k_steps)))
      refine ⟨?_⟩
      k_dflt (refine listComp_h (F₀ := F7) (by with_unfolding_all rfl) (by decide) (by rfl) (by decide) (by rfl) ?_)
      k_steps
      have hrs : ∀ r ∈ dueOf ns ms, 0 ≤ r ∧ r < 48 := fun r hr => hrn.2.2 r (dueOf_sub ns ms r hr)
      have husl := hus.length
      have hfit : us.length ≤ 100 := by
        have := due12 (i := ns.length) (by rw [List.take_length]; exact hus) hrn.1
        exact this
      generalize hrs0 : dueOf ns ms = rs at hus hrs husl
      have mdl : (dl, listOf us.toArray k) ∈ (vl, listOf vvs.toArray vk) :: (nl, listOf nvs.toArray nk) :: (dl, listOf us.toArray k) :: [(L' + 1 + 1 + 1, p1), (L' + 1 + 1, p2), (L' + 1, o3)] := .tail _ (.tail _ (.head _))
      refine ⟨LCg.CompSrc.ledger (news := (vl, listOf vvs.toArray vk) :: (nl, listOf nvs.toArray nk) :: (dl, listOf us.toArray k) :: [(L' + 1 + 1 + 1, p1), (L' + 1 + 1, p2), (L' + 1, o3)]) rfl F7 N7 mdl (fits hfit) fun g =>
        comp_inv (JB ((vl, listOf vvs.toArray vk) :: (nl, listOf nvs.toArray nk) :: (dl, listOf us.toArray k) :: [(L' + 1 + 1 + 1, p1), (L' + 1 + 1, p2), (L' + 1, o3)]) (PD o rs)) (.start .nil) ?_ ?_⟩
      · clear F7 N7
        rintro i ys nx v I oI C oC D m₂ h tk E' hi ⟨tl, ho, hy⟩ hP hC hx F N off ne
        rw [List.getElem?_toArray] at hP
        obtain ⟨r, tv, rfl, hdi⟩ := int_i hus hP
        have hrr := hrs r (List.mem_of_getElem? hdi)
        have hfd := fdiv6 hrr
        dsimp only [List.cons_append, List.nil_append] at N off
        dsimp only
        refine hide ?_
        intro QE hQE
        k_steps
        refine ⟨?_⟩
        refine text_at N (.tail _ (.tail _ (.tail _ (.tail _ (.head _))))) S1 (names_len8 _) hfd.1 (by rw [names_8]; exact hfd.2) (names_100 _) (fun xn tn hxn hzn => ?_) (by with_unfolding_all rfl)
        k_steps
        refine ⟨?_⟩
        refine text_at N (.tail _ (.tail _ (.tail _ (.head _)))) S2 (by decide +kernel) (Int.fmod_nonneg_of_pos _ (by decide)) (Int.fmod_lt_of_pos _ (by decide)) (by decide) (fun xv tv2 hxv hzv => ?_) (by with_unfolding_all rfl)
        k_steps
        refine ⟨?_⟩
        refine (con_thing w o _ _ _ _ _).use B F X N T rfl (roomD hd (by decide)) (roomU hu (by decide)) ⟨Nat.le_trans hzn (by decide), Nat.le_trans hzv (by decide)⟩ ?_
        rintro v9 h9 tk9 F9 N9 - ⟨tl9, W9, hth9⟩
        refine hid_ap hQE ?_
        refine jb_next F9 (W9.news F N9) off (New.off N W9) ho (.inr ⟨listOf us.toArray k, List.mem_append_left _ mdl, rfl, k, rfl⟩) ?_
        show DatAll _ _ _
        rw [List.take_add_one, hdi, List.map_append]
        have hy : DatAll tl ys ((rs.take i).map (rankThing o)) := hy
        refine (hy.mono fun q hq => List.mem_append_right _ hq).append (.one ?_)
        show DatIn _ v9 (rankThing o r)
        rw [rankThing_at hrr.1 hxn hxv]
        exact hth9.mono fun q hq => List.mem_append_left _ hq
      · clear F7 N7
        rintro ys nx ⟨tl, ho, hy⟩ D h tk F N o1
        have hy : DatAll tl ys ((rs.take us.toArray.size).map (rankThing o)) := hy
        rw [List.size_toArray, husl, List.take_length] at hy
        subst hrs0
        dsimp only
        (k_steps; (repeat' (refine hid_ap (by with_reducible assumption) ?_; (try dsimp only); k_steps)))
        exact ConEnd.intro F (.mk D ys _ _ _ (new_of N) (hy.mono fun q hq => List.mem_append_right _ hq))

end
end Mine

namespace Mine
section
open PySem PySem.Calls PySem.W PyProof.Rows
local macro_rules | `(tactic| walk_at "zz") => `(tactic| fail)
local macro_rules | `(tactic| walk_at "zz") => `(tactic| fail)
local macro_rules | `(tactic| walk_at "zz") => `(tactic| fail)
local macro_rules | `(tactic| walk_at "zz") => `(tactic| fail)
def strLt (x y : Str) : Bool := decide (x.cps.toList < y.cps.toList)
section
variable {prog : Program} {w : World} {A : Around} {E : Value → Shared → Prop} {s : Shared}
def pairLt (x1 x2 y1 y2 : Str) : Bool := if x1 = y1 then (if x2 = y2 then false else strLt x2 y2) else strLt x1 y1
theorem tuple2_lt {a b : Addr} {ka kb : Nat} {x1 x2 y1 y2 : Str} {t1 t2 u1 u2 : Tok} {Q : Value → Shared → Prop} (hu : A.units < cLine)
    (ha : s.heap.get? a = some { cls := .type "tuple", data := .seq #[.str x1 t1, .str x2 t2] ka }) (hb : s.heap.get? b = some { cls := .type "tuple", data := .seq #[.str y1 u1, .str y2 u2] kb })
    (h : Q (.bool (pairLt x1 x2 y1 y2)) s) : wpAny (model prog w) A (compareOp .Lt (.ref a) (.ref b)) Q E s := by
  show wpAny _ _ (richCompare .Lt (.ref a) (.ref b)) Q E s
  refine wpAny_richCompare_same_room (op := .Lt) (T := "tuple") ⟨_, ha, rfl⟩ ⟨_, hb, rfl⟩ PySem.F.slot_tuple_lt (wpAny_call_entry PySem.F.slot_tuple_lt ⟨_, ha, rfl⟩ PySem.F.entry_tuple_lt ?_ (PySem.F.args_tuple_lt_2 _ _)) hu
  show wpAny _ _ (isInstance (.ref b) (.type "tuple") >>= _) _ _ s
  refine wpAny_bind (wpAny_isInstance ⟨_, hb, rfl⟩ isSubtype_tuple_tuple ?_)
  simp only [Bool.not_true, Bool.false_eq_true, if_false]
  refine wpAny_bind (wpAny_tupleItemsOf ha rfl ?_)
  refine wpAny_bind (wpAny_tupleItemsOf hb rfl ?_)
  refine wpAny_bind ?_
  simp only [List.zip_cons_cons, List.zip_nil_right, List.forIn_cons]
  refine wpAny_bind (wpAny_bind (wpAny_eqBool_str ?_))
  unfold pairLt at h
  by_cases e1 : x1 = y1
  · rw [decide_eq_true e1]
    simp only [e1, if_true] at h
    simp only [Bool.not_true, Bool.false_eq_true, if_false]
    refine wpAny_pure ?_
    dsimp only
    refine wpAny_bind (wpAny_bind (wpAny_eqBool_str ?_))
    by_cases e2 : x2 = y2
    · rw [decide_eq_true e2]
      simp only [e2, if_true] at h
      simp only [Bool.not_true, Bool.false_eq_true, if_false]
      refine wpAny_pure ?_
      dsimp only
      rw [List.forIn_nil]
      refine wpAny_pure ?_
      exact wpAny_pure ⟨_, rfl, (fun e => nomatch e), h⟩
    · rw [decide_eq_false e2]
      have e2' : ¬ y2 = x2 := fun e => e2 e.symm
      simp only [e2, e2', if_false] at h
      simp only [Bool.not_false, if_true]
      refine wpAny_bind (wpAny_rule (wpAny_bind ?_))
      exact (show wpAny (model prog w) A.in1 (richCompare .Lt (.str x2 t2) (.str y2 u2)) _ E s from lt_str (wpAny_bind (wpAny_pure (wpAny_pure (wpAny_pure (wpAny_pure ⟨_, rfl, (fun e => nomatch e), h⟩))))))
  · rw [decide_eq_false e1]
    have e1' : ¬ y1 = x1 := fun e => e1 e.symm
    simp only [e1, e1', if_false] at h
    simp only [Bool.not_false, if_true]
    refine wpAny_bind (wpAny_rule (wpAny_bind ?_))
    exact (show wpAny (model prog w) A.in1 (richCompare .Lt (.str x1 t1) (.str y1 u1)) _ E s from lt_str (wpAny_bind (wpAny_pure (wpAny_pure (wpAny_pure (wpAny_pure ⟨_, rfl, (fun e => nomatch e), h⟩))))))
theorem tuple2_gt {a b : Addr} {ka kb : Nat} {x1 x2 y1 y2 : Str} {t1 t2 u1 u2 : Tok} {Q : Value → Shared → Prop} (hu : A.units < cLine)
    (ha : s.heap.get? a = some { cls := .type "tuple", data := .seq #[.str x1 t1, .str x2 t2] ka }) (hb : s.heap.get? b = some { cls := .type "tuple", data := .seq #[.str y1 u1, .str y2 u2] kb })
    (h : Q (.bool (pairLt y1 y2 x1 x2)) s) : wpAny (model prog w) A (compareOp .Gt (.ref a) (.ref b)) Q E s := by
  show wpAny _ _ (richCompare .Gt (.ref a) (.ref b)) Q E s
  refine wpAny_richCompare_same_room (op := .Gt) (T := "tuple") ⟨_, ha, rfl⟩ ⟨_, hb, rfl⟩ PySem.F.slot_tuple_gt (wpAny_call_entry PySem.F.slot_tuple_gt ⟨_, ha, rfl⟩ PySem.F.entry_tuple_gt ?_ (PySem.F.args_tuple_gt_2 _ _)) hu
  show wpAny _ _ (isInstance (.ref b) (.type "tuple") >>= _) _ _ s
  refine wpAny_bind (wpAny_isInstance ⟨_, hb, rfl⟩ isSubtype_tuple_tuple ?_)
  simp only [Bool.not_true, Bool.false_eq_true, if_false]
  refine wpAny_bind (wpAny_tupleItemsOf ha rfl ?_)
  refine wpAny_bind (wpAny_tupleItemsOf hb rfl ?_)
  refine wpAny_bind ?_
  simp only [List.zip_cons_cons, List.zip_nil_right, List.forIn_cons]
  refine wpAny_bind (wpAny_bind (wpAny_eqBool_str ?_))
  unfold pairLt at h
  by_cases e1 : x1 = y1
  · rw [decide_eq_true e1]
    simp only [e1, if_true] at h
    simp only [Bool.not_true, Bool.false_eq_true, if_false]
    refine wpAny_pure ?_
    dsimp only
    refine wpAny_bind (wpAny_bind (wpAny_eqBool_str ?_))
    by_cases e2 : x2 = y2
    · rw [decide_eq_true e2]
      simp only [e2, if_true] at h
      simp only [Bool.not_true, Bool.false_eq_true, if_false]
      refine wpAny_pure ?_
      dsimp only
      rw [List.forIn_nil]
      refine wpAny_pure ?_
      exact wpAny_pure ⟨_, rfl, (fun e => nomatch e), h⟩
    · rw [decide_eq_false e2]
      have e2' : ¬ y2 = x2 := fun e => e2 e.symm
      simp only [e2, e2', if_false] at h
      simp only [Bool.not_false, if_true]
      refine wpAny_bind (wpAny_rule (wpAny_bind ?_))
      exact (show wpAny (model prog w) A.in1 (richCompare .Gt (.str x2 t2) (.str y2 u2)) _ E s from PySem.P.gt_str (wpAny_bind (wpAny_pure (wpAny_pure (wpAny_pure (wpAny_pure ⟨_, rfl, (fun e => nomatch e), h⟩))))))
  · rw [decide_eq_false e1]
    have e1' : ¬ y1 = x1 := fun e => e1 e.symm
    simp only [e1, e1', if_false] at h
    simp only [Bool.not_false, if_true]
    refine wpAny_bind (wpAny_rule (wpAny_bind ?_))
    exact (show wpAny (model prog w) A.in1 (richCompare .Gt (.str x1 t1) (.str y1 u1)) _ E s from PySem.P.gt_str (wpAny_bind (wpAny_pure (wpAny_pure (wpAny_pure (wpAny_pure ⟨_, rfl, (fun e => nomatch e), h⟩))))))
theorem tuple2_eq {a b : Addr} {ka kb : Nat} {x1 x2 y1 y2 : Str} {t1 t2 u1 u2 : Tok} {Q : Value → Shared → Prop} (hu : A.units < cLine)
    (ha : s.heap.get? a = some { cls := .type "tuple", data := .seq #[.str x1 t1, .str x2 t2] ka }) (hb : s.heap.get? b = some { cls := .type "tuple", data := .seq #[.str y1 u1, .str y2 u2] kb })
    (h : Q (.bool (decide (x1 = y1 ∧ x2 = y2))) s) : wpAny (model prog w) A (compareOp .Eq (.ref a) (.ref b)) Q E s := by
  show wpAny _ _ (richCompare .Eq (.ref a) (.ref b)) Q E s
  refine wpAny_richCompare_same_room (op := .Eq) (T := "tuple") ⟨_, ha, rfl⟩ ⟨_, hb, rfl⟩ PySem.F.slot_tuple_eq (wpAny_call_entry PySem.F.slot_tuple_eq ⟨_, ha, rfl⟩ PySem.F.entry_tuple_eq ?_ (PySem.F.args_tuple_eq_2 _ _)) hu
  show wpAny _ _ (isInstance (.ref b) (.type "tuple") >>= _) _ _ s
  refine wpAny_bind (wpAny_isInstance ⟨_, hb, rfl⟩ isSubtype_tuple_tuple ?_)
  simp only [Bool.not_true, Bool.false_eq_true, if_false]
  refine wpAny_bind (wpAny_tupleItemsOf ha rfl ?_)
  refine wpAny_bind (wpAny_tupleItemsOf hb rfl ?_)
  refine wpAny_bind ?_
  simp only [List.zip_cons_cons, List.zip_nil_right, List.forIn_cons]
  refine wpAny_bind (wpAny_bind (wpAny_eqBool_str ?_))
  by_cases e1 : x1 = y1
  · rw [decide_eq_true e1]
    simp only [Bool.not_true, Bool.false_eq_true, if_false]
    refine wpAny_pure ?_
    dsimp only
    refine wpAny_bind (wpAny_bind (wpAny_eqBool_str ?_))
    by_cases e2 : x2 = y2
    · rw [decide_eq_true e2]
      rw [decide_eq_true ⟨e1, e2⟩] at h
      simp only [Bool.not_true, Bool.false_eq_true, if_false]
      refine wpAny_pure ?_
      dsimp only
      rw [List.forIn_nil]
      refine wpAny_pure ?_
      exact wpAny_pure ⟨_, rfl, (fun e => nomatch e), h⟩
    · rw [decide_eq_false e2]
      rw [decide_eq_false fun c => e2 c.2] at h
      simp only [Bool.not_false, if_true]
      exact wpAny_bind (wpAny_pure (wpAny_pure (wpAny_pure (wpAny_pure ⟨_, rfl, (fun e => nomatch e), h⟩))))
  · rw [decide_eq_false e1]
    rw [decide_eq_false fun c => e1 c.1] at h
    simp only [Bool.not_false, if_true]
    exact wpAny_bind (wpAny_pure (wpAny_pure (wpAny_pure (wpAny_pure ⟨_, rfl, (fun e => nomatch e), h⟩))))
end
def nameAt (o : Bool) (i : Nat) : Str := (names o).getD (i / 6) (Str.ofString "")
def valAt (i : Nat) : Str := values.getD (i % 6) (Str.ofString "")
def textAt (i : Nat) : Str := nameAt true i ++ Str.ofString "=" ++ valAt i
theorem texts_lt : ∀ i < 48, ∀ j < 48, strLt (textAt i) (textAt j) = decide (i < j) := by decide +kernel
theorem texts_eq : ∀ i < 48, ∀ j < 48, decide (textAt i = textAt j) = decide (i = j) := by decide +kernel
theorem pairs_lt : ∀ i < 48, ∀ j < 48, pairLt (nameAt false i) (valAt i) (nameAt false j) (valAt j) = decide (i < j) := by decide +kernel
theorem pairs_eq : ∀ i < 48, ∀ j < 48, decide (nameAt false i = nameAt false j ∧ valAt i = valAt j) = decide (i = j) := by decide +kernel
theorem thing_true {nd : List (Addr × Obj)} {v : Value} {r : Int} (h : DatIn nd v (rankThing true r)) : ∃ t, v = .str (textAt r.toNat) t := by
  exact datIn_inv (d := .str (textAt r.toNat)) h
theorem thing_false {nd : List (Addr × Obj)} {v : Value} {r : Int} (h : DatIn nd v (rankThing false r)) :
    ∃ a k t1 t2, v = .ref a ∧ (a, ({ cls := .type "tuple", data := .seq #[.str (nameAt false r.toNat) t1, .str (valAt r.toNat) t2] k } : Obj)) ∈ nd := by
  have h' : DatIn nd v (.tuple [.str (nameAt false r.toNat), .str (valAt r.toNat)]) := h
  obtain ⟨ad, vs, k, rfl, hm, q0⟩ := datIn_inv h'
  obtain ⟨_, _, rfl, ⟨t1, rfl⟩, q1⟩ := datAll_inv q0
  obtain ⟨_, _, rfl, ⟨t2, rfl⟩, q2⟩ := datAll_inv q1
  obtain rfl := datAll_nil q2
  exact ⟨ad, k, t1, t2, rfl, hm⟩
section
variable {prog : Program} {w : World} {A : Around} {E : Value → Shared → Prop} {s : Shared} {n1 n2 : List (Addr × Obj)} {o : Bool} {v1 v2 : Value} {r1 r2 : Int} {Q : Value → Shared → Prop}
theorem thing_lt (hu : A.units < cLine) (h1 : DatIn n1 v1 (rankThing o r1)) (h2 : DatIn n2 v2 (rankThing o r2)) (N1 : ∀ p ∈ n1, s.heap.get? p.1 = some p.2) (N2 : ∀ p ∈ n2, s.heap.get? p.1 = some p.2) (b1 : 0 ≤ r1 ∧ r1 < 48) (b2 : 0 ≤ r2 ∧ r2 < 48)
    (h : Q (.bool (decide (r1 < r2))) s) : wpAny (model prog w) A (compareOp .Lt v1 v2) Q E s := by
  have e : decide (r1 < r2) = decide (r1.toNat < r2.toNat) := decide_eq_decide.mpr (by (first | lia | omega))
  rw [e] at h
  cases o with
  | true =>
    obtain ⟨t1, rfl⟩ := thing_true h1
    obtain ⟨t2, rfl⟩ := thing_true h2
    refine lt_str ?_
    rw [← texts_lt _ (by (first | lia | omega)) _ (by (first | lia | omega))] at h
    exact h
  | false =>
    obtain ⟨a, ka, t1, t2, rfl, m1⟩ := thing_false h1
    obtain ⟨b, kb, u1, u2, rfl, m2⟩ := thing_false h2
    refine tuple2_lt hu (N1 _ m1) (N2 _ m2) ?_
    rw [pairs_lt _ (by (first | lia | omega)) _ (by (first | lia | omega))]
    exact h
theorem thing_gt (hu : A.units < cLine) (h1 : DatIn n1 v1 (rankThing o r1)) (h2 : DatIn n2 v2 (rankThing o r2)) (N1 : ∀ p ∈ n1, s.heap.get? p.1 = some p.2) (N2 : ∀ p ∈ n2, s.heap.get? p.1 = some p.2) (b1 : 0 ≤ r1 ∧ r1 < 48) (b2 : 0 ≤ r2 ∧ r2 < 48)
    (h : Q (.bool (decide (r2 < r1))) s) : wpAny (model prog w) A (compareOp .Gt v1 v2) Q E s := by
  have e : decide (r2 < r1) = decide (r2.toNat < r1.toNat) := decide_eq_decide.mpr (by (first | lia | omega))
  rw [e] at h
  cases o with
  | true =>
    obtain ⟨t1, rfl⟩ := thing_true h1
    obtain ⟨t2, rfl⟩ := thing_true h2
    refine PySem.P.gt_str ?_
    rw [← texts_lt _ (by (first | lia | omega)) _ (by (first | lia | omega))] at h
    exact h
  | false =>
    obtain ⟨a, ka, t1, t2, rfl, m1⟩ := thing_false h1
    obtain ⟨b, kb, u1, u2, rfl, m2⟩ := thing_false h2
    refine tuple2_gt hu (N1 _ m1) (N2 _ m2) ?_
    rw [pairs_lt _ (by (first | lia | omega)) _ (by (first | lia | omega))]
    exact h
theorem thing_eq (hu : A.units < cLine) (h1 : DatIn n1 v1 (rankThing o r1)) (h2 : DatIn n2 v2 (rankThing o r2)) (N1 : ∀ p ∈ n1, s.heap.get? p.1 = some p.2) (N2 : ∀ p ∈ n2, s.heap.get? p.1 = some p.2) (b1 : 0 ≤ r1 ∧ r1 < 48) (b2 : 0 ≤ r2 ∧ r2 < 48)
    (h : Q (.bool (decide (r1 = r2))) s) : wpAny (model prog w) A (compareOp .Eq v1 v2) Q E s := by
  have e : decide (r1 = r2) = decide (r1.toNat = r2.toNat) := decide_eq_decide.mpr (by (first | lia | omega))
  rw [e] at h
  cases o with
  | true =>
    obtain ⟨t1, rfl⟩ := thing_true h1
    obtain ⟨t2, rfl⟩ := thing_true h2
    refine eq_str ?_
    rw [← texts_eq _ (by (first | lia | omega)) _ (by (first | lia | omega))] at h
    rw [show (textAt r1.toNat == textAt r2.toNat) = decide (textAt r1.toNat = textAt r2.toNat) by rw [Bool.eq_iff_iff, beq_iff_eq, decide_eq_true_iff]]
    exact h
  | false =>
    obtain ⟨a, ka, t1, t2, rfl, m1⟩ := thing_false h1
    obtain ⟨b, kb, u1, u2, rfl, m2⟩ := thing_false h2
    refine tuple2_eq hu (N1 _ m1) (N2 _ m2) ?_
    rw [pairs_eq _ (by (first | lia | omega)) _ (by (first | lia | omega))]
    exact h
end
def cmpI (a b : Int) : Int := if a = b then 0 else if a < b then -1 else 1
local macro_rules | `(tactic| walk_at "compareOp") => `(tactic| (k_here; refine hold ?_))
theorem cmp_val {r1 r2 : Int} : b2i (decide (r2 < r1)) - b2i (decide (r1 < r2)) = cmpI r1 r2 := by
  unfold cmpI
  rcases Int.lt_trichotomy r1 r2 with c | c | c
  · rw [decide_eq_true c, decide_eq_false (Int.lt_asymm c), if_neg (Int.ne_of_lt c), if_pos c]; rfl
  · subst c
    rw [decide_eq_false (Int.lt_irrefl _), if_pos rfl]; rfl
  · rw [decide_eq_true c, decide_eq_false (Int.lt_asymm c), if_neg (Int.ne_of_gt c), if_neg (Int.lt_asymm c)]; rfl
set_option pp.deepTerms false
set_option pp.deepTerms.threshold 6
set_option pp.maxSteps 6000
set_option maxHeartbeats 400000 in
theorem con_cmp (w : World) (o : Bool) (v1 v2 : Value) (r1 r2 : Int) (n1 n2 : List (Addr × Obj)) :
    Con Challenge.rw_il0129_01.row.prog w (hd.heap_39 w.params) 35 2 [v1, v2] (fun h => (∀ p ∈ n1, h.get? p.1 = some p.2) ∧ (∀ p ∈ n2, h.get? p.1 = some p.2) ∧ DatIn n1 v1 (rankThing o r1) ∧ DatIn n2 v2 (rankThing o r2) ∧ (0 ≤ r1 ∧ r1 < 48) ∧ (0 ≤ r2 ∧ r2 < 48))
      (fun g v h' => ∃ t, v = .int (cmpI r1 r2) t) := by
    (k_fill; k_dflt (refine' con_enter ?k6 ?k7 ?k9 ?kB ?c5 ?c2 ?c3 ?c4 ?cl ?_; (case k6 => k_is); (case k7 => k_is); (case k9 => first | exact fun _ _ => BindsTo.of_eq rfl | exact fun _ X => binds_K X rfl (by k_is) rfl rfl rfl); (case c5 => decide); (case kB => exact locs rfl); (case c2 => exact rfl); (case c3 => exact rfl); (case c4 => exact rfl); (case cl => decide); k_whole))
    intro dp un gd outer A₀ base mean mg mb s L' h₁ tk B X T hd hu hp F N
    obtain ⟨l1, l2, d1, d2, b1, b2⟩ := hp
    have l1' : ∀ p ∈ n1, h₁.get? p.1 = some p.2 := fun p hp => F.keep _ _ (l1 p hp)
    have l2' : ∀ p ∈ n2, h₁.get? p.1 = some p.2 := fun p hp => F.keep _ _ (l2 p hp)
    k_steps
    refine ⟨?_⟩
    refine thing_gt (by first | exact unitsU (by assumption) | k_units | (dsimp only [ktrTop]; (first | lia | omega)) | (simp only [ktrTop]; (first | lia | omega)) | (simp only [Around.mark_units]; (first | lia | omega)) | (dsimp only [Around.mark]; (first | lia | omega))) d1 d2 l1' l2' b1 b2 ?_
    k_steps
    refine ⟨?_⟩
    refine thing_lt (by first | exact unitsU (by assumption) | k_units | (dsimp only [ktrTop]; (first | lia | omega)) | (simp only [ktrTop]; (first | lia | omega)) | (simp only [Around.mark_units]; (first | lia | omega)) | (dsimp only [Around.mark]; (first | lia | omega))) d1 d2 l1' l2' b1 b2 ?_
    k_steps
    exact ConEnd.intro F ⟨_, congrArg (fun z => Value.int z _) cmp_val⟩

end
end Mine

namespace Mine
section
open PySem PySem.Calls PySem.W PyProof.Rows
local macro_rules | `(tactic| walk_at "zz") => `(tactic| fail)
local macro_rules | `(tactic| walk_at "zz") => `(tactic| fail)
local macro_rules | `(tactic| walk_at "zz") => `(tactic| fail)
local macro_rules | `(tactic| walk_at "zz") => `(tactic| fail)
local macro_rules | `(tactic| walk_at "zz") => `(tactic| fail)
section
variable {prog : Program} {w : World} {A : Around} {E : Value → Shared → Prop} {s : Shared} {h₀ : Heap} {L l : Addr} {m : Str → Option Value} {news : List (Addr × Obj)}
theorem two_cases {p : Array Nat} (P : Pm 2 p) : p.toList = [0, 1] ∨ p.toList = [1, 0] := by
  have hp : p.toList.Perm [0, 1] := Array.perm_iff_toList_perm.mp P
  have hl := hp.length_eq
  have h0 : 0 ∈ p.toList := hp.mem_iff.mpr (by simp)
  have h1 : 1 ∈ p.toList := hp.mem_iff.mpr (by simp)
  match hq : p.toList, hl with
  | [x, y], _ =>
    rw [hq] at h0 h1
    simp only [List.mem_cons, List.not_mem_nil, or_false] at h0 h1
    rcases h0 with rfl | rfl <;> rcases h1 with h | h <;> first | (first | lia | omega) | (subst h; simp)
theorem names_lt : ∀ x ∈ names false, ∀ y ∈ names false, strLt x y = decide (posOf false x < posOf false y) := by decide +kernel
theorem sorted_two {n1 n2 : Str} {t1 t2 : Tok} {k : Nat} {Q : Value → Shared → Prop} (F : Fr h₀ L s.heap m) (N : News h₀ L s.heap news) (hm : (l, listOf #[.str n1 t1, .str n2 t2] k) ∈ news) (hn1 : n1 ∈ names false) (hn2 : n2 ∈ names false)
    (h : ∀ D c h' a b u1 u2, Fr h₀ L h' m → News h₀ L h' ((D, listOf #[.str a u1, .str b u2] c) :: news) → (∀ q ∈ news, q.1 < D) → ((posOf false n1 ≤ posOf false n2 ∧ a = n1 ∧ b = n2) ∨ (posOf false n2 ≤ posOf false n1 ∧ a = n2 ∧ b = n1)) → Q (.ref D) { s with heap := h' }) :
    wpAny (model prog w) A (call (.builtin "sorted") [.ref l]) Q E s := by
  refine kas_sorted (vs := [.str n1 t1, .str n2 t2]) (T := .type "str") F N ⟨_, (N _ hm).1, rfl, k, rfl⟩ (Nat.le_refl _) (by simp) (fun h _ _ v hv => ?_) rfl fun D e1 h' F' N' lt => ?_
  · simp only [List.mem_cons, List.not_mem_nil, or_false] at hv
    rcases hv with rfl | rfl <;> exact Looks.of_pure rfl
  · refine sort_wp (n := 2) (key := fun i => (posOf false (if i = 0 then n1 else n2) : Int)) ?_ (by decide) fun p P hs => ?_
    · intro i j C hi hj hC
      have e : ∀ i, i < 2 → ∃ t, ([Value.str n1 t1, Value.str n2 t2] : List Value).getD i Value.none = .str (if i = 0 then n1 else n2) t := by
        intro i hi
        have : i = 0 ∨ i = 1 := by (first | lia | omega)
        rcases this with rfl | rfl
        · exact ⟨_, rfl⟩
        · exact ⟨_, rfl⟩
      have hmem : ∀ i : Nat, (if i = 0 then n1 else n2) ∈ names false := fun i => by split <;> assumption
      obtain ⟨ti, ei⟩ := e i hi
      obtain ⟨tj, ej⟩ := e j hj
      unfold kas_ask
      rw [ei, ej]
      refine kas_lt_str ?_
      have := names_lt _ (hmem i) _ (hmem j)
      unfold strLt at this
      rw [this, show decide (posOf false (if i = 0 then n1 else n2) < posOf false (if j = 0 then n1 else n2)) = decide ((posOf false (if i = 0 then n1 else n2) : Int) < (posOf false (if j = 0 then n1 else n2) : Int)) from decide_eq_decide.mpr (by (first | lia | omega))]
      exact hC
    · have hsz := P.size
      have h01 := hs 0 1 (by decide) (by decide)
      unfold Kp at h01
      rcases two_cases P with e | e
      · have e0 : p.getD 0 0 = 0 := by simp [Array.getD, hsz, ← Array.getElem_toList, e]
        have e1 : p.getD 1 0 = 1 := by simp [Array.getD, hsz, ← Array.getElem_toList, e]
        rw [e0, e1] at h01
        simp at h01
        rw [e]
        exact KasFin.intro F' N' (.head fun q hq => Nat.ne_of_lt (lt q hq)) fun h'' c F'' N'' => h D c h'' n1 n2 t1 t2 F'' N'' lt (.inl ⟨h01, rfl, rfl⟩)
      · have e0 : p.getD 0 0 = 1 := by simp [Array.getD, hsz, ← Array.getElem_toList, e]
        have e1 : p.getD 1 0 = 0 := by simp [Array.getD, hsz, ← Array.getElem_toList, e]
        rw [e0, e1] at h01
        simp at h01
        rw [e]
        exact KasFin.intro F' N' (.head fun q hq => Nat.ne_of_lt (lt q hq)) fun h'' c F'' N'' => h D c h'' n2 n1 t2 t1 F'' N'' lt (.inr ⟨h01, rfl, rfl⟩)
end
def turnedS (a b : Str) : Bool := (a != b) && ((Txt.slice b none (some (a.length : Int)) == a) && strLt (Txt.item b (a.length : Int)) (Str.ofString "="))
def turnedOf (n1 n2 : Str) : Bool := if posOf false n1 ≤ posOf false n2 then turnedS n1 n2 else turnedS n2 n1
theorem turned_pos : ∀ a ∈ names false, ∀ b ∈ names false, posOf false a ≤ posOf false b → posOf false b ≤ posOf false a → turnedS a b = turnedS b a := by decide +kernel
theorem turned_1 {a b : Str} (h : (a != b) = true) (k : (Txt.slice b none (some (a.length : Int)) == a) = true) : decide ((Txt.item b (a.length : Int)).cps.toList < (Str.ofString "=").cps.toList) = turnedS a b := by
  unfold turnedS
  rw [h, k]
  rfl
theorem turned_2 {a b : Str} (h : (a != b) = true) (k : (Txt.slice b none (some (a.length : Int)) == a) = false) : (Txt.slice b none (some (a.length : Int)) == a) = turnedS a b := by
  unfold turnedS
  rw [h, k]
  rfl
theorem turned_3 {a b : Str} (h : (a != b) = false) : (a != b) = turnedS a b := by
  unfold turnedS
  rw [h]
  rfl
theorem turned_room : ∀ a ∈ names false, ∀ b ∈ names false, (a != b) = true → (Txt.slice b none (some (a.length : Int)) == a) = true → (Txt.charAt b (a.length : Int)).isSome = true := by decide +kernel
theorem names_fit : ∀ a ∈ names false, fitsSsize (a.length : Int) = true := by decide +kernel
section
variable {prog : Program} {w : World} {A : Around} {E : Value → Shared → Prop} {s : Shared}
theorem str_tail {value slice : PySem.Expr} {b : Str} {t : Tok} {i : Int} {u : Tok} {Q : Value → Shared → Prop} (h0 : fitsSsize i = true) (hin : (Txt.charAt b i).isSome = true) (h : Q (.str (Txt.item b i) s.toks) { s with toks := s.toks + 1 })
    (hsb : subscripted slice false (.str b t) (.int i u) = operate [.str b t, .int i u] (getItem (.str b t) (.int i u)) := by with_unfolding_all rfl) :
    wpAny (model prog w) A (subscriptTail value slice (.str b t) (.int i u)) Q E s := tail_any (typeIs_str s b t) PySem.F.slot_str_getitem.lookup (PySem.SB.getItem h0 hin h) hsb
end
local macro_rules | `(tactic| walk_at "execs cons") => `(tactic| (k_here; (try dsimp only); (try k_gentoks); refine execs_hide ?_; intro QQ hQQ))
local macro_rules | `(tactic| walk_at "subscriptTail") => `(tactic| (k_here; refine hold ?_))
set_option pp.deepTerms false
set_option pp.deepTerms.threshold 6
set_option pp.maxSteps 6000
set_option maxHeartbeats 400000 in
theorem con_turn (w : World) (n1 n2 : Str) (t1 t2 : Tok) :
    Con Challenge.rw_il0129_01.row.prog w (hd.heap_39 w.params) 226 3 [.str n1 t1, .str n2 t2] (fun _ => n1 ∈ names false ∧ n2 ∈ names false)
      (fun g v h' => v = .bool (turnedOf n1 n2)) := by
    (k_fill; k_dflt (refine' con_enter ?k6 ?k7 ?k9 ?kB ?c5 ?c2 ?c3 ?c4 ?cl ?_; (case k6 => k_is); (case k7 => k_is); (case k9 => first | exact fun _ _ => BindsTo.of_eq rfl | exact fun _ X => binds_K X rfl (by k_is) rfl rfl rfl); (case c5 => decide); (case kB => exact locs rfl); (case c2 => exact rfl); (case c3 => exact rfl); (case c4 => exact rfl); (case cl => decide); k_whole))
    intro dp un gd outer A₀ base mean mg mb s L' h₁ tk B X T hd hu hp F N
    obtain ⟨hn1, hn2⟩ := hp
    obtain ⟨m0, F⟩ := fr_three F (x := Str.ofString "one") (y := Str.ofString "other") (z := Str.ofString "one") rfl rfl rfl
    refine hide ?_
    intro Q0 hQ0
    (k_steps; (repeat' (refine hid_ap (by with_reducible assumption) ?_; (try dsimp only); k_steps)))
    rename Fr _ _ _ _ => F1
    rename News _ _ _ _ => N1
    refine sorted_two F1 N1 (.head _) hn1 hn2 fun D c h' a b u1 u2 F' N' lt hab => ?_
    have hmem : a ∈ names false ∧ b ∈ names false := hab.elim (fun h => h.2.1 ▸ h.2.2 ▸ ⟨hn1, hn2⟩) fun h => h.2.1 ▸ h.2.2 ▸ ⟨hn2, hn1⟩
    have htr : turnedOf n1 n2 = turnedS a b := by
      unfold turnedOf
      rcases hab with ⟨c, rfl, rfl⟩ | ⟨c, rfl, rfl⟩
      · rw [if_pos c]
      · by_cases d : posOf false b ≤ posOf false a
        · rw [if_pos d]; exact turned_pos _ hmem.2 _ hmem.1 d c
        · rw [if_neg d]
    clear hab
    obtain ⟨ha, hb⟩ := hmem
    have hz1 := names_short a ha
    have hz2 := names_short b hb
    (k_steps; (repeat' (refine hid_ap (by with_reducible assumption) ?_; (try dsimp only); k_steps)))
    · refine ⟨?_⟩
      rename (a != b) = true => e1
      rename (_ == a) = true => e2
      refine str_tail (names_fit _ ha) (turned_room _ ha _ hb e1 e2) ?_ (by with_unfolding_all rfl)
      (k_steps; (repeat' (refine hid_ap (by with_reducible assumption) ?_; (try dsimp only); k_steps)))
      exact ConEnd.intro (by k_asm) (congrArg Value.bool ((turned_1 e1 e2).trans htr.symm))
    · exact ConEnd.intro (by k_asm) (congrArg Value.bool ((turned_2 (by assumption) (by assumption)).trans htr.symm))
    · exact ConEnd.intro (by k_asm) (congrArg Value.bool ((turned_3 (by assumption)).trans htr.symm))
theorem told_nat : ∀ n1 ∈ names false, ∀ n2 ∈ names false, ∀ s1 < 6, ∀ s2 < 6, cmpI (6 * (posOf true n1 : Int) + (s1 : Nat)) (6 * (posOf true n2 : Int) + (s2 : Nat)) =
    if turnedOf n1 n2 then - cmpI (6 * (posOf false n1 : Int) + (s1 : Nat)) (6 * (posOf false n2 : Int) + (s2 : Nat)) else cmpI (6 * (posOf false n1 : Int) + (s1 : Nat)) (6 * (posOf false n2 : Int) + (s2 : Nat)) := by decide +kernel
theorem told_law {n1 n2 : Str} {s1 s2 : Int} (h1 : n1 ∈ names false) (h2 : n2 ∈ names false) (a1 : 0 ≤ s1) (a2 : s1 < 6) (b1 : 0 ≤ s2) (b2 : s2 < 6) : cmpI (6 * (posOf true n1 : Int) + s1) (6 * (posOf true n2 : Int) + s2) =
    if turnedOf n1 n2 then - cmpI (6 * (posOf false n1 : Int) + s1) (6 * (posOf false n2 : Int) + s2) else cmpI (6 * (posOf false n1 : Int) + s1) (6 * (posOf false n2 : Int) + s2) := by
  have := told_nat n1 h1 n2 h2 s1.toNat (by (first | lia | omega)) s2.toNat (by (first | lia | omega))
  rw [Int.toNat_of_nonneg a1, Int.toNat_of_nonneg b1] at this
  exact this

end
end Mine

namespace Mine
section
open PySem PySem.Calls PySem.W PyProof.Rows PyProof.Rows.LCg
section
variable {prog : Program} {w : World} {A : Around} {E : Value → Shared → Prop} {s : Shared}
/-- unpacking a tuple of four into four names -/
theorem assign4 {env : Env} {a b c d : Str} {pa pb pc pd tp : Pos} {kk : Nat} {T : Addr} {x y z u : Value} {m : Str → Option Value} {Q : Unit → Shared → Prop} (hh : A.handled = none) (ht : s.heap.IsTuple T #[x, y, z, u])
    (ha : env.kindOf a = some .local) (hb : env.kindOf b = some .local) (hc : env.kindOf c = some .local) (hd : env.kindOf d = some .local) (hp : (env.scope.kind == .class || (env.scope.kind == .module && env.locals != env.globals)) = false) (hn : s.heap.Ns env.locals m)
    (h : ∀ (h' : Heap) (tk : Nat), h'.Ns env.locals (fun q => if q = d then some u else if q = c then some z else if q = b then some y else if q = a then some x else m q) → (∀ e o, e ≠ env.locals → s.heap.get? e = some o → h'.get? e = some o) → Q () { s with heap := h', toks := tk }) :
    wpAny (model prog w) A (assign (.Tuple [.Name a pa, .Name b pb, .Name c pc, .Name d pd] kk tp) env (.ref T)) Q E s := by
  refine wpAny_assign_Tuple hh ht rfl rfl fun h₁ he₁ => ?_
  have hL : env.locals ≠ s.heap.objs.size := Nat.ne_of_lt hn.lt
  have hn₁ : h₁.Ns env.locals m := hn.at' fun o e => he₁ _ o hL e
  have up₁ : ∀ c o, s.heap.get? c = some o → h₁.get? c = some o := fun c o e => he₁ c o (Nat.ne_of_lt (Heap.lt_size e)) e
  show wpAny _ _ (assignInOrder [assign (.Name a pa) env, assign (.Name b pb) env, assign (.Name c pc) env, assign (.Name d pd) env] [x, y, z, u]) _ _ _
  refine assignInOrder_cons (wpAny_assign_Name (wpAny_storeName_local ha hn₁ (fun h₂ hn₂ hs₂ => ?_) hp))
  refine assignInOrder_cons (wpAny_assign_Name (wpAny_storeName_local hb hn₂ (fun h₃ hn₃ hs₃ => ?_) hp))
  refine assignInOrder_cons (wpAny_assign_Name (wpAny_storeName_local hc hn₃ (fun h₄ hn₄ hs₄ => ?_) hp))
  refine assignInOrder_cons (wpAny_assign_Name (wpAny_storeName_local hd hn₄ (fun h₅ hn₅ hs₅ => ?_) hp))
  refine assignInOrder_nil ?_
  exact h h₅ _ hn₅ fun c o hc e => hs₅.extBut c o hc (hs₄.extBut c o hc (hs₃.extBut c o hc (hs₂.extBut c o hc (up₁ c o e))))
end
def Four (a b c d : Str) (its : Array Value) (m : Str → Option Value) : Prop := ∃ x y z u, its = #[x, y, z, u] ∧ m a = some x ∧ m b = some y ∧ m c = some z ∧ m d = some u
section
variable {prog : Program} {w : World} {A : Around} {E : Value → Shared → Prop} {s : Shared} {h₀ : Heap} {L : Addr} {m : Str → Option Value} {env : Env}
theorem block4 {elt iter : PySem.Expr} {a b c d : Str} {pa pb pc pd tp : Pos} {kk : Nat} {scope : Scope} {cl : List (Str × Addr)} {pos : Pos} {s₂ : Shared} {I ax : Addr} {its : Array Value} {news : List (Addr × Obj)}
    {Fin : List Value → List (Addr × Obj) → Prop} {RR : Value → Addr → Result → Shared → Prop} (J : Nat → List Value → List (Addr × Obj) → Prop)
    (hh : A.handled = none) (hl : h₀.IsList ax its) (hne : ax ≠ I) (hsz : its.size ≤ sizeLine) (hit : s₂.heap.IsListIter I ax 0)
    (htup : ∀ (i : Nat) (v : Value), its[i]? = some v → ∃ T x y z u, v = .ref T ∧ IsTup h₀ T #[x, y, z, u])
    (hcell : ∀ y ∈ scope.names, y.2 ≠ .cell) (hkind : scope.kind = .function) (hxa : scope.names.lookup a = some .local) (hxb : scope.names.lookup b = some .local) (hxc : scope.names.lookup c = some .local) (hxd : scope.names.lookup d = some .local) (hdis : [a, b, c, d].Nodup)
    (F : Fr h₀ L s₂.heap m) (N : News h₀ L s₂.heap news) (hIL : L ≠ I) (hI₀ : h₀.get? I = none) (off : ∀ p ∈ news, p.1 ≠ I) (h0 : J 0 [] news)
    (turn : ∀ i ys news v T x y z u I oI C oC D m₂ h tk (E' : Value → Shared → Prop), i < its.size → J i ys news → its[i]? = some v → v = .ref T → IsTup h₀ T #[x, y, z, u] → NsObj oC m₂ → m₂ a = some x → m₂ b = some y → m₂ c = some z → m₂ d = some u →
      Fr h₀ L h m → News h₀ L h ((I, oI) :: (C, oC) :: (D, lst ys) :: news) → Off3 I C D news → ((@Ne Nat I C) ∧ (@Ne Nat I D) ∧ (@Ne Nat C D)) →
      wpAny (model prog w) A (eval elt (compEnvC scope cl C env)) (CompEnd h₀ L m { s₂ with heap := h, toks := tk } I oI C oC D (lst ys) (fun _ => True) (fun y news' => J (i + 1) (ys ++ [y]) news')) E' { s₂ with heap := h, toks := tk })
    (fin : ∀ ys news, J its.size ys news → Fin ys news)
    (hRR : ∀ D C h tk m' ys news', Fr h₀ L h m → News h₀ L h ((D, lst ys) :: news') → Off1 D news' → h.Ns C m' → h₀.get? C = none → h₀.get? D = none → C ≠ L → D ≠ L → C ≠ D → (∀ p ∈ news', p.1 ≠ C) → Fin ys news' → RR (.ref D) C (.ok .next) { s₂ with heap := h, toks := tk }) :
    wpAny (model prog w) A (newList []) (fun acc s₃ => wpAny (model prog w) A (newFunctionEnv scope env.globals cl [] env.qual none .none (some env)) (fun cenv s₄ =>
      codeAny (model prog w) A (.compStart (.ListComp elt [⟨.Tuple [.Name a pa, .Name b pb, .Name c pc, .Name d pd] kk tp, iter, [], 0⟩] scope pos) 0 (.ref I) acc { cenv with scope := relabel scope env }) (RR acc cenv.locals) s₄) E s₃) E s₂ := by
  have W := Walks.list (prog := prog) (w := w) hh I ax hne its
  refine wpAny_newObj_type (wpAny_newFunctionEnv hcell (by intro y hy; simp at hy) (fun h₁ hns₁ hsb₁ => ?_) hkind)
  dsimp only at hns₁ hsb₁ ⊢
  generalize hH2 : s₂.heap.push { cls := .type "list", dict := none, data := .seq ([] : List Value).toArray } = H2 at hns₁ hsb₁ ⊢
  have hC : H2.objs.size = s₂.heap.objs.size + 1 := by rw [← hH2, Heap.size_push]
  have hDC : s₂.heap.objs.size ≠ H2.objs.size := by rw [hC]; exact Nat.ne_of_lt (Nat.lt_succ_self _)
  have below : ∀ b, b < s₂.heap.objs.size → b ≠ H2.objs.size ∧ b ≠ s₂.heap.objs.size := fun b hb => ⟨by rw [hC]; exact Nat.ne_of_lt (Nat.lt_succ_of_lt hb), Nat.ne_of_lt hb⟩
  have hIlt : I < s₂.heap.objs.size := by obtain ⟨_, e, _⟩ := hit; exact Heap.lt_size e
  have old : ∀ b o, s₂.heap.get? b = some o → h₁.get? b = some o := fun b o e => hsb₁.extBut b o (below b (Heap.lt_size e)).1 (Heap.get?_push_of_some _ (hH2 ▸ Heap.get?_push_of_some _ e))
  have hacc : h₁.get? s₂.heap.objs.size = some (lst []) := hsb₁.extBut _ _ hDC (Heap.get?_push_of_some _ (hH2 ▸ Heap.get?_push_size _ rfl))
  have fresh₀ : ∀ a, s₂.heap.objs.size ≤ a → h₀.get? a = none := fun a ha => by
    cases e : h₀.get? a with
    | none => rfl
    | some o' => exact absurd (Heap.lt_size (F.keep a o' e)) (Nat.not_lt.mpr ha)
  have hD₀ : h₀.get? s₂.heap.objs.size = none := fresh₀ _ (Nat.le_refl _)
  have hC₀ : h₀.get? H2.objs.size = none := fresh₀ _ (by rw [hC]; exact Nat.le_succ _)
  have hLlt : L < s₂.heap.objs.size := F.ns.lt
  have hDL : s₂.heap.objs.size ≠ L := Ne.symm (below L hLlt).2
  have hCL : H2.objs.size ≠ L := Ne.symm (below L hLlt).1
  have hCI : I ≠ H2.objs.size := (below I hIlt).1
  have hDI : I ≠ s₂.heap.objs.size := (below I hIlt).2
  have off₀ : Off3 I H2.objs.size s₂.heap.objs.size news := Off3.of fun p hp => ⟨off p hp, (below _ (Heap.lt_size (N p hp).1)).1, (below _ (Heap.lt_size (N p hp).1)).2⟩
  have hit₁ : h₁.IsListIter I ax 0 := hit.at fun o e => old _ _ e
  have loop : ∀ s₃ : Shared, s₃ = { s₂ with heap := h₁, toks := s₂.toks + ([] : List (Str × Value)).length } →
      codeAny (model prog w) A (.compLoop (.ListComp elt [⟨.Tuple [.Name a pa, .Name b pb, .Name c pc, .Name d pd] kk tp, iter, [], 0⟩] scope pos) 0 (.ref I) (.ref s₂.heap.objs.size) (compEnvC scope cl H2.objs.size env))
        (RR (.ref s₂.heap.objs.size) H2.objs.size) s₃ := by
    rintro s₃ rfl
    refine kcp_loop
      (fun k s' => ∃ h' tk i ys m' news', s' = { s₂ with heap := h', toks := tk } ∧ i ≤ its.size ∧ k = its.size + 1 - i ∧ ys.length = i ∧ h'.IsListIter I ax i ∧ Fr h₀ L h' m ∧ h'.Ns H2.objs.size m' ∧
        News h₀ L h' ((s₂.heap.objs.size, lst ys) :: news') ∧ Off3 I H2.objs.size s₂.heap.objs.size news' ∧ J i ys news') ?_ (its.size + 1)
      ⟨h₁, _, 0, [], _, news, rfl, Nat.zero_le _, rfl, rfl, hit₁, F.keeps old, hns₁, fun p hp => ?_, off₀, h0⟩
    · rintro k s' ⟨h', tk, i, ys, m', news', rfl, hi, rfl, hyl, hit', F', hn', N', off', hJ⟩
      have off3 := off'.mem
      have hl' : h'.IsList ax its := hl.at fun o e => F'.keep ax o e
      by_cases hlt : i < its.size
      · refine W.item i _ _ _ hlt ⟨hit', hl'⟩ fun v h₂ tk₂ hPv hst₂ hk₂ => ?_
        refine letGo_listiter hst₂.1 ?_
        obtain ⟨T, x, y, z, u, rfl, hT⟩ := htup i v hPv
        have up₂ : ∀ c o, c ≠ I → h'.get? c = some o → h₂.get? c = some o := fun c o hc e => hk₂ c o (by simpa using hc) e
        have base₂ : ∀ b o, h₀.get? b = some o → h₂.get? b = some o := fun b o e => up₂ b o (fun q => by rw [q, hI₀] at e; cases e) (F'.keep b o e)
        have hT₂ : h₂.IsTuple T #[x, y, z, u] := by
          obtain ⟨o, e, r⟩ := hT
          exact ⟨o, base₂ T o e, r⟩
        refine assign4 (env := compEnvC scope cl H2.objs.size env) hh hT₂ (lookup_relabel_local hxa) (lookup_relabel_local hxb) (lookup_relabel_local hxc) (lookup_relabel_local hxd) (by simp [compEnvC, relabel, hkind]) (hn'.at' fun o e => up₂ _ o (Ne.symm hCI) e) fun h₃ tk₃ hn₃ hs₃ => ?_
        have up : ∀ c o, c ≠ I → c ≠ H2.objs.size → h'.get? c = some o → h₃.get? c = some o := fun c o h1 h2 e => hs₃ c o h2 (up₂ c o h1 e)
        have hI₃ : h₃.IsListIter I ax (i + 1) := hst₂.1.at fun o e => hs₃ I o hCI e
        obtain ⟨oI, heI, hIc, hId⟩ := id hI₃
        obtain ⟨oC, heC, hoC⟩ := ns_obj hn₃
        have F₃ : Fr h₀ L h₃ m := ⟨F'.ns.at' fun o e => up _ o hIL (Ne.symm hCL) e, fun c o e => up c o (fun q => by rw [q, hI₀] at e; cases e) (fun q => by rw [q, hC₀] at e; cases e) (F'.keep c o e), F'.above⟩
        have N₃ : News h₀ L h₃ ((I, oI) :: (H2.objs.size, oC) :: (s₂.heap.objs.size, lst ys) :: news') := fun q hq => by
          rcases List.mem_cons.mp hq with rfl | hq
          · exact ⟨heI, Ne.symm hIL, hI₀⟩
          · rcases List.mem_cons.mp hq with rfl | hq
            · exact ⟨heC, hCL, hC₀⟩
            · have z := N' q hq
              refine ⟨up _ _ ?_ ?_ z.1, z.2⟩
              · rcases List.mem_cons.mp hq with rfl | hq
                · exact Ne.symm hDI
                · exact (off3 q hq).1
              · rcases List.mem_cons.mp hq with rfl | hq
                · exact hDC
                · exact (off3 q hq).2.1
        simp only [List.nodup_cons, List.mem_cons, List.not_mem_nil, or_false, not_or] at hdis
        obtain ⟨⟨d1, d2, d3⟩, ⟨d4, d5⟩, d6, _⟩ := hdis
        refine wpAny_mono (turn i ys news' _ T x y z u I oI H2.objs.size oC s₂.heap.objs.size _ h₃ _ _ hlt hJ hPv rfl hT hoC (by simp [d1, d2, d3]) (by simp [d4, d5]) (by simp [d6]) (by simp) F₃ N₃ off' ⟨hCI, hDI, Ne.symm hDC⟩) (fun y s₅ h₅ => ?_) fun _ _ e => e
        obtain ⟨h₅, tk₅, news₅, rfl, F₅, N₅, off₅, _, R₅⟩ := h₅
        have zI := (N₅ (I, oI) List.mem_cons_self).1
        have zC := (N₅ (H2.objs.size, oC) (List.mem_cons_of_mem _ List.mem_cons_self)).1
        have zD := (N₅ (s₂.heap.objs.size, lst ys) (List.mem_cons_of_mem _ (List.mem_cons_of_mem _ List.mem_cons_self))).1
        have N₅' : News h₀ L h₅ news₅ := fun q hq => N₅ q (List.mem_cons_of_mem _ (List.mem_cons_of_mem _ (List.mem_cons_of_mem _ hq)))
        refine append_at (hsz := by show ys.toArray.size ≤ sizeLine; rw [List.size_toArray, hyl]; exact Nat.le_trans hi hsz) zD fun h₆ hs₆ hD₆ => ?_
        have off5 := off₅.mem
        refine ⟨its.size + 1 - (i + 1), by (first | lia | omega), h₆, tk₅, i + 1, ys ++ [y], _, news₅, rfl, hlt, rfl, by rw [List.length_append, List.length_singleton, hyl], ⟨oI, hs₆.extBut I oI hDI zI, hIc, hId⟩, F₅.change hs₆ hDL hD₀,
          (hoC.ns zC).sameBut hs₆ (Ne.symm hDC), fun q hq => ?_, off₅, R₅⟩
        rcases List.mem_cons.mp hq with rfl | hq
        · exact ⟨hD₆.trans (congrArg some (lst_snoc ys y)), hDL, hD₀⟩
        · exact ⟨hs₆.extBut _ _ (off5 q hq).2.2 (N₅' q hq).1, (N₅' q hq).2⟩
      · obtain rfl : i = its.size := Nat.le_antisymm hi (Nat.not_lt.mp hlt)
        refine W.done _ _ _ ⟨hit', hl'⟩ fun h₂ tk₂ hk₂ => ?_
        exact hRR _ _ h₂ tk₂ _ ys news' (fr_but F' hk₂ hIL hI₀) (news_but N' hk₂ fun p hp => by
          rcases List.mem_cons.mp hp with rfl | hp
          · exact Ne.symm hDI
          · exact (off3 p hp).1) off'.one (hn'.at' fun o e => hk₂ _ o (by simpa using Ne.symm hCI) e) hC₀ hD₀ hCL hDL (Ne.symm hDC) (fun p hp => (off3 p hp).2.1) (fin _ _ hJ)
    · rcases List.mem_cons.mp hp with rfl | hp
      · exact ⟨hacc, hDL, hD₀⟩
      · exact ⟨old _ _ (N p hp).1, (N p hp).2⟩
  exact codeAny_compStart_list (loop _ rfl) (wpAny_pyIter_listiter hit₁ (loop _ rfl))
/-- the four-name comprehension over a list of the base: what is asked at its iterable -/
structure Comp4Here (prog : Program) (w : World) (A : Around) (h₀ : Heap) (L : Addr) (m : Str → Option Value) (env : Env) (elt : PySem.Expr) (a b c d : Str) (scope : Scope) (cl : List (Str × Addr)) (Fin : Shared → List Value → List (Addr × Obj) → Prop) (xv : Value) (s₁ : Shared) : Prop where
  mk :: of : ∃ (ax : Addr) (its : Array Value) (news : List (Addr × Obj)) (J : Nat → List Value → List (Addr × Obj) → Prop), xv = .ref ax ∧ A.handled = none ∧ h₀.IsList ax its ∧ its.size ≤ sizeLine ∧
    (∀ (i : Nat) (v : Value), its[i]? = some v → ∃ T x y z u, v = .ref T ∧ IsTup h₀ T #[x, y, z, u]) ∧ Fr h₀ L s₁.heap m ∧ News h₀ L s₁.heap news ∧ J 0 [] news ∧
    (∀ i ys news v T x y z u I oI C oC D m₂ h tk (E' : Value → Shared → Prop), i < its.size → J i ys news → its[i]? = some v → v = .ref T → IsTup h₀ T #[x, y, z, u] → NsObj oC m₂ → m₂ a = some x → m₂ b = some y → m₂ c = some z → m₂ d = some u →
      Fr h₀ L h m → News h₀ L h ((I, oI) :: (C, oC) :: (D, lst ys) :: news) → Off3 I C D news → ((@Ne Nat I C) ∧ (@Ne Nat I D) ∧ (@Ne Nat C D)) →
      wpAny (model prog w) A (eval elt (compEnvC scope cl C env)) (CompEnd h₀ L m { s₁ with heap := h, toks := tk } I oI C oC D (lst ys) (fun _ => True) (fun y news' => J (i + 1) (ys ++ [y]) news')) E' { s₁ with heap := h, toks := tk }) ∧
    (∀ ys news, J its.size ys news → Fin s₁ ys news)
theorem listComp4_h {elt iter : PySem.Expr} {a b c d : Str} {pa pb pc pd tp : Pos} {kk : Nat} {scope : Scope} {cl : List (Str × Addr)} {pos : Pos} {Q : Value → Shared → Prop} (_F₀ : Fr h₀ L s.heap m)
    (hclos : closureFor scope env = pure cl) (hcell : ∀ y ∈ scope.names, y.2 ≠ .cell) (hkind : scope.kind = .function)
    (hnames : ∀ y ∈ scope.names, y.2 = .local → scope.names.lookup y.1 = some .local) (hxa : scope.names.lookup a = some .local) (hxb : scope.names.lookup b = some .local) (hxc : scope.names.lookup c = some .local) (hxd : scope.names.lookup d = some .local) (hdis : [a, b, c, d].Nodup)
    (h : wpAny (model prog w) A (eval iter env) (Comp4Here prog w A h₀ L m env elt a b c d scope cl (fun s₂ => FinE h₀ L m s₂ Q)) E s)
    (hs : ∀ x, foldedSetIterable iter env x = pure x := by intro _; rfl) :
    wpAny (model prog w) A (eval (.ListComp elt [⟨.Tuple [.Name a pa, .Name b pb, .Name c pc, .Name d pd] kk tp, iter, [], 0⟩] scope pos) env) Q E s := by
  rw [eval_ListComp]
  refine wpAny_comprehension_free (use := none) rfl hs hclos hkind hnames (wpAny_mono h (fun xv s₁ h₁ => ?_) fun _ _ e => e)
  obtain ⟨ax, its, news, J, rfl, hh, hl, hsz, htup, F, N, h0, turn, fin⟩ := h₁.of
  have hl₁ : s₁.heap.IsList ax its := hl.at fun o e => F.keep ax o e
  have hlt : ax < s₁.heap.objs.size := by obtain ⟨_, e, _⟩ := hl₁; exact Heap.lt_size e
  refine wpAny_pyIter_list hl₁ ?_
  refine block4 (h₀ := h₀) (L := L) (m := m) (Fin := fun ys nx => J its.size ys nx) J hh hl (Nat.ne_of_lt hlt) hsz ⟨_, Heap.get?_push_size _ rfl, rfl, rfl⟩ htup hcell hkind hxa hxb hxc hxd hdis (F.push _)
    (fun p hp => ⟨Heap.get?_push_of_some _ (N p hp).1, (N p hp).2⟩) (Nat.ne_of_lt F.ns.lt) (next_is_new F) (fun p hp => Nat.ne_of_lt (Heap.lt_size (N p hp).1)) h0 turn (fun _ _ x => x) ?_
  intro D C h tk m' ys news' F' N' o1 hn hC₀ hD₀ hCL hDL hCD offC hfin
  refine ⟨m', hn, fun h'' hs'' => fin ys news' hfin D h'' tk (F'.change hs'' hCL hC₀) (fun p hp => ?_) o1⟩
  refine ⟨hs''.extBut _ _ ?_ (N' p hp).1, (N' p hp).2⟩
  rcases List.mem_cons.mp hp with rfl | hp
  · exact Ne.symm hCD
  · exact offC p hp
theorem assignComp4_h {elt iter : PySem.Expr} {a b c d y : Str} {pa pb pc pd tp py : Pos} {kk : Nat} {scope : Scope} {cl : List (Str × Addr)} {pos spos : Pos} {Q : Flow → Shared → Prop} (_F₀ : Fr h₀ L s.heap m) (hLe : env.locals = L)
    (hsw : swapsWith (.ListComp elt [⟨.Tuple [.Name a pa, .Name b pb, .Name c pc, .Name d pd] kk tp, iter, [], 0⟩] scope pos) (some (.Name y py)) spos.line env = pure true)
    (hclos : closureFor scope env = pure cl) (hcell : ∀ y ∈ scope.names, y.2 ≠ .cell) (hkind : scope.kind = .function)
    (hnames : ∀ y ∈ scope.names, y.2 = .local → scope.names.lookup y.1 = some .local) (hxa : scope.names.lookup a = some .local) (hxb : scope.names.lookup b = some .local) (hxc : scope.names.lookup c = some .local) (hxd : scope.names.lookup d = some .local) (hdis : [a, b, c, d].Nodup)
    (hy : env.kindOf y = some .local) (hp : (env.scope.kind == .class || (env.scope.kind == .module && env.locals != env.globals)) = false)
    (h : wpAny (model prog w) A (eval iter env) (Comp4Here prog w A h₀ L m env elt a b c d scope cl (fun s₂ => FinA h₀ L m s₂ y Q)) E s)
    (hs : ∀ x, foldedSetIterable iter env x = pure x := by intro _; rfl) :
    wpAny (model prog w) A (exec (.Assign [.Name y py] (.ListComp elt [⟨.Tuple [.Name a pa, .Name b pb, .Name c pc, .Name d pd] kk tp, iter, [], 0⟩] scope pos) spos) env) Q E s := by
  subst hLe
  rw [exec_Assign_Name_used _ _ _ _ hsw]
  refine wpAny_bind (wpAny_standAt (wpAny_bind ?_))
  show wpAny _ A (do let _ ← comprehension (.ListComp elt [⟨.Tuple [.Name a pa, .Name b pb, .Name c pc, .Name d pd] kk tp, iter, [], 0⟩] scope pos) scope env _ (newList []) false (eval iter env) (some (assign (.Name y py) env))) _ _ s
  refine wpAny_bind (wpAny_mono (wpAny_comprehension_free (use := some (assign (.Name y py) env)) (Q := fun _ s' => Q .next s') rfl hs hclos hkind hnames
    (wpAny_mono h (fun xv s₁ h₁ => ?_) fun _ _ e => e)) (fun _ s' hq => wpAny_pure (wpAny_pure hq)) fun _ _ e => e)
  obtain ⟨ax, its, news, J, rfl, hh, hl, hsz, htup, F, N, h0, turn, fin⟩ := h₁.of
  have hl₁ : s₁.heap.IsList ax its := hl.at fun o e => F.keep ax o e
  have hlt : ax < s₁.heap.objs.size := by obtain ⟨_, e, _⟩ := hl₁; exact Heap.lt_size e
  refine wpAny_pyIter_list hl₁ ?_
  refine block4 (h₀ := h₀) (L := env.locals) (m := m) (Fin := fun ys nx => J its.size ys nx) J hh hl (Nat.ne_of_lt hlt) hsz ⟨_, Heap.get?_push_size _ rfl, rfl, rfl⟩ htup hcell hkind hxa hxb hxc hxd hdis (F.push _)
    (fun p hp => ⟨Heap.get?_push_of_some _ (N p hp).1, (N p hp).2⟩) (Nat.ne_of_lt F.ns.lt) (next_is_new F) (fun p hp => Nat.ne_of_lt (Heap.lt_size (N p hp).1)) h0 turn (fun _ _ x => x) ?_
  intro D C h' tk m' ys news' F' N' o1 hn hC₀ hD₀ hCL hDL hCD offC hfin
  show wpAny _ A (assign (.Name y py) env (.ref D)) _ _ _
  refine wpAny_assign_Name (wpAny_storeName_local hy F'.ns (fun h₂ hn₂ hs₂ => ?_) hp)
  have hL₀ : h₀.get? env.locals = none := Heap.get?_none_of_le F'.above
  have F₂ : Fr h₀ env.locals h₂ (fun z => if z = y then some (.ref D) else m z) := ⟨hn₂, fun b o e => hs₂.extBut b o (fun q => by rw [q, hL₀] at e; cases e) (F'.keep b o e), F'.above⟩
  refine ⟨m', hn.sameBut hs₂ hCL, fun h'' hs'' => fin ys news' hfin D h'' _ (F₂.change hs'' hCL hC₀) (fun p hp => ?_) o1⟩
  have z : h₂.get? p.1 = some p.2 := hs₂.extBut _ _ (N' p hp).2.1 (N' p hp).1
  refine ⟨hs''.extBut _ _ ?_ z, (N' p hp).2⟩
  rcases List.mem_cons.mp hp with rfl | hp
  · exact Ne.symm hCD
  · exact offC p hp
end

end
end Mine

namespace Mine
section
open PySem PySem.Calls PySem.W PyProof.Rows PyProof.Rows.LCg
section
variable {prog : Program} {w : World} {A : Around} {E : Value → Shared → Prop} {s : Shared}
/-- the namespace of a block whose own name is a cell -/
theorem around_cell {scope : Scope} {globals : Addr} {closure : List (Str × Addr)} {qual : Str} {code : Value} {out : Env} {x : Str} {Q : Env → Shared → Prop}
    (hcf : ∀ n, cellsFrom n scope.names closure = (x, n) :: closure) (hpc : ∀ h, pushCells h scope.names = h.push { cls := .type "cell", data := .cell none })
    (hQ : Q { scope := scope, locals := s.heap.objs.size, globals := globals, cells := (x, s.heap.objs.size + 1) :: closure, qual := qual, func := none, code := out.code, frame := out.frame, builtins := out.builtins }
      { s with heap := (s.heap.push { cls := .type "dict", data := .dict #[] }).push { cls := .type "cell", data := .cell none } }) :
    wpAny (model prog w) A (newFunctionEnv scope globals closure [] qual none code (some out)) Q E s := by
  simp only [newFunctionEnv, Option.isSome_some, if_true]
  refine wpAny_bind (wpAny_alloc ?_)
  refine wpAny_bind (wpAny_layCells _ (fun name kind cells => by cases hkc : kind == NameKind.cell <;> simp [hkc]) _ _ _ _ ?_)
  rw [show ({ s with heap := s.heap.push { cls := .type "dict", data := .dict #[] } } : Shared).heap.objs.size = s.heap.objs.size + 1 from Heap.size_push .., hcf, hpc]
  refine wpAny_bind ?_
  rw [List.forIn_nil]
  exact wpAny_pure (wpAny_pure hQ)
end
def CellTurn (prog : Program) (w : World) (A : Around) (h₀ : Heap) (L : Addr) (m : Str → Option Value) (env : Env) (elt : PySem.Expr) (x : Str) (scope : Scope) (cl : List (Str × Addr)) (n : Nat) (J : Nat → List Value → List (Addr × Obj) → Prop) (s₂ : Shared) : Prop :=
  ∀ i ys news t I oI C oC D c oc h tk (E' : Value → Shared → Prop), i < n → J i ys news → oc.data = .cell (some (.int (i : Int) t)) →
    Fr h₀ L h m → News h₀ L h ((I, oI) :: (C, oC) :: (D, lst ys) :: (c, oc) :: news) → Off3 I C D ((c, oc) :: news) → AllNe c news → ((@Ne Nat I C) ∧ (@Ne Nat I D) ∧ (@Ne Nat C D)) →
    wpAny (model prog w) A (eval elt (compEnvC scope ((x, c) :: cl) C env)) (CompEnd h₀ L m { s₂ with heap := h, toks := tk } I oI C oC D (lst ys) (fun _ => True) (fun y news' => ∃ nx, news' = (c, oc) :: nx ∧ AllNe c nx ∧ J (i + 1) (ys ++ [y]) nx)) E' { s₂ with heap := h, toks := tk }
def CellAsk (prog : Program) (w : World) (A : Around) (h₀ : Heap) (L : Addr) (m : Str → Option Value) (env : Env) (elt : PySem.Expr) (x : Str) (scope : Scope) (cl : List (Str × Addr)) (Fin : Shared → List Value → List (Addr × Obj) → Prop) (xv : Value) (s₁ : Shared) : Prop :=
  ∃ (r : Addr) (b₀ : Int) (t u v : Tok) (n : Nat) (news : List (Addr × Obj)) (J : Nat → List Value → List (Addr × Obj) → Prop), xv = .ref r ∧ A.handled = none ∧ IsRange s₁.heap r 0 b₀ 1 t u v ∧ Builtin.Range.small 0 b₀ 1 = true ∧ Builtin.Range.rangeSize 0 b₀ 1 = ((n : Nat) : Int) ∧ n ≤ sizeLine ∧
    Fr h₀ L s₁.heap m ∧ News h₀ L s₁.heap news ∧ J 0 [] news ∧ CellTurn prog w A h₀ L m env elt x scope cl n J s₁ ∧ (∀ ys news, J n ys news → Fin s₁ ys news)
structure CellHere (prog : Program) (w : World) (A : Around) (h₀ : Heap) (L : Addr) (m : Str → Option Value) (env : Env) (elt : PySem.Expr) (x : Str) (scope : Scope) (cl : List (Str × Addr)) (Fin : Shared → List Value → List (Addr × Obj) → Prop) (xv : Value) (s₁ : Shared) : Prop where
  mk :: of : CellAsk prog w A h₀ L m env elt x scope cl Fin xv s₁
section
variable {prog : Program} {w : World} {A : Around} {E : Value → Shared → Prop} {s : Shared} {h₀ : Heap} {L : Addr} {m : Str → Option Value} {env : Env}
theorem blockC {elt iter : PySem.Expr} {x : Str} {px : Pos} {scope : Scope} {cl : List (Str × Addr)} {pos : Pos} {s₂ : Shared} {I : Addr} {n : Nat} {news : List (Addr × Obj)}
    {Fin : List Value → List (Addr × Obj) → Prop} {RR : Value → Addr → Result → Shared → Prop} (J : Nat → List Value → List (Addr × Obj) → Prop)
    (hh : A.handled = none) (hsz : n ≤ sizeLine) (hit : IsRangeIter s₂.heap I (0 + (0 : Nat) * 1) ((n : Int) - (0 : Nat)) 1)
    (hcf : ∀ n, cellsFrom n scope.names cl = (x, n) :: cl) (hpc : ∀ h, pushCells h scope.names = h.push { cls := .type "cell", data := .cell none }) (hkind : scope.kind = .function) (hx : (relabel scope env).names.lookup x = some .cell)
    (F : Fr h₀ L s₂.heap m) (N : News h₀ L s₂.heap news) (hIL : L ≠ I) (hI₀ : h₀.get? I = none) (off : ∀ p ∈ news, p.1 ≠ I) (h0 : J 0 [] news)
    (turn : CellTurn prog w A h₀ L m env elt x scope cl n J s₂) (fin : ∀ ys news, J n ys news → Fin ys news)
    (hRR : ∀ D C h tk m' ys news', Fr h₀ L h m → News h₀ L h ((D, lst ys) :: news') → Off1 D news' → h.Ns C m' → h₀.get? C = none → h₀.get? D = none → C ≠ L → D ≠ L → C ≠ D → (∀ p ∈ news', p.1 ≠ C) → Fin ys news' → RR (.ref D) C (.ok .next) { s₂ with heap := h, toks := tk }) :
    wpAny (model prog w) A (newList []) (fun acc s₃ => wpAny (model prog w) A (newFunctionEnv scope env.globals cl [] env.qual none .none (some env)) (fun cenv s₄ =>
      codeAny (model prog w) A (.compStart (.ListComp elt [⟨.Name x px, iter, [], 0⟩] scope pos) 0 (.ref I) acc { cenv with scope := relabel scope env }) (RR acc cenv.locals) s₄) E s₃) E s₂ := by
  have W := range_walks (prog := prog) (w := w) (I := I) hh 0 n
  refine wpAny_newObj_type (around_cell (x := x) hcf hpc ?_)
  dsimp only
  generalize hD : s₂.heap.objs.size = D
  have hCs : (s₂.heap.push ({ cls := .type "list", data := .seq ([] : List Value).toArray } : Obj)).objs.size = D + 1 := by rw [Heap.size_push, hD]
  generalize hC : (s₂.heap.push ({ cls := .type "list", data := .seq ([] : List Value).toArray } : Obj)).objs.size = C at hCs ⊢
  generalize hH : (((s₂.heap.push ({ cls := .type "list", data := .seq ([] : List Value).toArray } : Obj)).push { cls := .type "dict", data := .dict #[] }).push { cls := .type "cell", data := .cell none }) = h₁
  have old : ∀ b o, s₂.heap.get? b = some o → h₁.get? b = some o := fun b o e => hH ▸ Heap.get?_push_of_some _ (Heap.get?_push_of_some _ (Heap.get?_push_of_some _ e))
  have hDat : h₁.get? D = some (lst []) := by
    rw [← hH]
    refine Heap.get?_push_of_some _ (Heap.get?_push_of_some _ ?_)
    rw [← hD]
    exact Heap.get?_push_size _ rfl
  have hCat : h₁.Ns C (fun _ => none) := by
    have e := (Heap.Ns.new (s₂.heap.push ({ cls := .type "list", data := .seq ([] : List Value).toArray } : Obj)) (.type "dict")).keeps (h' := h₁) (fun b o e => by rw [← hH]; exact Heap.get?_push_of_some _ e)
    rw [hC] at e
    exact e
  have hcat : h₁.get? (C + 1) = some { cls := .type "cell", data := .cell none } := by
    rw [← hH]
    have e := Heap.get?_push_size ((s₂.heap.push ({ cls := .type "list", data := .seq ([] : List Value).toArray } : Obj)).push { cls := .type "dict", data := .dict #[] }) (o := { cls := .type "cell", data := .cell none }) rfl
    rw [Heap.size_push, hC] at e
    exact e
  have fresh₀ : ∀ a, D ≤ a → h₀.get? a = none := fun a ha => by
    cases e : h₀.get? a with
    | none => rfl
    | some o' => exact absurd (Heap.lt_size (F.keep a o' e)) (Nat.not_lt.mpr (by rw [hD]; exact ha))
  have hLlt : @LT.lt Nat _ L D := by rw [← hD]; exact F.ns.lt
  have hIlt : @LT.lt Nat _ I D := by rw [← hD]; exact Heap.lt_size hit
  have nlt : ∀ p ∈ news, @LT.lt Nat _ p.1 D := fun p hp => by rw [← hD]; exact Heap.lt_size (N p hp).1
  subst hCs
  have f1 : @Ne Nat D I := Nat.ne_of_gt hIlt
  have f2 : @Ne Nat (D + 1) I := Nat.ne_of_gt (Nat.lt_succ_of_lt hIlt)
  have f3 : @Ne Nat (D + 1 + 1) I := Nat.ne_of_gt (Nat.lt_succ_of_lt (Nat.lt_succ_of_lt hIlt))
  have g1 : @Ne Nat D L := Nat.ne_of_gt hLlt
  have g2 : @Ne Nat (D + 1) L := Nat.ne_of_gt (Nat.lt_succ_of_lt hLlt)
  have g3 : @Ne Nat (D + 1 + 1) L := Nat.ne_of_gt (Nat.lt_succ_of_lt (Nat.lt_succ_of_lt hLlt))
  have k1 : @Ne Nat (D + 1) D := nn1
  have k2 : @Ne Nat (D + 1 + 1) D := nn2
  have k3 : @Ne Nat (D + 1 + 1) (D + 1) := nn1
  have hit₁ : IsRangeIter h₁ I (0 + (0 : Nat) * 1) ((n : Int) - (0 : Nat)) 1 := old _ _ hit
  have loop : ∀ s₃ : Shared, s₃ = { s₂ with heap := h₁ } →
      codeAny (model prog w) A (.compLoop (.ListComp elt [⟨.Name x px, iter, [], 0⟩] scope pos) 0 (.ref I) (.ref D) (compEnvC scope ((x, D + 1 + 1) :: cl) (D + 1) env)) (RR (.ref D) (D + 1)) s₃ := by
    rintro s₃ rfl
    refine codeAny_compLoop_tests
      (fun k s' => ∃ h' tk i ys m' oc nx, s' = { s₂ with heap := h', toks := tk } ∧ i ≤ n ∧ k = n + 1 - i ∧ ys.length = i ∧ IsRangeIter h' I (0 + (i : Nat) * 1) ((n : Int) - (i : Nat)) 1 ∧ Fr h₀ L h' m ∧ h'.Ns (D + 1) m' ∧ (∃ v, oc.data = .cell v) ∧
        News h₀ L h' ((D, lst ys) :: (D + 1 + 1, oc) :: nx) ∧ Off3 I (D + 1) D ((D + 1 + 1, oc) :: nx) ∧ AllNe (D + 1 + 1) nx ∧ J i ys nx) ?_ (n + 1)
      ⟨h₁, _, 0, [], _, { cls := .type "cell", data := .cell none }, news, rfl, Nat.zero_le _, rfl, rfl, hit₁, F.keeps old, hCat, ⟨none, rfl⟩, fun p hp => ?_, Off3.of fun p hp => ?_, allNe_mk fun p hp => ?_, h0⟩
    · rintro k s' ⟨h', tk, i, ys, m', oc, nx, rfl, hi, rfl, hyl, hit', F', hn', ⟨vc, hoc⟩, N', off', hcn, hJ⟩
      have off3 := off'.mem
      have hcn' := allNe_all hcn
      by_cases hlt : i < n
      · refine W.item i _ _ _ hlt hit' fun v h₂ tk₂ hPv hst₂ hk₂ => ?_
        obtain ⟨t, rfl⟩ := hPv
        have up₂ : ∀ b o, b ≠ I → h'.get? b = some o → h₂.get? b = some o := fun b o hb e => hk₂ b o (by simpa using hb) e
        have ncI : (D + 1 + 1 : Nat) ≠ I := f3
        have hcell₂ : h₂.IsCell (D + 1 + 1) vc := ⟨oc, up₂ _ _ ncI (N' _ (.tail _ (.head _))).1, hoc⟩
        refine wpAny_assign_Name (wpAny_storeName_cell (c := D + 1 + 1) (v₀ := vc) hkind hx (by simp [compEnvC]) hcell₂ fun h₃ hcell₃ hs₃ => ?_)
        obtain ⟨oc₃, hoc₃, hocd⟩ := hcell₃
        refine wpAny_tests_nil ?_
        simp only [if_true]
        have up : ∀ b o, b ≠ I → b ≠ D + 1 + 1 → h'.get? b = some o → h₃.get? b = some o := fun b o h1 h2 e => hs₃.extBut b o h2 (up₂ b o h1 e)
        have hst₃ : IsRangeIter h₃ I (0 + ((i + 1 : Nat) : Nat) * 1) ((n : Int) - ((i + 1 : Nat) : Nat)) 1 := hs₃.extBut I _ ncI.symm hst₂
        have hc₀ := fresh₀ (D + 1 + 1) (Nat.le_add_right D 2)
        have F₃ : Fr h₀ L h₃ m := ⟨F'.ns.at' fun o e => up _ o hIL (by first | assumption | exact Ne.symm (by assumption)) e, fun b o e => up b o (fun q => by rw [q, hI₀] at e; cases e) (fun q => by rw [q, hc₀] at e; cases e) (F'.keep b o e), F'.above⟩
        have hn₃ : h₃.Ns (D + 1) m' := hn'.at' fun o e => up _ o (by first | assumption | exact Ne.symm (by assumption)) (by first | assumption | exact Ne.symm (by assumption)) e
        obtain ⟨oC, heC, hoC⟩ := ns_obj hn₃
        have N₃ : News h₀ L h₃ ((I, _) :: (D + 1, oC) :: (D, lst ys) :: (D + 1 + 1, oc₃) :: nx) := fun q hq => by
          rcases List.mem_cons.mp hq with rfl | hq
          · exact ⟨hst₃, Ne.symm hIL, hI₀⟩
          · rcases List.mem_cons.mp hq with rfl | hq
            · exact ⟨heC, by first | assumption | exact Ne.symm (by assumption), fresh₀ _ (Nat.le_succ D)⟩
            · rcases List.mem_cons.mp hq with rfl | hq
              · exact ⟨up _ _ (by first | assumption | exact Ne.symm (by assumption)) (by first | assumption | exact Ne.symm (by assumption)) (N' _ (.head _)).1, (N' _ (.head _)).2⟩
              · rcases List.mem_cons.mp hq with rfl | hq
                · exact ⟨hoc₃, by first | assumption | exact Ne.symm (by assumption), hc₀⟩
                · have z := N' q (.tail _ (.tail _ hq))
                  exact ⟨up _ _ (off3 q (.tail _ hq)).1 (hcn' q hq) z.1, z.2⟩
        have off₃ : Off3 I (D + 1) D ((D + 1 + 1, oc₃) :: nx) := ⟨off'.1, off'.2⟩
        have ei : (0 + (i : Int)) = (i : Int) := by (first | lia | omega)
        refine wpAny_mono (turn i ys nx t I _ (D + 1) oC D (D + 1 + 1) oc₃ h₃ _ _ hlt hJ (by rw [hocd, ei]) F₃ N₃ off₃ hcn ⟨by first | assumption | exact Ne.symm (by assumption), by first | assumption | exact Ne.symm (by assumption), by first | assumption | exact Ne.symm (by assumption)⟩) (fun y s₅ h₅ => ?_) fun _ _ e => e
        obtain ⟨h₅, tk₅, news₅, rfl, F₅, N₅, off₅, _, nx₅, rfl, hcn₅, R₅⟩ := h₅
        have zI := (N₅ _ (.head _)).1
        have zC := (N₅ _ (.tail _ (.head _))).1
        have zD := (N₅ _ (.tail _ (.tail _ (.head _)))).1
        refine append_at (hsz := by show ys.toArray.size ≤ sizeLine; rw [List.size_toArray, hyl]; exact Nat.le_trans hi hsz) zD fun h₆ hs₆ hD₆ => ?_
        have off5 := off₅.mem
        refine ⟨n + 1 - (i + 1), by (first | lia | omega), h₆, tk₅, i + 1, ys ++ [y], _, oc₃, nx₅, rfl, hlt, rfl, by rw [List.length_append, List.length_singleton, hyl], hs₆.extBut I _ (by first | assumption | exact Ne.symm (by assumption)) zI, F₅.change hs₆ (by first | assumption | exact Ne.symm (by assumption)) (fresh₀ _ (Nat.le_refl _)),
          (hoC.ns zC).sameBut hs₆ (by first | assumption | exact Ne.symm (by assumption)), ⟨_, hocd⟩, fun q hq => ?_, off₅, hcn₅, R₅⟩
        rcases List.mem_cons.mp hq with rfl | hq
        · exact ⟨hD₆.trans (congrArg some (lst_snoc ys y)), by first | assumption | exact Ne.symm (by assumption), fresh₀ _ (Nat.le_refl _)⟩
        · have z := N₅ q (.tail _ (.tail _ (.tail _ hq)))
          exact ⟨hs₆.extBut _ _ (off5 q hq).2.2 z.1, z.2⟩
      · obtain rfl : i = n := Nat.le_antisymm hi (Nat.not_lt.mp hlt)
        refine W.done _ _ _ hit' fun h₂ tk₂ hk₂ => ?_
        have up₂ : ∀ b o, b ≠ I → h'.get? b = some o → h₂.get? b = some o := fun b o hb e => hk₂ b o (by simpa using hb) e
        refine hRR D (D + 1) h₂ tk₂ m' ys nx (fr_but F' hk₂ hIL hI₀) (fun q hq => ?_) ?_ (hn'.at' fun o e => up₂ _ o (by first | assumption | exact Ne.symm (by assumption)) e) (fresh₀ _ (Nat.le_succ D)) (fresh₀ _ (Nat.le_refl _)) (by first | assumption | exact Ne.symm (by assumption)) (by first | assumption | exact Ne.symm (by assumption)) (by first | assumption | exact Ne.symm (by assumption)) (fun p hp => (off3 p (.tail _ hp)).2.1) (fin _ _ hJ)
        · rcases List.mem_cons.mp hq with rfl | hq
          · exact ⟨up₂ _ _ (by first | assumption | exact Ne.symm (by assumption)) (N' _ (.head _)).1, (N' _ (.head _)).2⟩
          · have z := N' q (.tail _ (.tail _ hq))
            exact ⟨up₂ _ _ (off3 q (.tail _ hq)).1 z.1, z.2⟩
        · exact (off'.one).2
    · rcases List.mem_cons.mp hp with rfl | hp
      · exact ⟨hDat, by first | assumption | exact Ne.symm (by assumption), fresh₀ _ (Nat.le_refl _)⟩
      · rcases List.mem_cons.mp hp with rfl | hp
        · exact ⟨hcat, by first | assumption | exact Ne.symm (by assumption), fresh₀ _ (Nat.le_add_right D 2)⟩
        · exact ⟨old _ _ (N p hp).1, (N p hp).2⟩
    · rcases List.mem_cons.mp hp with rfl | hp
      · exact ⟨by first | assumption | exact Ne.symm (by assumption), by first | assumption | exact Ne.symm (by assumption), by first | assumption | exact Ne.symm (by assumption)⟩
      · have := nlt p hp
        exact ⟨off p hp, Nat.ne_of_lt (Nat.lt_succ_of_lt this), Nat.ne_of_lt this⟩
    · exact Nat.ne_of_lt (Nat.lt_succ_of_lt (Nat.lt_succ_of_lt (nlt p hp)))
  exact codeAny_compStart_list (loop _ rfl) (W.self 0 _ _ _ hit₁ (loop _ rfl))
theorem cellComp_h {elt iter : PySem.Expr} {x : Str} {px : Pos} {scope : Scope} {cl : List (Str × Addr)} {pos : Pos} {Q : Value → Shared → Prop} (_F₀ : Fr h₀ L s.heap m)
    (hclos : closureFor scope env = pure cl) (hcf : ∀ n, cellsFrom n scope.names cl = (x, n) :: cl) (hpc : ∀ h, pushCells h scope.names = h.push { cls := .type "cell", data := .cell none }) (hkind : scope.kind = .function)
    (hnames : ∀ y ∈ scope.names, y.2 = .local → scope.names.lookup y.1 = some .local) (hx : (relabel scope env).names.lookup x = some .cell)
    (h : wpAny (model prog w) A (eval iter env) (CellHere prog w A h₀ L m env elt x scope cl (fun s₂ => FinE h₀ L m s₂ Q)) E s)
    (hs : ∀ x, foldedSetIterable iter env x = pure x := by intro _; rfl) :
    wpAny (model prog w) A (eval (.ListComp elt [⟨.Name x px, iter, [], 0⟩] scope pos) env) Q E s := by
  rw [eval_ListComp]
  refine wpAny_comprehension_free (use := none) rfl hs hclos hkind hnames (wpAny_mono h (fun xv s₁ h₁ => ?_) fun _ _ e => e)
  obtain ⟨r, b₀, t, u, v, n, news, J, rfl, hh, hr, hsm, hn, hsz, F, N, h0, turn, fin⟩ := h₁.of
  refine wpAny_pyIter_range hr hsm ?_
  refine blockC (h₀ := h₀) (L := L) (m := m) (n := n) (Fin := fun ys nx => J n ys nx) J hh hsz (by show IsRangeIter _ _ _ _ _; rw [hn]; simpa using Heap.get?_push_size _ rfl) hcf hpc hkind hx (F.push _)
    (fun p hp => ⟨Heap.get?_push_of_some _ (N p hp).1, (N p hp).2⟩) (Nat.ne_of_lt F.ns.lt) (next_is_new F) (fun p hp => Nat.ne_of_lt (Heap.lt_size (N p hp).1)) h0 turn (fun _ _ x => x) ?_
  intro D C h tk m' ys news' F' N' o1 hn hC₀ hD₀ hCL hDL hCD offC hfin
  refine ⟨m', hn, fun h'' hs'' => fin ys news' hfin D h'' tk (F'.change hs'' hCL hC₀) (fun p hp => ?_) o1⟩
  refine ⟨hs''.extBut _ _ ?_ (N' p hp).1, (N' p hp).2⟩
  rcases List.mem_cons.mp hp with rfl | hp
  · exact Ne.symm hCD
  · exact offC p hp
end

end
end Mine

namespace Mine
section
open PySem PySem.Calls PySem.W PyProof.Rows
local macro_rules | `(tactic| walk_at "zz") => `(tactic| fail)
local macro_rules | `(tactic| walk_at "zz") => `(tactic| fail)
/-- a pair of the law's, made from a row -/
inductive PairOk (tl : List (Addr × Obj)) : Value → Dat → Prop
  | mk (o : Int) (n : Str) (sp pk : Int) (p dd : Addr) (u1 u2 : Tok) (hn : n ∈ names false) (h0 : 0 ≤ sp) (h6 : sp < 6) (hp : (p, pairObj dd (.str n u1) (.str (values.getD sp.toNat (Str.ofString "")) u2)) ∈ tl) (hd : (dd, emptyDict) ∈ tl) : PairOk tl (.ref p) (.tuple [.int o, .str n, .int sp, .int pk])
def thingD (o : Bool) : Dat → Dat
  | .tuple [_, .str n, .int sp, _] => thing o n (values.getD sp.toNat (Str.ofString ""))
  | _ => .none
/-- the things of all rows, of one order -/
inductive ThAt (ds : List Dat) (tl : List (Addr × Obj)) (o : Bool) : Value → Prop
  | mk (l : Addr) (vs : List Value) (k : Nat) (hm : (l, listOf (List.toArray vs) k) ∈ tl) (hD : DatAll tl vs (ds.map (thingD o))) : ThAt ds tl o (.ref l)
theorem ThAt.mono {ds : List Dat} {tl tl' : List (Addr × Obj)} {o : Bool} {y : Value} (hs : ∀ p ∈ tl, p ∈ tl') : ThAt ds tl o y → ThAt ds tl' o y
  | .mk l vs k b c => .mk l vs k (hs _ b) (c.mono hs)
def rank0 : Dat → Int
  | .tuple [_, .str n, .int sp, _] => 6 * (posOf false n : Int) + sp
  | _ => 0
inductive PairsAre (tl : List (Addr × Obj)) : List Value → List Dat → Prop
  | nil : PairsAre tl [] []
  | cons {y : Value} {d : Dat} {ys : List Value} {ds : List Dat} : PairOk tl y d → PairsAre tl ys ds → PairsAre tl (y :: ys) (d :: ds)
theorem PairOk.mono {tl tl' : List (Addr × Obj)} {y : Value} {d : Dat} (hs : ∀ p ∈ tl, p ∈ tl') : PairOk tl y d → PairOk tl' y d
  | .mk o n sp pk p dd u1 u2 hn h0 h6 g i => .mk o n sp pk p dd u1 u2 hn h0 h6 (hs _ g) (hs _ i)
theorem PairsAre.mono {tl tl' : List (Addr × Obj)} (hs : ∀ p ∈ tl, p ∈ tl') : ∀ {ys : List Value} {ds : List Dat}, PairsAre tl ys ds → PairsAre tl' ys ds
  | _, _, .nil => .nil
  | _, _, .cons h r => .cons (h.mono hs) (PairsAre.mono hs r)
theorem PairsAre.snoc {tl : List (Addr × Obj)} : ∀ {ys : List Value} {ds : List Dat} {y : Value} {d : Dat}, PairsAre tl ys ds → PairOk tl y d → PairsAre tl (ys ++ [y]) (ds ++ [d])
  | _, _, _, _, .nil, k => .cons k .nil
  | _, _, _, _, .cons h r, k => .cons h (PairsAre.snoc r k)
theorem PairsAre.length {tl : List (Addr × Obj)} : ∀ {ys : List Value} {ds : List Dat}, PairsAre tl ys ds → ys.length = ds.length
  | _, _, .nil => rfl
  | _, _, .cons _ r => congrArg (· + 1) r.length
theorem PairsAre.get {tl : List (Addr × Obj)} : ∀ {ys : List Value} {ds : List Dat} {i : Nat} {y : Value}, PairsAre tl ys ds → ys[i]? = some y → ∃ d, ds[i]? = some d ∧ PairOk tl y d
  | _, _, 0, _, .cons h _, e => by
    obtain rfl := Option.some.inj e
    exact ⟨_, rfl, h⟩
  | _, _, i + 1, _, .cons _ r, e => by
    obtain ⟨d, a, b⟩ := PairsAre.get (i := i) r (by simpa using e)
    exact ⟨d, by simpa using a, b⟩
/-- what the comprehensions build -/
abbrev P1 (ds : List Dat) (t : List (Addr × Obj)) (i : Nat) (ys : List Value) : Prop := PairsAre t ys (ds.take i)
structure P2 (ds : List Dat) (t : List (Addr × Obj)) (i : Nat) (ys : List Value) : Prop where
  len : ys.length = i
  at_ : ∀ q, q < i → ∃ y, ys[q]? = some y ∧ ThAt ds t (q == 1) y
abbrev P3 (ds : List Dat) (o : Bool) (t : List (Addr × Obj)) (i : Nat) (ys : List Value) : Prop := DatAll t ys ((ds.take i).map (thingD o))
abbrev P4 (ds : List Dat) (_t : List (Addr × Obj)) (i : Nat) (ys : List Value) : Prop := IntsAre ys ((ds.take i).map rank0)
theorem P2.snoc {ds : List Dat} {t t' : List (Addr × Obj)} {i : Nat} {ys : List Value} {y : Value} (h : P2 ds t i ys) (hs : ∀ p ∈ t, p ∈ t') (hy : ThAt ds t' (i == 1) y) : P2 ds t' (i + 1) (ys ++ [y]) := by
  obtain ⟨hl, ha⟩ := h
  refine ⟨by rw [List.length_append, hl]; rfl, fun q hq => ?_⟩
  by_cases c : q < i
  · obtain ⟨z, e, hz⟩ := ha q c
    exact ⟨z, by rw [List.getElem?_append_left (hl ▸ c)]; exact e, hz.mono hs⟩
  · obtain rfl : q = i := Nat.le_antisymm (Nat.le_of_lt_succ hq) (Nat.le_of_not_lt c)
    exact ⟨y, by rw [← hl, List.getElem?_concat_length], hy⟩
theorem ord_i {i : Nat} (h : i < 2) : (i : Int) = ordI (i == 1) := by
  rcases Nat.lt_succ_iff_lt_or_eq.mp h with h | h
  · rw [Nat.lt_one_iff.mp h]; rfl
  · rw [h]; rfl
theorem sz6 {α : Type} {l : List α} (h : l.length = 6) : l.toArray.size ≤ sizeLine := by rw [List.size_toArray, h]; decide
theorem take_all {α : Type} {us : List Value} {ds : List α} (h : us.length = ds.length) : ds.take us.toArray.size = ds := by rw [List.size_toArray, h, List.take_length]
theorem rank_get {ds : List Dat} {i : Nat} {of sp p : Int} {n : Str} (hd : ds[i]? = some (.tuple [.int of, .str n, .int sp, .int p])) : (ds.map rank0).getD (0 + (i : Int)).toNat 0 = 6 * (posOf false n : Int) + sp := by
  have e1 : (0 + (i : Int)).toNat = i := by (first | lia | omega)
  rw [e1, List.getD_eq_getElem?_getD, List.getElem?_map, hd]
  rfl
theorem ttIn {h₀ h : Heap} {L : Addr} {news TT : List (Addr × Obj)} (N : News h₀ L h news) (hs : ∀ q ∈ TT, q ∈ news) : ∀ p ∈ TT, h.get? p.1 = some p.2 := fun p hp => (N p (hs p hp)).1
theorem posR {o : Bool} {n : Str} {sp : Int} (hn : n ∈ names false) (h0 : 0 ≤ sp) (h6 : sp < 6) : 0 ≤ 6 * (posOf o n : Int) + sp ∧ 6 * (posOf o n : Int) + sp < 48 := by
  have := (posOf_at o n hn).1
  (first | lia | omega)
def DueEnd (s : Shared) (c : Int) (v : Value) (s' : Shared) : Prop := ∃ t tk', v = .int c t ∧ s' = { s with toks := tk' }
theorem due_eq {s : Shared} {a b x y : Int} {t : Tok} {tk : Nat} (ha : x = a) (hb : y = b) (h : x = y) : DueEnd s (cmpI a b) (.int 0 t) { s with toks := tk } := by
  subst ha hb
  refine ⟨t, tk, ?_, rfl⟩
  unfold cmpI
  rw [if_pos h]
theorem due_lt {s : Shared} {a b x y : Int} {t : Tok} {tk : Nat} (ha : x = a) (hb : y = b) (h : x ≠ y) (k : x < y) : DueEnd s (cmpI a b) (.int (-1) t) { s with toks := tk } := by
  subst ha hb
  refine ⟨t, tk, ?_, rfl⟩
  unfold cmpI
  rw [if_neg h, if_pos k]
theorem due_gt {s : Shared} {a b x y : Int} {t : Tok} {tk : Nat} (ha : x = a) (hb : y = b) (h : x ≠ y) (k : ¬ x < y) : DueEnd s (cmpI a b) (.int 1 t) { s with toks := tk } := by
  subst ha hb
  refine ⟨t, tk, ?_, rfl⟩
  unfold cmpI
  rw [if_neg h, if_neg k]
theorem row_i {h : Heap} {us : List Value} {tl : List (Addr × Obj)} {ds : List Dat} (htl : ∀ p ∈ tl, h.get? p.1 = some p.2) (hD : DatAll tl us ds) (hrow : ∀ d ∈ ds, Row1 d) (h6 : ds.length = 6) {i : Nat} (hi : i < 6) : ∃ v, us[i]? = some v ∧ RowAt h ds i v := by
  have hlt : i < us.length := by rw [hD.length, h6]; exact hi
  exact ⟨us[i], List.getElem?_eq_getElem hlt, row_at htl hD hrow i _ (by rw [List.getElem?_toArray]; exact List.getElem?_eq_getElem hlt)⟩
theorem k0 {i : Nat} : (0 + (i : Int)).toNat = i ∧ 0 ≤ 0 + (i : Int) := by (first | lia | omega)
theorem item_any {prog : Program} {w : World} {A : Around} {E : Value → Shared → Prop} {s : Shared} {l : Addr} {value slice : PySem.Expr} {us : List Value} {k : Int} {i : Nat} {u : Tok} {v : Value} {Q : Value → Shared → Prop} (hl : s.heap.IsList l us.toArray) (hk : k.toNat = i ∧ 0 ≤ k) (hg : us[i]? = some v) (hfit : us.length ≤ 100)
    (hsb : subscripted slice false (.ref l) (.int k u) = operate [.ref l, .int k u] (getItem (.ref l) (.int k u))) (h : Q v s) : wpAny (model prog w) A (subscriptTail value slice (.ref l) (.int k u)) Q E s := by
  obtain ⟨rfl, h0⟩ := hk
  have hlt := (List.getElem?_eq_some_iff.mp hg).1
  exact tail_any hl.typeIs slot_list_getitem.lookup (wpAny_getItem_list hl h0 (by (first | lia | omega)) (by simpa using hg) h) hsb
theorem thing_i {TT : List (Addr × Obj)} {vs : List Value} {ds : List Dat} {o : Bool} {i : Nat} {of sp p : Int} {n : Str} (hD : DatAll TT vs (ds.map (thingD o))) (hd : ds[i]? = some (.tuple [.int of, .str n, .int sp, .int p])) (hn : n ∈ names false) (h0 : 0 ≤ sp) (h6 : sp < 6) :
    ∃ y, vs[i]? = some y ∧ DatIn TT y (rankThing o (6 * (posOf o n : Int) + sp)) := by
  have hlt : i < (ds.map (thingD o)).length := by rw [List.length_map]; exact (List.getElem?_eq_some_iff.mp hd).1
  obtain ⟨y, e, h⟩ := hD.get hlt
  refine ⟨y, e, ?_⟩
  rw [rankThing_eq hn h0 h6]
  have e2 : (ds.map (thingD o))[i] = thingD o (.tuple [.int of, .str n, .int sp, .int p]) := by
    have := (List.getElem?_eq_some_iff.mp hd).2
    rw [List.getElem_map, this]
  rw [e2] at h
  exact h
/-- what the comprehension of the told answers builds -/
structure P5 (f : Bool → Int) (_t : List (Addr × Obj)) (i : Nat) (ys : List Value) : Prop where
  len : ys.length = i
  at_ : ∀ q, q < i → ∃ x, ys[q]? = some (.int (f (q == 1)) x)
theorem P5.snoc {f : Bool → Int} {t t' : List (Addr × Obj)} {i : Nat} {ys : List Value} {x : Tok} (h : P5 f t i ys) : P5 f t' (i + 1) (ys ++ [.int (f (i == 1)) x]) := by
  obtain ⟨hl, ha⟩ := h
  refine ⟨by rw [List.length_append, hl]; rfl, fun q hq => ?_⟩
  by_cases c : q < i
  · obtain ⟨z, e⟩ := ha q c
    exact ⟨z, by rw [List.getElem?_append_left (hl ▸ c)]; exact e⟩
  · obtain rfl : q = i := Nat.le_antisymm (Nat.le_of_lt_succ hq) (Nat.le_of_not_lt c)
    exact ⟨x, by rw [← hl, List.getElem?_concat_length]⟩
theorem two_list {α : Type} {l : List α} {a b : α} (h : l.length = 2) (h0 : l[0]? = some a) (h1 : l[1]? = some b) : l = [a, b] := by
  refine List.ext_getElem? fun i => ?_
  cases i with
  | zero => exact h0
  | succ i =>
    cases i with
    | zero => exact h1
    | succ i =>
      rw [List.getElem?_eq_none (by rw [h]; exact Nat.le_add_left _ _)]
      rfl
theorem P5.two {f : Bool → Int} {t : List (Addr × Obj)} {ys : List Value} (h : P5 f t 2 ys) : ∃ xa xb, ys = [.int (f false) xa, .int (f true) xb] := by
  obtain ⟨hl, ha⟩ := h
  obtain ⟨xa, ea⟩ := ha 0 (by decide)
  obtain ⟨xb, eb⟩ := ha 1 (by decide)
  exact ⟨xa, xb, two_list hl ea eb⟩
local macro_rules | `(tactic| walk_at "execs cons") => `(tactic| (k_here; (try dsimp only); (try k_gentoks); refine execs_hide ?_; intro QQ hQQ))
local macro_rules | `(tactic| walk_at "call ref") => `(tactic| (k_here; refine hold ?_))
local macro_rules | `(tactic| walk_at "getAttr ref") => `(tactic| (k_here; refine hold ?_))
local macro_rules | `(tactic| walk_at "call builtin:list.index") => `(tactic| (k_here; refine hold ?_))
local macro_rules | `(tactic| walk_at "subscriptTail") => `(tactic| (k_here; refine hold ?_))
local macro_rules | `(tactic| walk_at "storeName") => `(tactic| (k_here; refine holdC rfl ?_))
local macro_rules | `(tactic| walk_at "eval ListComp") => `(tactic| (k_here; refine hold ?_))
local macro_rules | `(tactic| walk_at "exec Assign cons ListComp") => `(tactic| (k_here; refine hold ?_))
local macro_rules | `(tactic| walk_at "exec Assign cons IfExp") => `(tactic| (k_here; refine hold ?_))
local macro_rules | `(tactic| walk_at "exec For Name Call cons nil") => `(tactic| (k_here; refine hold ?_))
set_option pp.deepTerms false
set_option pp.deepTerms.threshold 6
set_option pp.maxSteps 6000
set_option maxHeartbeats 1600000 in
theorem con_compared (w : World) (r : Addr) :
    Con Challenge.rw_il0129_01.row.prog w (hd.heap_39 w.params) 231 9 [.ref r] (fun h => RowsIn r h) (fun g v h' => v = .bool true) := by
    (k_fill; k_dflt (refine' con_enterC ?k6 ?k7 ?k9 ?kB ?kD ?c2 ?c3 ?c4 ?cl ?_; (case k6 => k_is); (case k7 => k_is); (case k9 => first | exact fun _ _ => BindsTo.of_eq rfl | exact fun _ X => binds_K X rfl (by k_is) rfl rfl rfl); (case kD => decide +kernel); (case kB => exact rfl); (case c2 => exact rfl); (case c3 => exact rfl); (case c4 => exact rfl); (case cl => decide); k_whole))
    (intro dp un gd outer A₀ base mean mg mb s L' h₁ tk cells B X T hd hu hp F N Y; k_cells Y; (try simp only [List.cons_append, List.nil_append] at N); (try dsimp only))
    obtain ⟨us, tl, k, ds, hr, htl, hD, hds, hrow⟩ := hp
    have hul := hD.length
    have F := fr_one F (x := Str.ofString "rows") (v := .ref r) rfl
    generalize bindL _ _ _ = m0 at F
    refine hide ?_
    intro Q0 hQ0
    (k_steps; (repeat' (refine hid_ap (by with_reducible assumption) ?_; (try dsimp only); k_steps)))
    rename_i oj ok oth opr onm d1 d2 d3 d4 d5 QA hQA
    refine ⟨?_⟩
    refine (con_names w false _).use B F X N T rfl (roomD hd (by decide)) (roomU hu (by decide)) trivial ?_
    rintro _ h2 tk2 F2 N2 - ⟨nl, nvs, nk, rfl, W1, D1⟩
    have N3 := W1.news F N2
    obtain ⟨-, -, ne3, ne4, ne5, -⟩ := allNe_of W1 N
    have S1 := strsAre_dat D1
    clear N2 W1 D1 F N
    simp only [List.cons_append, List.nil_append] at N3
    (k_steps; (repeat' (refine hid_ap (by with_reducible assumption) ?_; (try dsimp only); k_steps)))
    refine ⟨?_⟩
    refine storeX_C F2 N3 rfl (.tail (Ne.symm ne5) (.tail nn4 (.tail nn3 (.tail nn2 (.tail nn1 (.head alln)))))) d5 (fun h4 pnm F4 N4 e5 => ?_) rfl rfl
    clear F2 N3 d5

    (k_steps; (repeat' (refine hid_ap (by with_reducible assumption) ?_; (try dsimp only); k_steps)))
    refine ⟨?_⟩
    k_dflt (refine wpAny_Assign_Name ?_)
    k_dflt (refine listComp4_h F4 (by with_unfolding_all rfl) (by decide) (by rfl) (by decide) (by rfl) (by rfl) (by rfl) (by rfl) (by decide +kernel) ?_)
    k_steps
    obtain ⟨R, hR⟩ : ∃ R, R = [(nl, listOf nvs.toArray nk), (L' + 1 + 1 + 1 + 1 + 1, oj), (L' + 1 + 1 + 1 + 1, ok), (L' + 1 + 1 + 1, oth), (L' + 1 + 1, opr), (L' + 1, pnm)] := ⟨_, rfl⟩
    rw [← hR] at N4
    refine ⟨⟨r, us.toArray, R, JB R (P1 ds), rfl, rfl, ⟨_, hr, rfl, _, rfl⟩, sz6 (hul.trans hds), (fun i v hv => row_tup (row_at htl hD hrow i v hv)), F4, N4, .start .nil, ?_, ?_⟩⟩
    · clear hR F4 N4
      rintro i ys nx v T0 x y z u I oI C oC D m₂ h tk E' hi ⟨tl9, ho9, hP⟩ hv rfl hT hC hx hy hz hu9 F N off ne
      obtain ⟨T1, of, n, sp, p, u1, u2, u3, u4, ht, hdi, hn, hsp0, hsp6, -⟩ := row_at htl hD hrow i _ hv
      obtain ⟨rfl, rfl, rfl, rfl⟩ := tup4_eq (isTup_inj hT ht)
      refine hide ?_
      intro QE hQE
      k_steps
      refine ⟨?_⟩
      refine (con_read w _ _ _ _ _ _).use B F X N T rfl (roomD hd (by decide)) (roomU hu (by decide)) ⟨hn, hsp0, hsp6⟩ ?_
      rintro _ h9 tk9 F9 N9 - ⟨p9, d9, y1, y2, rfl, W9⟩
      refine hid_ap hQE ?_
      refine jb_next F9 (W9.news F N9) off (New.off N W9) ho9 trivial ?_
      show PairsAre _ _ _
      rw [List.take_add_one, hdi]
      exact (hP.mono fun q hq => List.mem_append_right _ hq).snoc (.mk of n sp p p9 d9 y1 y2 hn hsp0 hsp6 (.head _) (.tail _ (.head _)))
    · clear F4 N4
      rintro ys nx ⟨tl9, ho9, hP⟩ D h tk F N o1
      subst hR
      have hP : PairsAre tl9 ys (ds.take us.toArray.size) := hP
      rw [take_all hul] at hP
      dsimp only [List.cons_append, List.nil_append] at N o1
      have m1 := off1_mem o1
      have N : News s.heap L' h ((D, LCg.lst ys) :: (L' + 1 + 1, opr) :: (nl, listOf nvs.toArray nk) :: (L' + 1 + 1 + 1 + 1 + 1, oj) :: (L' + 1 + 1 + 1 + 1, ok) :: (L' + 1 + 1 + 1, oth) :: (L' + 1, pnm) :: tl9) :=
        allc (N _ (.head _)) (allc (N _ (.tail _ (.tail _ (.tail _ (.tail _ (.tail _ (.head _))))))) (allc (N _ (.tail _ (.head _))) (allc (N _ (.tail _ (.tail _ (.head _)))) (allc (N _ (.tail _ (.tail _ (.tail _ (.head _))))) (allc (N _ (.tail _ (.tail _ (.tail _ (.tail _ (.head _)))))) fun p hp => N p (.tail _ (.tail _ (.tail _ (.tail _ (.tail _ (.tail _ hp)))))))))))
      (k_steps; (repeat' (refine hid_ap (by with_reducible assumption) ?_; (try dsimp only); k_steps)))
      dsimp only
      refine ⟨?_⟩
      have q9 : ∀ p ∈ tl9, @Ne Nat p.1 (L' + 1 + 1) := fun p hp => ho9 p hp _ (.tail _ (.tail _ (.tail _ (.tail _ (.head _)))))
      have qD := Ne.symm (m1 _ (.tail _ (.tail _ (.tail _ (.tail _ (.head _))))))
      refine storeX_C F N rfl (.tail qD (.head (allc (Ne.symm ne4) (allc nn3 (allc nn2 (allc nn1 (allc (Ne.symm nn1) q9))))))) d4 (fun h6 ppr F6 N6 e6 => ?_) rfl rfl
      clear F N d4
      have hPT : PairsAre ((nl, listOf nvs.toArray nk) :: (L' + 1 + 1 + 1 + 1 + 1, oj) :: (L' + 1 + 1 + 1 + 1, ok) :: (L' + 1 + 1 + 1, oth) :: (L' + 1, pnm) :: tl9) ys ds := hP.mono fun p hp => .tail _ (.tail _ (.tail _ (.tail _ (.tail _ hp))))
      clear hP ho9 m1 o1
      obtain ⟨T2, hT2⟩ : ∃ T2, T2 = (nl, listOf nvs.toArray nk) :: (L' + 1 + 1 + 1 + 1 + 1, oj) :: (L' + 1 + 1 + 1 + 1, ok) :: (L' + 1 + 1 + 1, oth) :: (L' + 1, pnm) :: tl9 := ⟨_, rfl⟩
      rw [← hT2] at N6 hPT
      have hpl := hPT.length
      (k_steps; (repeat' (refine hid_ap (by with_reducible assumption) ?_; (try dsimp only); k_steps)))
      refine ⟨?_⟩
      k_dflt (refine wpAny_Assign_Name ?_)
      k_dflt (refine' cellComp_h F6 ?q1 ?q2 ?q3 ?q4 ?q5 ?q6 ?_)
      case q1 => with_unfolding_all rfl
      case q2 => exact fun _ => rfl
      case q3 => exact fun _ => rfl
      case q4 => rfl
      case q5 => decide
      case q6 => rfl
      k_steps
      rename_i h7 tk7 t7 u7 v7 R7 F7 N7 K7
      refine ⟨⟨_, 2, t7, u7, v7, 2, (D, LCg.lst ys) :: (L' + 1 + 1, ppr) :: T2, JB ((D, LCg.lst ys) :: (L' + 1 + 1, ppr) :: T2) (P2 ds), rfl, rfl, R7, (by decide), (by decide), (by decide), F7, N7, .start ⟨rfl, fun q hq => absurd hq (Nat.not_lt_zero q)⟩, ?_, ?_⟩⟩
      · clear hT2 F7 N7 R7 K7
        rintro i yt nx t I oI C oC D2 c oc h tk E' hi ⟨t2, ho2, hyt⟩ hoc F N off hcn ne
        rw [ord_i hi] at hoc
        generalize hio : (i == 1) = o at hoc
        dsimp only [List.cons_append] at N off hcn
        refine hide ?_
        intro QE hQE
        k_steps
        refine ⟨?_⟩
        k_dflt (refine listComp_h (F₀ := F) (by with_unfolding_all rfl) (by decide) (by rfl) (by decide) (by rfl) ?_)
        k_steps
        have hDG : (D, LCg.lst ys) ∈ (D, LCg.lst ys) :: (L' + 1 + 1, ppr) :: (T2 ++ t2) := .head _
        have hPG : PairsAre ((D, LCg.lst ys) :: (L' + 1 + 1, ppr) :: (T2 ++ t2)) ys ds := hPT.mono fun p hp => .tail _ (.tail _ (List.mem_append_left _ hp))
        obtain ⟨G, hG⟩ : ∃ G, G = (D, LCg.lst ys) :: (L' + 1 + 1, ppr) :: (T2 ++ t2) := ⟨_, rfl⟩
        rw [← hG] at N off hcn hDG hPG
        refine ⟨LCg.CompSrc.ledger (news := (I, oI) :: (C, oC) :: (D2, LCg.lst yt) :: (c, oc) :: G) rfl F N (.tail _ (.tail _ (.tail _ (.tail _ hDG)))) (sz6 (hpl.trans hds)) fun g =>
          comp_inv (JB ((I, oI) :: (C, oC) :: (D2, LCg.lst yt) :: (c, oc) :: G) (P3 ds o)) (.start .nil) ?_ ?_⟩
        · clear hG off hcn F N
          rintro i' zs nx v I3 oI3 C3 oC3 D3 m₃ h8 tk8 E8 hi' ⟨t3, ho3, hz⟩ hv hC3 hx3 F8 N8 off8 ne8
          rw [List.getElem?_toArray] at hv
          obtain ⟨d, hdd, hp⟩ := hPG.get hv
          rcases hp with ⟨of, n, sp, pk, p, dd, u1, u2, hn, h0, h6, hm1, hm2⟩
          dsimp only [List.cons_append] at N8 off8
          refine hide ?_
          intro QI hQI
          k_steps
          refine ⟨?_⟩
          have hm1 := List.mem_append_left t3 hm1
          have hm2 := List.mem_append_left t3 hm2
          refine attr_name B F8 X N8 T rfl (roomD hd (by decide)) (roomU hu (by decide)) (.tail _ (.tail _ (.tail _ (.tail _ (.tail _ (.tail _ (.tail _ hm1))))))) (.tail _ (.tail _ (.tail _ (.tail _ (.tail _ (.tail _ (.tail _ hm2))))))) fun h9 tk9 F9 N9 => ?_
          clear F8 N8
          k_steps
          refine ⟨?_⟩
          refine attr_value B F9 X N9 T rfl (roomD hd (by decide)) (roomU hu (by decide)) (.tail _ (.tail _ (.tail _ (.tail _ (.tail _ (.tail _ (.tail _ hm1))))))) (.tail _ (.tail _ (.tail _ (.tail _ (.tail _ (.tail _ (.tail _ hm2))))))) fun h10 tk10 F10 N10 => ?_
          clear F9 N9
          k_steps
          refine ⟨?_⟩
          refine (con_thing w o _ _ _ _ _).use B F10 X N10 T rfl (roomD hd (by decide)) (roomU hu (by decide)) ⟨Nat.le_trans (names_short _ hn) (by decide), values_getD _⟩ ?_
          rintro v9 h11 tk11 F11 N11 - ⟨t9, W9, hth9⟩
          refine hid_ap hQI ?_
          refine jb_next F11 (W9.news F10 N11) off8 (New.off N10 W9) ho3 (.inr ⟨LCg.lst ys, .tail _ (.tail _ (.tail _ (.tail _ (List.mem_append_left _ hDG)))), rfl, _, rfl⟩) ?_
          show DatAll _ _ _
          rw [List.take_add_one, hdd, List.map_append]
          have hz : DatAll t3 zs ((ds.take i').map (thingD o)) := hz
          exact (hz.mono fun q hq => List.mem_append_right _ hq).append (.one (hth9.mono fun q hq => List.mem_append_left _ hq))
        · rintro zs nx ⟨t3, ho3, hz⟩ D3 h8 tk8 F8 N8 o8
          have hz : DatAll t3 zs ((ds.take ys.toArray.size).map (thingD o)) := hz
          rw [take_all hpl] at hz
          refine hid_ap hQE ?_
          subst hG
          have o8 := off1_mem o8
          exact jb_nextC F8 (news_rot N8) off hcn (own_new (fun p hp => o8 p (List.mem_append_left _ hp)) ho3) ho2 (hyt.snoc (fun p hp => List.mem_append_right _ hp) (hio ▸ .mk D3 zs _ (.head _) (hz.mono fun p hp => List.mem_append_left _ (.tail _ hp))))
      · clear F7 N7 R7 K7 hPT hpl
        rintro yt nx ⟨t2, ho2, hyt⟩ D2 h tk F N o2
        subst hT2
        dsimp only [List.cons_append] at N
        have o2 := off1_mem o2
        have N : News s.heap L' h ((L' + 1, pnm) :: (nl, listOf nvs.toArray nk) :: (L' + 1 + 1 + 1, oth) :: (D2, LCg.lst yt) :: (L' + 1 + 1 + 1 + 1 + 1, oj) :: (L' + 1 + 1 + 1 + 1, ok) :: t2) :=
          allc (N _ (.tail _ (.tail _ (.tail _ (.tail _ (.tail _ (.tail _ (.tail _ (.head _)))))))))
            (allc (N _ (.tail _ (.tail _ (.tail _ (.head _))))) (allc (N _ (.tail _ (.tail _ (.tail _ (.tail _ (.tail _ (.tail _ (.head _))))))))
              (allc (N _ (.head _)) (allc (N _ (.tail _ (.tail _ (.tail _ (.tail _ (.head _)))))) (allc (N _ (.tail _ (.tail _ (.tail _ (.tail _ (.tail _ (.head _)))))))
                fun p hp => N p (.tail _ (.tail _ (.tail _ (.tail _ (.tail _ (.tail _ (.tail _ (.tail _ (List.mem_append_right _ hp)))))))))))))) 
        dsimp only
        k_steps
        refine ⟨?_⟩
        have q3 : ∀ p ∈ t2, @Ne Nat p.1 (L' + 1 + 1 + 1) := fun p hp => ho2 p hp _ (.tail _ (.tail _ (.tail _ (.tail _ (.tail _ (.head _))))))
        have tJ : ∀ p ∈ t2, @Ne Nat p.1 (L' + 1 + 1 + 1 + 1 + 1) := fun p hp => ho2 p hp _ (.tail _ (.tail _ (.tail _ (.head _))))
        have tK : ∀ p ∈ t2, @Ne Nat p.1 (L' + 1 + 1 + 1 + 1) := fun p hp => ho2 p hp _ (.tail _ (.tail _ (.tail _ (.tail _ (.head _)))))
        have qJ := Ne.symm (o2 (L' + 1 + 1 + 1 + 1 + 1, oj) (.tail _ (.tail _ (.tail _ (.head _)))))
        have qK := Ne.symm (o2 (L' + 1 + 1 + 1 + 1, ok) (.tail _ (.tail _ (.tail _ (.tail _ (.head _))))))
        have qT := Ne.symm (o2 (L' + 1 + 1 + 1, oth) (.tail _ (.tail _ (.tail _ (.tail _ (.tail _ (.head _)))))))
        clear ho2 o2
        refine storeX_C F N rfl (.tail (Ne.symm nn2) (.tail (Ne.symm ne3) (.head (allc qT (allc nn2 (allc nn1 q3)))))) d3 (fun h8 pth F8 N8 e8 => ?_) rfl rfl
        clear F N q3 qT
        (k_steps; (repeat' (refine hid_ap (by with_reducible assumption) ?_; (try dsimp only); k_steps)))
        refine ⟨?_⟩
        k_dflt (refine assignComp4_h (by k_asm) (by rfl) (by with_unfolding_all rfl) (by with_unfolding_all rfl) (by decide) (by rfl) (by decide) (by rfl) (by rfl) (by rfl) (by rfl) (by decide +kernel) (by rfl) (by rfl) ?_)
        k_steps
        obtain ⟨T3, hT3⟩ : ∃ T3, T3 = (L' + 1 + 1 + 1, pth) :: (D2, LCg.lst yt) :: (L' + 1 + 1 + 1 + 1 + 1, oj) :: (L' + 1 + 1 + 1 + 1, ok) :: t2 := ⟨_, rfl⟩
        rw [← hT3] at N8
        refine ⟨⟨r, us.toArray, (L' + 1, pnm) :: (nl, listOf nvs.toArray nk) :: T3, JB ((L' + 1, pnm) :: (nl, listOf nvs.toArray nk) :: T3) (P4 ds), rfl, rfl, ⟨_, hr, rfl, _, rfl⟩, sz6 (hul.trans hds), (fun i v hv => row_tup (row_at htl hD hrow i v hv)), F8, N8, .start .nil, ?_, ?_⟩⟩
        · clear hT3 F8 N8
          rintro i zs nx v T0 x y z u I oI C oC D3 m₂ h tk E' hi ⟨t4, ho4, hz⟩ hv rfl hT hC hx hy hz' hu9 F N off ne
          obtain ⟨T1, of, n, sp, p, u1, u2, u3, u4, ht, hdi, hn, hsp0, hsp6, -⟩ := row_at htl hD hrow i _ hv
          obtain ⟨rfl, rfl, rfl, rfl⟩ := tup4_eq (isTup_inj hT ht)
          dsimp only [List.cons_append] at N off
          dsimp only
          refine hide ?_
          intro QE hQE
          k_steps
          refine ⟨?_⟩
          refine index_text N (.tail _ (.tail _ (.tail _ (.tail _ (.head _))))) S1 hn ?_
          k_steps
          refine hid_ap hQE ?_
          refine jb_next (tl9 := []) F N off (fun _ h => nomatch h) ho4 trivial ?_
          show IntsAre _ _
          have hz : IntsAre zs ((ds.take i).map rank0) := hz
          rw [List.take_add_one, hdi, List.map_append]
          exact hz.append (.cons _ _ .nil)
        · clear F8 N8
          rintro zs nx ⟨t4, ho4, hz⟩ D3 h tk F N o3
          have hz : IntsAre zs ((ds.take us.toArray.size).map rank0) := hz
          rw [take_all hul] at hz
          subst hT3
          have o3 := off1_mem o3
          have N : News s.heap L' h ((L' + 1 + 1 + 1 + 1 + 1, oj) :: (L' + 1 + 1 + 1 + 1, ok) :: (L' + 1 + 1 + 1, pth) :: (D3, LCg.lst zs) :: (D2, LCg.lst yt) :: t2) :=
            allc (N _ (.tail _ (.tail _ (.tail _ (.tail _ (.tail _ (.head _))))))) (allc (N _ (.tail _ (.tail _ (.tail _ (.tail _ (.tail _ (.tail _ (.head _)))))))) (allc (N _ (.tail _ (.tail _ (.tail _ (.head _))))) (allc (N _ (.head _)) (allc (N _ (.tail _ (.tail _ (.tail _ (.tail _ (.head _))))))
              fun p hp => N p (.tail _ (.tail _ (.tail _ (.tail _ (.tail _ (.tail _ (.tail _ (List.mem_append_left _ hp)))))))))))) 
          have hJ : ∀ p ∈ (L' + 1 + 1 + 1, pth) :: (D3, LCg.lst zs) :: (D2, LCg.lst yt) :: t2, @Ne Nat p.1 (L' + 1 + 1 + 1 + 1 + 1) := allc (Ne.symm nn2) (allc (Ne.symm (o3 (L' + 1 + 1 + 1 + 1 + 1, oj) (.tail _ (.tail _ (.tail _ (.tail _ (.head _))))))) (allc qJ tJ))
          have hK : ∀ p ∈ (L' + 1 + 1 + 1, pth) :: (D3, LCg.lst zs) :: (D2, LCg.lst yt) :: t2, @Ne Nat p.1 (L' + 1 + 1 + 1 + 1) := allc (Ne.symm nn1) (allc (Ne.symm (o3 (L' + 1 + 1 + 1 + 1, ok) (.tail _ (.tail _ (.tail _ (.tail _ (.tail _ (.head _)))))))) (allc qK tK))
          clear o3 qJ tJ qK tK ho4
          dsimp only
          (k_steps; (repeat' (refine hid_ap (by with_reducible assumption) ?_; (try dsimp only); k_steps)))
          refine ⟨?_⟩
          with_unfolding_all refine' For_lp F ?_
          k_steps
          rename_i h5 tk5 t5 u5 v5 R5 F5 N5 K5
          refine lp_range (n := 6) (news₀ := (L' + 1 + 1 + 1 + 1 + 1, oj) :: (L' + 1 + 1 + 1 + 1, ok) :: (L' + 1 + 1 + 1, pth) :: (D3, LCg.lst zs) :: (D2, LCg.lst yt) :: t2) [Str.ofString "due", Str.ofString "told"] (fun _ => JTwo (L' + 1 + 1 + 1 + 1 + 1) (L' + 1 + 1 + 1 + 1) ((L' + 1 + 1 + 1, pth) :: (D3, LCg.lst zs) :: (D2, LCg.lst yt) :: t2)) rfl F5 N5 R5 (by decide) (by decide) (fun _ h => h) (.mk oj ok _ _ d1 d2) ?_ ?_
          · clear F5 N5 R5 K5
            rintro i1 t1 u1 nx h1 tk1 I1 oI1 hi1 hcI1 ⟨oj, ok, vj, vk, cj, ck⟩ hne1 F N
            dsimp only
            k_steps
            refine ⟨?_⟩
            have hI5 := hne1 _ (.head _)
            have hI4 := hne1 _ (.tail _ (.head _))
            refine storeX_C F N rfl (.tail (Ne.symm hI4) (.tail nn1 (.head hK))) ck (fun h2 pk F2 N2 ek => ?_) rfl rfl
            clear F N
            refine hide ?_
            intro QL hQL
            (k_steps; (repeat' (refine hid_ap (by with_reducible assumption) ?_; (try dsimp only); k_steps)))
            refine ⟨?_⟩
            with_unfolding_all refine' For_lp F2 ?_
            k_steps
            rename_i h3 tk3 t3 u3 v3 R3 F3 N3 K3
            refine lp_range (n := 6) (news₀ := (L' + 1 + 1 + 1 + 1 + 1, oj) :: (I1, oI1) :: (L' + 1 + 1 + 1 + 1, pk) :: (L' + 1 + 1 + 1, pth) :: (D3, LCg.lst zs) :: (D2, LCg.lst yt) :: t2) [Str.ofString "due", Str.ofString "told"] (fun _ => JOne (L' + 1 + 1 + 1 + 1 + 1) ((I1, oI1) :: (L' + 1 + 1 + 1 + 1, pk) :: (L' + 1 + 1 + 1, pth) :: (D3, LCg.lst zs) :: (D2, LCg.lst yt) :: t2)) rfl F3 N3 R3 (by decide) (by decide) swap2 (.mk oj _ cj) ?_ ?_
            · clear F3 N3 R3 K3
              rintro i2 tt2 u2 nx h4 tk4 I2 oI2 hi2 hcI2 ⟨oj, vj, cj⟩ hne2 F N
              dsimp only
              k_steps
              refine ⟨?_⟩
              have hI2 := hne2 _ (.head _)
              refine storeX_C F N rfl (.tail (Ne.symm hI2) (.head (allc (Ne.symm hI5) (allc (Ne.symm nn1) hJ)))) cj (fun h5 oj F5 N5 d5 => ?_) rfl rfl
              clear F N
              refine hide ?_
              intro QM hQM
              obtain ⟨va, gva, ra⟩ := row_i htl hD hrow hds hi1
              obtain ⟨vb, gvb, rb⟩ := row_i htl hD hrow hds hi2
              rcases ra with ⟨Ta, ofa, na, spa, pa, ua1, ua2, ua3, ua4, hTa, hda, hna, hsa0, hsa6, -⟩
              rcases rb with ⟨Tb, ofb, nb, spb, pb, ub1, ub2, ub3, ub4, hTb, hdb, hnb, hsb0, hsb6, -⟩
              obtain ⟨f, hf⟩ : ∃ f : Bool → Int, f = fun o => cmpI (6 * (posOf o na : Int) + spa) (6 * (posOf o nb : Int) + spb) := ⟨_, rfl⟩
              have mD3 : (D3, LCg.lst zs) ∈ (I2, oI2) :: (L' + 1 + 1 + 1 + 1 + 1, oj) :: (I1, oI1) :: (L' + 1 + 1 + 1 + 1, pk) :: (L' + 1 + 1 + 1, pth) :: (D3, LCg.lst zs) :: (D2, LCg.lst yt) :: t2 := .tail _ (.tail _ (.tail _ (.tail _ (.tail _ (.head _)))))
              (k_steps; (repeat' (refine hid_ap (by with_reducible assumption) ?_; (try dsimp only); k_steps)))
              refine ⟨?_⟩
              refine wpAny_Assign_Name (wpAny_mono (Q := DueEnd { s with heap := h5, toks := tk4 } (f false)) ?_ (fun v s' hv => ?_) (fun _ _ e => e))
              · rw [hf]
                clear hf hQM
                have gra := rank_get hda
                have grb := rank_get hdb
                k_steps
                · exact due_eq gra grb (by assumption)
                · exact due_lt gra grb (by assumption) (by assumption)
                · exact due_gt gra grb (by assumption) (by assumption)
              · obtain ⟨tv, tk6, rfl, rfl⟩ := hv
                (k_steps; (repeat' (refine hid_ap (by with_reducible assumption) ?_; (try dsimp only); k_steps)))
                refine ⟨?_⟩
                k_dflt (refine assignComp_h (F₀ := by k_asm) (by rfl) (by with_unfolding_all rfl) (by with_unfolding_all rfl) (by decide) (by rfl) (by decide) (by rfl) (by rfl) (by rfl) ?_)
                k_steps
                rename_i h7 tk7 t7 u7 v7 R7 F7 N7 K7
                refine ⟨LCg.CompSrc.range (n := 2) (news := (I2, oI2) :: (L' + 1 + 1 + 1 + 1 + 1, oj) :: (I1, oI1) :: (L' + 1 + 1 + 1 + 1, pk) :: (L' + 1 + 1 + 1, pth) :: (D3, LCg.lst zs) :: (D2, LCg.lst yt) :: t2) rfl F7 N7 R7 (by decide) (by decide) (by decide) fun g =>
                  comp_inv (JB ((I2, oI2) :: (L' + 1 + 1 + 1 + 1 + 1, oj) :: (I1, oI1) :: (L' + 1 + 1 + 1 + 1, pk) :: (L' + 1 + 1 + 1, pth) :: (D3, LCg.lst zs) :: (D2, LCg.lst yt) :: t2) (P5 f)) (.start ⟨rfl, fun q hq => absurd hq (Nat.not_lt_zero q)⟩) ?_ ?_⟩
                · clear F7 N7 R7 K7
                  rintro i zt nx v I oI C oC D4 m₂ h tk E' hi ⟨t9, ho9, hzt⟩ ⟨t, rfl⟩ hC hx F N off ne
                  obtain ⟨y, gy, hy⟩ := hyt.at_ i hi
                  rcases hy with ⟨l, vs, kk, hm, hDD⟩
                  dsimp only [List.cons_append] at N off
                  dsimp only
                  refine hide ?_
                  intro QE hQE
                  obtain ⟨y1, g1, d1⟩ := thing_i hDD hda hna hsa0 hsa6
                  obtain ⟨y2, g2, d2⟩ := thing_i hDD hdb hnb hsb0 hsb6
                  have mD2 : (D2, LCg.lst yt) ∈ (I, oI) :: (C, oC) :: (D4, LCg.lst zt) :: (I2, oI2) :: (L' + 1 + 1 + 1 + 1 + 1, oj) :: (I1, oI1) :: (L' + 1 + 1 + 1 + 1, pk) :: (L' + 1 + 1 + 1, pth) :: (D3, LCg.lst zs) :: (D2, LCg.lst yt) :: (t2 ++ t9) := .tail _ (.tail _ (.tail _ (.tail _ (.tail _ (.tail _ (.tail _ (.tail _ (.tail _ (.head _)))))))))
                  have sub : ∀ q ∈ t2, q ∈ (I, oI) :: (C, oC) :: (D4, LCg.lst zt) :: (I2, oI2) :: (L' + 1 + 1 + 1 + 1 + 1, oj) :: (I1, oI1) :: (L' + 1 + 1 + 1 + 1, pk) :: (L' + 1 + 1 + 1, pth) :: (D3, LCg.lst zs) :: (D2, LCg.lst yt) :: (t2 ++ t9) := fun q hq => .tail _ (.tail _ (.tail _ (.tail _ (.tail _ (.tail _ (.tail _ (.tail _ (.tail _ (.tail _ (List.mem_append_left _ hq))))))))))
                  have fit : yt.length ≤ 100 := hyt.len ▸ (by decide)
                  have fit2 : vs.length ≤ 100 := by rw [hDD.length, List.length_map, hds]; decide
                  k_steps
                  refine ⟨?_⟩
                  refine item_any (isList_led N mD2) k0 gy fit (by with_unfolding_all rfl) ?_
                  k_steps
                  refine ⟨?_⟩
                  refine item_any (isList_led N (sub _ hm)) k0 g1 fit2 (by with_unfolding_all rfl) ?_
                  k_steps
                  refine ⟨?_⟩
                  refine item_any (isList_led N mD2) k0 gy fit (by with_unfolding_all rfl) ?_
                  k_steps
                  refine ⟨?_⟩
                  refine item_any (isList_led N (sub _ hm)) k0 g2 fit2 (by with_unfolding_all rfl) ?_
                  k_steps
                  refine ⟨?_⟩
                  refine (con_cmp w (i == 1) _ _ _ _ t2 t2).use B F X N T rfl (roomD hd (by decide)) (roomU hu (by decide)) ⟨ttIn N sub, ttIn N sub, d1, d2, posR hna hsa0 hsa6, posR hnb hsb0 hsb6⟩ ?_
                  rintro _ h9 tk9 F9 N9 - ⟨tt, rfl⟩
                  refine hid_ap hQE ?_
                  refine jb_next (tl9 := []) F9 N9 off (fun _ h => nomatch h) ho9 trivial ?_
                  have ef : f (i == 1) = cmpI (6 * (posOf (i == 1) na : Int) + spa) (6 * (posOf (i == 1) nb : Int) + spb) := by rw [hf]
                  rw [← ef]
                  exact hzt.snoc
                · rintro zt nx ⟨t9, ho9, hzt⟩ D4 h tk F N o4
                  obtain ⟨xa, xb, rfl⟩ := hzt.two
                  dsimp only [List.cons_append] at N
                  dsimp only
                  have hlaw : f true = if turnedOf na nb then - f false else f false := hf ▸ told_law hna hnb hsa0 hsa6 hsb0 hsb6
                  have fitr : us.length ≤ 100 := by rw [hul, hds]; decide
                  (k_steps; (repeat' (refine hid_ap (by with_reducible assumption) ?_; (try dsimp only); k_steps)))
                  refine ⟨?_⟩
                  refine item_any (isList_base F hr) k0 gva fitr (by with_unfolding_all rfl) ?_
                  k_steps
                  refine ⟨?_⟩
                  refine item_tupleT (l := [_, _, _, _]) (hTa.keeps F.keep) (by decide) (by decide) rfl rfl ?_
                  k_steps
                  refine ⟨?_⟩
                  refine item_any (isList_base F hr) k0 gvb fitr (by with_unfolding_all rfl) ?_
                  k_steps
                  refine ⟨?_⟩
                  refine item_tupleT (l := [_, _, _, _]) (hTb.keeps F.keep) (by decide) (by decide) rfl rfl ?_
                  k_steps
                  refine ⟨?_⟩
                  refine (con_turn w _ _ _ _).use B F X N T rfl (roomD hd (by decide)) (roomU hu (by decide)) ⟨hna, hnb⟩ ?_
                  rintro _ h9 tk9 F9 N9 - rfl
                  clear F N
                  k_steps
                  · rename Fr _ _ _ _ => F10
                    rename News _ _ _ _ => N10
                    have N : News s.heap L' _ ((D4, LCg.lst [Value.int (f false) xa, Value.int (f true) xb]) :: (I2, oI2) :: (L' + 1 + 1 + 1 + 1 + 1, oj) :: (I1, oI1) :: (L' + 1 + 1 + 1 + 1, pk) :: (L' + 1 + 1 + 1, pth) :: (D3, LCg.lst zs) :: (D2, LCg.lst yt) :: t2) := news_sub N10 fun p hp => .tail _ (List.mem_append_left t9 hp)
                    clear N10 hlaw
                    (k_steps; (repeat' (refine hid_ap (by with_reducible assumption) ?_; (try dsimp only); k_steps)))
                    exact LpEnd.intro ((L' + 1 + 1 + 1 + 1 + 1, oj) :: (I1, oI1) :: (L' + 1 + 1 + 1 + 1, pk) :: (L' + 1 + 1 + 1, pth) :: (D3, LCg.lst zs) :: (D2, LCg.lst yt) :: t2) F10 N (.tail _ (.head _)) (fun q hq => .tail _ (.tail _ hq)) (allc hI2 fun p hp => hne2 p (.tail _ hp)) ⟨by (repeat (first | refine keep_put (by decide) ?_ | exact keep_base | refine keep_in (by decide) ?_)); done, .mk oj _ d5⟩
                  · exact absurd (congrArg (fun z => [f false, z]) (hlaw.trans (if_pos (by assumption)))) (by assumption)
                  · rename Fr _ _ _ _ => F10
                    rename News _ _ _ _ => N10
                    have N : News s.heap L' _ ((D4, LCg.lst [Value.int (f false) xa, Value.int (f true) xb]) :: (I2, oI2) :: (L' + 1 + 1 + 1 + 1 + 1, oj) :: (I1, oI1) :: (L' + 1 + 1 + 1 + 1, pk) :: (L' + 1 + 1 + 1, pth) :: (D3, LCg.lst zs) :: (D2, LCg.lst yt) :: t2) := news_sub N10 fun p hp => .tail _ (List.mem_append_left t9 hp)
                    clear N10 hlaw
                    (k_steps; (repeat' (refine hid_ap (by with_reducible assumption) ?_; (try dsimp only); k_steps)))
                    exact LpEnd.intro ((L' + 1 + 1 + 1 + 1 + 1, oj) :: (I1, oI1) :: (L' + 1 + 1 + 1 + 1, pk) :: (L' + 1 + 1 + 1, pth) :: (D3, LCg.lst zs) :: (D2, LCg.lst yt) :: t2) F10 N (.tail _ (.head _)) (fun q hq => .tail _ (.tail _ hq)) (allc hI2 fun p hp => hne2 p (.tail _ hp)) ⟨by (repeat (first | refine keep_put (by decide) ?_ | exact keep_base | refine keep_in (by decide) ?_)); done, .mk oj _ d5⟩
                  · have ht : ¬ turnedOf na nb = true := by rw [show turnedOf na nb = false by assumption]; exact Bool.false_ne_true
                    exact absurd (congrArg (fun z => [f false, z]) (hlaw.trans (if_neg ht))) (by assumption)
            · clear F3 N3 R3 K3
              rintro u2 nx h4 tk4 ⟨oj, vj, cj⟩ F N
              (k_steps; (repeat' (refine hid_ap (by with_reducible assumption) ?_; (try dsimp only); k_steps)))
              exact LpEnd.intro ((L' + 1 + 1 + 1 + 1 + 1, oj) :: (L' + 1 + 1 + 1 + 1, pk) :: (L' + 1 + 1 + 1, pth) :: (D3, LCg.lst zs) :: (D2, LCg.lst yt) :: t2) F N (.tail _ (.head _)) mid2 (allc hI5 (allc hI4 fun p hp => hne1 p (.tail _ (.tail _ hp)))) ⟨by (repeat (first | refine keep_put (by decide) ?_ | exact keep_base | refine keep_in (by decide) ?_)); done, .mk oj pk _ _ cj ek⟩
          · rintro u1 nx h1 tk1 ⟨oj, ok, vj, vk, cj, ck⟩ F N
            (k_steps; (repeat' (refine hid_ap (by with_reducible assumption) ?_; (try dsimp only); k_steps)))
            exact ConEnd.intro F rfl

end
end Mine

namespace Mine
section
open PySem PySem.Calls PySem.W PyProof.Rows
/-- the items after the first ones that equal x -/
def skip (x : Int) : List Int → List Int
  | [] => []
  | y :: r => if y = x then skip x r else y :: r
theorem skip_split (x : Int) : ∀ l : List Int, ∃ l₁, l = l₁ ++ skip x l ∧ ∀ a ∈ l₁, a = x
  | [] => ⟨[], rfl, fun _ h => nomatch h⟩
  | y :: r => by
    unfold skip
    by_cases h : y = x
    · rw [if_pos h]
      obtain ⟨l₁, e, k⟩ := skip_split x r
      refine ⟨y :: l₁, by rw [List.cons_append, ← e], fun a ha => ?_⟩
      rcases List.mem_cons.mp ha with rfl | ha
      · exact h
      · exact k a ha
    · rw [if_neg h]
      exact ⟨[], rfl, fun _ h => nomatch h⟩
theorem skip_len (x : Int) (l : List Int) : (skip x l).length ≤ l.length := by
  obtain ⟨l₁, e, _⟩ := skip_split x l
  have := congrArg List.length e
  rw [List.length_append] at this
  (first | lia | omega)
theorem skip_sub (x : Int) (l : List Int) : ∀ a ∈ skip x l, a ∈ l := by
  obtain ⟨l₁, e, _⟩ := skip_split x l
  intro a ha
  rw [e]
  exact List.mem_append.mpr (.inr ha)
theorem skip_sorted {x : Int} {l : List Int} (h : l.Pairwise (· ≤ ·)) : (skip x l).Pairwise (· ≤ ·) := by
  obtain ⟨l₁, e, _⟩ := skip_split x l
  rw [e] at h
  exact (List.pairwise_append.mp h).2.1
theorem skip_gt {x : Int} : ∀ {l : List Int}, (x :: l).Pairwise (· ≤ ·) → ∀ a ∈ skip x l, x < a
  | [], _, a, ha => nomatch ha
  | y :: r, h, a, ha => by
    obtain ⟨h1, h2⟩ := List.pairwise_cons.mp h
    obtain ⟨h3, h4⟩ := List.pairwise_cons.mp h2
    unfold skip at ha
    by_cases e : y = x
    · rw [if_pos e] at ha
      subst e
      exact skip_gt h2 a ha
    · rw [if_neg e] at ha
      have hy := h1 y (.head _)
      rcases List.mem_cons.mp ha with rfl | ha
      · (first | lia | omega)
      · have := h3 a ha
        (first | lia | omega)
/-- what the two lists differ by, as the program finds it -/
def diff : Nat → List Int → List Int → List Int × List Int
  | 0, xs, ys => (xs, ys)
  | _ + 1, [], ys => ([], ys)
  | _ + 1, x :: xs, [] => (x :: xs, [])
  | f + 1, x :: xs, y :: ys =>
    if x < y then (x :: (diff f (skip x xs) (y :: ys)).1, (diff f (skip x xs) (y :: ys)).2)
    else if y < x then ((diff f (x :: xs) (skip y ys)).1, y :: (diff f (x :: xs) (skip y ys)).2)
    else diff f (skip x xs) (skip y ys)
theorem diff_swap : ∀ (f : Nat) (xs ys : List Int), diff f ys xs = ((diff f xs ys).2, (diff f xs ys).1)
  | 0, _, _ => rfl
  | _ + 1, [], [] => rfl
  | _ + 1, [], _ :: _ => rfl
  | _ + 1, _ :: _, [] => rfl
  | f + 1, x :: xs, y :: ys => by
    unfold diff
    rcases Int.lt_trichotomy x y with h | h | h
    · rw [if_neg (by (first | lia | omega)), if_pos h, if_pos h, diff_swap f (skip x xs) (y :: ys)]
    · subst h
      rw [if_neg (by (first | lia | omega)), if_neg (by (first | lia | omega)), if_neg (by (first | lia | omega)), if_neg (by (first | lia | omega)), diff_swap f (skip x xs) (skip x ys)]
    · rw [if_pos h, if_neg (by (first | lia | omega)), if_pos h, diff_swap f (x :: xs) (skip y ys)]
theorem fold_stay {ms acc : List Int} : ∀ {l : List Int}, (∀ a ∈ l, dueStep ms acc a = acc) → l.foldl (dueStep ms) acc = acc
  | [], _ => rfl
  | a :: l, h => by
    rw [List.foldl_cons, h a (.head _)]
    exact fold_stay fun b hb => h b (.tail _ hb)
theorem fold_all {ms : List Int} : ∀ {l acc : List Int}, (∀ a ∈ l, 0 ≤ a ∧ ∀ b ∈ ms, b < a) → l.foldl (dueStep ms) acc = acc ++ l
  | [], acc, _ => by simp
  | a :: l, acc, h => by
    obtain ⟨h0, h1⟩ := h a (.head _)
    have e : dueStep ms acc a = acc ++ [a] := if_pos ⟨fun hm => by have := h1 a hm; (first | lia | omega), .inr fun b hb => by
      rcases List.mem_cons.mp hb with rfl | hb
      · (first | lia | omega)
      · exact h1 b hb⟩
    rw [List.foldl_cons, e, fold_all fun b hb => h b (.tail _ hb)]
    simp
theorem fold_skip {ms acc : List Int} {x : Int} (h : dueStep ms acc x = acc) (xs : List Int) : xs.foldl (dueStep ms) acc = (skip x xs).foldl (dueStep ms) acc := by
  obtain ⟨l₁, e, k⟩ := skip_split x xs
  have go : ∀ l, l = l₁ ++ skip x xs → l.foldl (dueStep ms) acc = (skip x xs).foldl (dueStep ms) acc := by
    rintro _ rfl
    rw [List.foldl_append, fold_stay (l := l₁) fun a ha => by rw [k a ha]; exact h]
  exact go xs e
theorem diff_due : ∀ (f : Nat) (xs ys pre acc : List Int), xs.length + ys.length ≤ f → xs.Pairwise (· ≤ ·) → ys.Pairwise (· ≤ ·) → (∀ x ∈ xs, 0 ≤ x) → (∀ p ∈ pre, ∀ x ∈ xs, p < x) → (∀ a ∈ acc, ∀ x ∈ xs, a < x) →
    xs.foldl (dueStep (pre ++ ys)) acc = acc ++ (diff f xs ys).1
  | 0, xs, ys, pre, acc, hf, _, _, _, _, _ => by
    obtain rfl : xs = [] := List.length_eq_zero_iff.mp (by (first | lia | omega))
    simp [diff]
  | _ + 1, [], ys, pre, acc, _, _, _, _, _, _ => by simp [diff]
  | f + 1, x :: xs, [], pre, acc, _, hx, _, h0, hp, _ => by
    rw [List.append_nil]
    exact fold_all fun a ha => ⟨h0 a ha, fun b hb => hp b hb a ha⟩
  | f + 1, x :: xs, y :: ys, pre, acc, hf, hx, hy, h0, hp, ha => by
    have hy1 := (List.pairwise_cons.mp hy).1
    have hx2 := (List.pairwise_cons.mp hx).2
    have hy2 := (List.pairwise_cons.mp hy).2
    have ex := skip_split x xs
    have ey := skip_split y ys
    have lx := skip_len x xs
    have ly := skip_len y ys
    have gx := skip_gt hx
    have gy := skip_gt hy
    simp only [List.length_cons] at hf
    unfold diff
    rcases Int.lt_trichotomy x y with h | h | h
    · rw [if_pos h]
      have hn : x ∉ pre ++ y :: ys := fun hm => by
        rcases List.mem_append.mp hm with hm | hm
        · have := hp x hm x (.head _); (first | lia | omega)
        · rcases List.mem_cons.mp hm with hm | hm
          · (first | lia | omega)
          · have := hy1 x hm; (first | lia | omega)
      have hna : x ∉ acc := fun hm => by have := ha x hm x (.head _); (first | lia | omega)
      obtain ⟨l₁, e, k⟩ := ex
      have stay : dueStep (pre ++ y :: ys) (acc ++ [x]) x = acc ++ [x] := if_neg fun c => c.2.elim (fun d => d (by simp)) fun d => by
        have := d y (by simp)
        (first | lia | omega)
      rw [List.foldl_cons, step_new hn hna]
      rw [fold_skip stay, diff_due f (skip x xs) (y :: ys) pre (acc ++ [x]) (by simp only [List.length_cons]; (first | lia | omega)) (skip_sorted hx2) hy (fun a hm => h0 a (.tail _ (skip_sub x xs a hm))) (fun p hpm a hm => hp p hpm a (.tail _ (skip_sub x xs a hm))) (fun b hb a hm => ?_)]
      · simp
      · rcases List.mem_append.mp hb with hb | hb
        · exact ha b hb a (.tail _ (skip_sub x xs a hm))
        · rw [List.mem_singleton.mp hb]; exact gx a hm
    · subst h
      rw [if_neg (by (first | lia | omega)), if_neg (by (first | lia | omega))]
      obtain ⟨l₁, e, k⟩ := ex
      obtain ⟨l₂, e', k'⟩ := ey
      have hin : x ∈ pre ++ x :: ys := by simp
      have e3 : pre ++ x :: ys = (pre ++ x :: l₂) ++ skip x ys := by
        conv => lhs; rw [e']
        simp
      rw [List.foldl_cons, step_in hin, fold_skip (step_in hin), e3]
      refine diff_due f (skip x xs) (skip x ys) (pre ++ x :: l₂) acc (by (first | lia | omega)) (skip_sorted hx2) (skip_sorted hy2) (fun a hm => h0 a (.tail _ (skip_sub x xs a hm))) (fun p hpm a hm => ?_) (fun b hb a hm => ha b hb a (.tail _ (skip_sub x xs a hm)))
      rcases List.mem_append.mp hpm with hpm | hpm
      · exact hp p hpm a (.tail _ (skip_sub x xs a hm))
      · rcases List.mem_cons.mp hpm with rfl | hpm
        · exact gx a hm
        · rw [k' p hpm]; exact gx a hm
    · rw [if_neg (by (first | lia | omega)), if_pos h]
      obtain ⟨l₂, e', k'⟩ := ey
      have e3 : pre ++ y :: ys = (pre ++ y :: l₂) ++ skip y ys := by
        conv => lhs; rw [e']
        simp
      rw [e3]
      refine diff_due f (x :: xs) (skip y ys) (pre ++ y :: l₂) acc (by simp only [List.length_cons]; (first | lia | omega)) hx (skip_sorted hy2) h0 (fun p hpm a hm => ?_) ha
      have hax : x ≤ a := by
        rcases List.mem_cons.mp hm with rfl | hm
        · exact Int.le_refl _
        · exact (List.pairwise_cons.mp hx).1 a hm
      rcases List.mem_append.mp hpm with hpm | hpm
      · exact hp p hpm a hm
      · rcases List.mem_cons.mp hpm with rfl | hpm
        · (first | lia | omega)
        · rw [k' p hpm]; (first | lia | omega)
/-- the plain law -/
theorem diff_law {ns ms : List Int} (hn : Ranks ns) (hm : Ranks ms) : diff (ns.length + ms.length) ns ms = (dueOf ns ms, dueOf ms ns) := by
  have h1 := diff_due (ns.length + ms.length) ns ms [] [] (Nat.le_refl _) hn.2.1 hm.2.1 (fun x hx => (hn.2.2 x hx).1) (fun _ h => nomatch h) (fun _ h => nomatch h)
  have h2 := diff_due (ns.length + ms.length) ms ns [] [] (by (first | lia | omega)) hm.2.1 hn.2.1 (fun x hx => (hm.2.2 x hx).1) (fun _ h => nomatch h) (fun _ h => nomatch h)
  rw [diff_swap] at h2
  simp only [List.nil_append] at h1 h2
  exact Prod.ext h1.symm h2.symm

end
end Mine

namespace Mine
section
open PySem PySem.Calls PySem.W PyProof.Rows
/-- an exception as a list's code raises it, with its context c -/
structure NewX (h h' : Heap) (e : Addr) (c : Value) : Prop where
  keeps : ∀ b o, h.get? b = some o → h'.get? b = some o
  new : h.get? e = none
  there : ∃ ob vs, h'.get? e = some ob ∧ ob.cls = .type "IndexError" ∧ ob.data = .fields vs ∧ vs[1]? = some .none ∧ vs[2]? = some c
/-- what is handled here: nothing, or an exception of no context -/
def Hand (A : Around) (h : Heap) (c : Value) : Prop :=
  (A.handled = none ∧ c = .none) ∨ ∃ e1 ob vs, A.handled = some (.ref e1) ∧ c = .ref e1 ∧ h.get? e1 = some ob ∧ ob.data = .fields vs ∧ vs[2]? = some .none
theorem Hand.keeps {A : Around} {h h' : Heap} {c : Value} (H : Hand A h c) (k : ∀ b o, h.get? b = some o → h'.get? b = some o) : Hand A h' c := by
  rcases H with H | ⟨e1, ob, vs, a, b, d, r⟩
  · exact .inl H
  · exact .inr ⟨e1, ob, vs, a, b, k _ _ d, r⟩
theorem entry_unchain : entryFor table "proto.unchain" = some Builtin.«proto.unchain» := entryFor_of_fast (by kernel_rfl)
section
variable {α : Type} {prog : Program} {w : World} {A : Around} {E : Value → Shared → Prop} {s : Shared}
theorem raiseNew_hand {Q : α → Shared → Prop} {h0 : Heap} {e : Addr} {c : Value} (H : Hand A s.heap c) (keeps : ∀ b o, h0.get? b = some o → s.heap.get? b = some o) (hn : h0.get? e = none) (H0 : Hand A h0 c)
    {t : Value} (he : s.heap.get? e = some { cls := .type "IndexError", data := .fields #[t, .none, .none, .none, .bool false, .none] })
    (h : ∀ h', NewX h0 h' e c → E (.ref e) { s with heap := h' }) : wpAny (model prog w) A (raiseNew (.ref e) : Sem α) Q E s := by
  unfold raiseNew
  refine wpAny_bind (wpAny_handled ?_)
  rcases H with ⟨hh, rfl⟩ | ⟨e1, ob, vs, hh, rfl, h1, hd, h2⟩
  · rw [hh]
    have : E (.ref e) s := h s.heap ⟨keeps, hn, _, _, he, rfl, rfl, rfl, rfl⟩
    first
      | exact wpAny_throw this
      | exact wpAny_bind (wpAny_pure (wpAny_throw this))
  · rw [hh]
    dsimp only
    have h10 : ∃ o, h0.get? e1 = some o := by
      rcases H0 with ⟨hh', _⟩ | ⟨e1', ob', _, _, x, y, _⟩
      · rw [hh] at hh'; cases hh'
      · injection x with x; subst x; exact ⟨_, y⟩
    obtain ⟨o1, h10⟩ := h10
    have hne : e1 ≠ e := fun q => by rw [q, hn] at h10; cases h10
    have hne' : ((Value.ref e1) != (Value.ref e)) = true := by
      simp only [bne_iff_ne, ne_eq, Value.ref.injEq]; exact hne
    rw [if_pos hne']
    refine wpAny_bind (wpAny_holding (wpAny_runValue (codeAny_builtin entry_unchain ?_)))
    show wpAny _ _ (Builtin.«proto.unchain» ⟨[.ref e, .ref e1, .ref e1, .bool false], []⟩) _ _ s
    unfold Builtin.«proto.unchain»
    dsimp only
    refine wpAny_bind (wpAny_field h1 hd h2 ?_)
    rw [if_pos (by decide)]
    refine wpAny_pure ?_
    show wpAny _ _ _ _ _ _
    unfold updateField
    refine wpAny_bind (wpAny_bind (wpAny_load he ?_))
    dsimp only
    rw [if_pos (by show 2 < 6; decide)]
    refine wpAny_update he ?_
    refine wpAny_throw (h _ ⟨fun b o hb => ?_, hn, _, _, Heap.get?_update_self _ he rfl, rfl, rfl, rfl, rfl⟩)
    refine (Heap.get?_update_other _ _ ?_).trans (keeps b o hb)
    rintro rfl
    rw [hn] at hb; cases hb
theorem raiseWords_hand {msg : String} {Q : α → Shared → Prop} {c : Value} (H : Hand A s.heap c)
    (h : ∀ h' tk e, NewX s.heap h' e c → E (.ref e) { s with heap := h', toks := tk }) : wpAny (model prog w) A (raiseErrorWords "IndexError" msg : Sem α) Q E s := by
  unfold raiseErrorWords
  refine wpAny_bind (wpAny_mkText (wpAny_bind ?_))
  unfold newExc newTuple
  refine wpAny_bind (wpAny_newObj_type ?_)
  refine wpAny_bind (m := firstArgMember _ _) (wpAny_of_eq (a := Value.none) (by simp only [firstArgMember, plainExc_IndexError.first]; rfl) ?_)
  rw [plainExc_IndexError.own]
  refine wpAny_newObj_type ?_
  have k : ∀ b o, s.heap.get? b = some o → ((s.heap.push { cls := .type "tuple", data := .seq [Value.str (Str.ofString msg) s.toks].toArray }).push { cls := .type "IndexError", data := .fields (#[.ref s.heap.objs.size, .none, .none, .none, .bool false, .none] ++ #[]) }).get? b = some o :=
    fun b o hb => Heap.get?_push_of_some _ (Heap.get?_push_of_some _ hb)
  exact raiseNew_hand (h0 := s.heap) (H.keeps k) k (Heap.get?_none_of_le (by simp)) H (Heap.get?_push_size _ rfl) fun h' x => h h' _ _ x
theorem item_out {value slice : PySem.Expr} {l : Addr} {items : Array Value} {k : Int} {t : Tok} {c : Value} {Q : Value → Shared → Prop} (H : Hand A s.heap c) (hl : s.heap.IsList l items)
    (hout : (items.size : Int) ≤ k) (hlo : -(2 ^ 63) ≤ k) (hhi : k < 2 ^ 63)
    (hE : ∀ h' tk e, NewX s.heap h' e c → E (.ref e) { s with heap := h', toks := tk })
    (hsb : subscripted slice false (.ref l) (.int k t) = operate [.ref l, .int k t] (getItem (.ref l) (.int k t)) := by with_unfolding_all rfl) :
    wpAny (model prog w) A (subscriptTail value slice (.ref l) (.int k t)) Q E s := by
  refine tail_any hl.typeIs slot_list_getitem.lookup ?_ hsb
  clear hsb
  obtain ⟨o, ho, hc, ne, hd⟩ := id hl
  unfold getItem
  try with_reducible refine wpAny_holding ?_
  first | refine wpAny_bind (wpAny_pure ?_) | skip
  refine wpAny_bind (wpAny_sequenceKey hl.typeIs (by decide) ?_)
  refine wpAny_bind (wpAny_callSpecial?_slot (name := Str.ofString "__getitem__") hl.typeIs slot_list_getitem
    (wpAny_call_entry slot_list_getitem hl.typeIs entry_list_getitem ?_ (args_list_getitem _ _)))
  show wpAny _ _ (Builtin.List.listSubscript? (.int k t) >>= _) _ _ s
  refine wpAny_bind (wpAny_listSubscript_int (fitsIndex_both hlo hhi) ?_)
  clear hlo hhi
  cases k with
  | negSucc j => exact absurd hout (by have := Int.negSucc_lt_zero j; (first | lia | omega))
  | ofNat j =>
    have hx : items[j]? = none := Array.getElem?_eq_none (by have : (items.size : Int) ≤ (j : Int) := hout; (first | lia | omega))
    show wpAny _ _ ((seqItemAt l j >>= fun r => pure (r.map (j, ·))) >>= _) _ _ s
    refine wpAny_bind (wpAny_bind (wpAny_seqItemAt ho hd (wpAny_pure ?_)))
    rw [hx]
    exact wpAny_bind (wpAny_rule (wpAny_bind (raiseWords_hand H hE)))
end

end
end Mine

namespace Mine
section
open PySem PySem.Calls PySem.W PyProof.Rows
/-- all is as it was, but for the slots of the dict of the caller's names -/
def Back (L : Addr) (h h' : Heap) : Prop := (∀ b o, b ≠ L → h.get? b = some o → h'.get? b = some o) ∧ ∀ o, h.get? L = some o → ∃ sl, h'.get? L = some { o with slots := sl }
theorem Back.fr {h₀ h h' : Heap} {L : Addr} {m : Str → Option Value} (K : Back L h h') (F : Fr h₀ L h m) : Fr h₀ L h' m := by
  obtain ⟨o, es, ep, ho, r⟩ := F.ns
  obtain ⟨sl, hs⟩ := K.2 o ho
  exact ⟨⟨_, es, ep, hs, r⟩, fun b o e => K.1 b o (Nat.ne_of_lt (Nat.lt_of_lt_of_le (Heap.lt_size e) F.above)) (F.keep b o e), F.above⟩
theorem Back.news {h₀ h h' : Heap} {L : Addr} {news : List (Addr × Obj)} (K : Back L h h') (N : News h₀ L h news) : News h₀ L h' news := fun p hp => ⟨K.1 _ _ (N p hp).2.1 (N p hp).1, (N p hp).2⟩
abbrev hid (h : Heap) (L : Addr) : Heap := TI.gone h [L]
theorem hid_get {h : Heap} {L b : Addr} (hb : b ≠ L) : (hid h L).get? b = h.get? b := TI.gone_get fun hm => hb (List.mem_singleton.mp hm)
theorem hid_some {h : Heap} {L b : Addr} {o : Obj} (e : (hid h L).get? b = some o) : b ≠ L ∧ h.get? b = some o := by
  obtain ⟨a, b⟩ := TI.gone_some e
  exact ⟨fun q => a (by rw [q]; exact List.mem_singleton_self _), b⟩
theorem hid_keeps {h₀ h : Heap} {L : Addr} {m : Str → Option Value} (F : Fr h₀ L h m) : ∀ b o, h₀.get? b = some o → (hid h L).get? b = some o := fun b o e =>
  (hid_get (Nat.ne_of_lt (Nat.lt_of_lt_of_le (Heap.lt_size e) F.above))).trans (F.keep b o e)
theorem hid_size (h : Heap) (L : Addr) : (hid h L).objs.size = h.objs.size := by
  show (Heap.update h L _).objs.size = _
  exact Heap.size_after_update ..
inductive EndS (s : Shared) (g : Heap) (Lc : Addr) (oc : Obj) (post : Heap → Value → Heap → Prop) : Value → Shared → Prop
  | mk (v : Value) (h' : Heap) (tk' : Nat) (sl : Array (Option Value)) (k : StaysIn g h') (hl : h'.get? Lc = some { oc with slots := sl }) (q : post g v h') : EndS s g Lc oc post v { s with heap := h', toks := tk' }
def ConS (prog : Program) (w : World) (K : Frag) (f : Addr) (lev : Nat) (vals : List Value) (pre : Heap → Prop) (post : Heap → Value → Heap → Prop) : Prop :=
  ∀ (dp un : Nat) (gd : Option (List Code)) (cn : Str) (cs : Scope) (a : Addr) (ccd : Value) (cl : List (Str × Addr)) (h₀ : Heap) (L : Addr) (m : Str → Option Value) (mean : ExcName → Option Value) (mg mb : Str → Option Value) (s : Shared) (Q E : Value → Shared → Prop),
    Fr h₀ L s.heap m → K.In h₀ → Top hd.view_39 (looseW hd.view_39 [Str.ofString "_tuplegetter", Str.ofString "Pair"]) mean mg mb h₀ → cs.kind = .function →
    dp + 8 * lev < recursionLimit → un + 64 * lev < cLine → pre (hid s.heap L) →
    (∀ v h' tk', Back L s.heap h' → post (hid s.heap L) v h' → Q v { s with heap := h', toks := tk' }) →
    codeAny (model prog w) (ktrTop dp un gd cn cs L a ccd cl []) (.call (.ref f) ⟨vals, []⟩) (fun r s' => match r with | .ok (.ret v) => Q v s' | .ok _ => False | .error e => E e s') s
theorem ConS.use {prog : Program} {w : World} {K : Frag} {f : Addr} {lev : Nat} {vals : List Value} {pre : Heap → Prop} {post : Heap → Value → Heap → Prop} (C : ConS prog w K f lev vals pre post)
    {dp un : Nat} {gd : Option (List Code)} {cn : Str} {cs : Scope} {a : Addr} {ccd : Value} {cl : List (Str × Addr)} {h₀ : Heap} {L : Addr} {m : Str → Option Value} {mean : ExcName → Option Value} {mg mb : Str → Option Value} {s : Shared} {Q E : Value → Shared → Prop} {news : List (Addr × Obj)}
    (F : Fr h₀ L s.heap m) (X : K.In h₀) (N : News h₀ L s.heap news) (T : Top hd.view_39 (looseW hd.view_39 [Str.ofString "_tuplegetter", Str.ofString "Pair"]) mean mg mb h₀) (hk : cs.kind = .function)
    (hd : dp + 8 * lev < recursionLimit) (hu : un + 64 * lev < cLine) (hp : pre (hid s.heap L))
    (ret : ∀ v h' tk', Fr h₀ L h' m → News h₀ L h' news → Back L s.heap h' → post (hid s.heap L) v h' → Q v { s with heap := h', toks := tk' }) :
    wpAny (model prog w) (ktrTop dp un gd cn cs L a ccd cl []) (call (.ref f) vals) Q E s :=
  wpAny_call (C _ _ _ _ _ _ _ _ _ _ _ _ _ _ _ _ _ F X T hk hd hu hp fun v h' tk' k q => ret v h' tk' (k.fr F) (k.news N) k q)
theorem con_enterS {prog : Program} {w : World} {K : Frag} {f : Addr} {lev : Nat} {vals : List Value} {pre : Heap → Prop} {post : Heap → Value → Heap → Prop}
    {name qual : Str} {params : Arguments} {body : List Stmt} {scope : Scope} {dV kV doc pm cdv ct oc : Value} {an od : Option Addr} {osl : Array (Option Value)} {binds : List (Str × Value)}
    (ho : K.lookup f = some ⟨oc, od, .func (fnOf name qual params body scope dV kV doc pm an cdv ct), osl⟩) (hcd : codeIn K cdv qual = true)
    (hbind : ∀ s : Shared, K.In s.heap → BindsTo s (fnOf name qual params body scope dV kV doc pm an cdv ct) ⟨vals, []⟩ binds) (hloc : ∀ y ∈ binds, scope.names.lookup y.1 = some .local)
    (hcell : ∀ x ∈ scope.names, x.2 ≠ .cell) (hco : scope.isCoroutine = false) (hgen : scope.isGenerator = false) (hk : scope.kind = .function) (hlev : 1 ≤ lev)
    (h : ∀ (dp un : Nat) (gd : Option (List Code)) (env0 : Env) (mean : ExcName → Option Value) (mg mb : Str → Option Value) (s : Shared) (g : Heap) (L' Lc : Addr) (oc : Obj) (h₁ : Heap) (tk : Nat),
      K.In g → Top hd.view_39 (looseW hd.view_39 [Str.ofString "_tuplegetter", Str.ofString "Pair"]) mean mg mb g →
      dp + 7 + 8 * (lev - 1) < recursionLimit → un + 61 + 64 * (lev - 1) < cLine → pre g → env0.scope.kind ≠ .module → env0.frame = some Lc → (∃ es ep, oc.data = .dict es ep) → @Ne Nat Lc L' →
      Fr g L' h₁ (fun y => binds.reverse.lookup y) → News g L' h₁ [(Lc, oc)] →
      wpAny (model prog w) (ktrTop dp un gd qual scope L' f cdv [] [env0]) (execs body (envOf qual scope L' f cdv))
        (fun fl s' => EndS s g Lc oc post (match fl with | .ret v => v | _ => .none) s') (fun _ _ => False) { s with heap := h₁, toks := tk }) :
    ConS prog w K f lev vals pre post := by
  intro dp un gd cn cs a ccd cl h₀ L m mean mg mb s Q E F X T hkc hd hu hp ret
  have Xs : K.In s.heap := X.keeps F.keep
  refine (codeAny_call_def (fd := fnOf name qual params body scope dV kV doc pm an cdv ct) (body := body) (binds := binds) ?_ (Xs _ _ ho) rfl ((T.keeps F.keep).nolimit) (codeRec_of Xs hcd) rfl (hbind s Xs) hcell hloc (fun h₁ hns hk₁ => ?_) hco hgen hk)
  · show dp < recursionLimit
    (first | lia | omega)
  · obtain ⟨oL, es, ep, hL, hLd, hLk, hLf⟩ := F.ns
    have z := h (dp + 1) (un + 3) gd (envX cn cs L a ccd cl) mean mg mb s (hid s.heap L) s.heap.objs.size L oL h₁ (s.toks + binds.length) (X.keeps (hid_keeps F)) (T.keeps (hid_keeps F)) (by (first | lia | omega)) (by (first | lia | omega)) hp
      (by show cs.kind ≠ _; rw [hkc]; decide) rfl ⟨es, ep, hLd⟩ (Nat.ne_of_lt F.ns.lt)
      ⟨hns, fun b o e => hk₁ b o (hid_some e).2, Nat.le_of_eq (hid_size _ _)⟩
      (fun p hp => by
        rw [List.mem_singleton.mp hp]
        exact ⟨hk₁ _ _ hL, Nat.ne_of_lt F.ns.lt, TI.gone_none (List.mem_singleton_self _)⟩)
    refine wpAny_mono z (fun fl s' hq => ?_) fun _ _ x => x.elim
    obtain ⟨h', tk', sl, k, hl, q⟩ := hq
    refine ret _ h' tk' ⟨fun b o hb e => k b o ((hid_get hb).trans e), fun o e => ?_⟩ q
    rw [hL] at e
    cases e
    exact ⟨sl, hl⟩

/-- an exception with its entry T -/
def ExcIn (T : Addr) (oe oT : Obj) (fl c : Value) : Prop := oe.cls = .type "IndexError" ∧ ∃ vs ts, oe.data = .fields vs ∧ vs[1]? = some (.ref T) ∧ vs[2]? = some c ∧ oT.data = .fields ts ∧ ts[3]? = some fl
section
variable {M : Model} {A : Around} {E : Value → Shared → Prop} {s : Shared} {g : Heap} {L' Lc e T : Addr} {m : Str → Option Value} {oe oT oc : Obj} {fl c : Value} {rest news : List (Addr × Obj)} {Q : Unit → Shared → Prop}
theorem fr_update {h : Heap} {b : Addr} {f : Obj → Obj} (F : Fr g L' h m) (hb : b ≠ L') (h0 : g.get? b = none) : Fr g L' (h.update b f) m := by
  obtain ⟨o, es, ep, ho, r⟩ := F.ns
  exact ⟨⟨o, es, ep, (Heap.get?_update_other _ _ hb).trans ho, r⟩, fun x o e => (Heap.get?_update_other _ _ fun q => by rw [q] at h0; rw [h0] at e; cases e).trans (F.keep x o e), F.above⟩
theorem set_flight (fl' : Option Addr) (F : Fr g L' s.heap m) (N : News g L' s.heap ((e, oe) :: (T, oT) :: rest)) (X : ExcIn T oe oT fl c) (hTe : @Ne Nat T e) (hTr : ∀ p ∈ rest, @Ne Nat p.1 T)
    (k : ∀ h' oT', Fr g L' h' m → News g L' h' ((e, oe) :: (T, oT') :: rest) → ExcIn T oe oT' (fl'.elim .none fun f => rawInt f) c → Q () { s with heap := h' }) : wpAny M A (setFlight (.ref e) fl') Q E s := by
  obtain ⟨hc, vs, ts, hd, h1, h2, hdT, h3⟩ := X
  have hsz : 3 < ts.size := (Array.getElem?_eq_some_iff.mp h3).1
  obtain ⟨ge, e1, e2⟩ := N _ (.head _)
  obtain ⟨gT, t1, t2⟩ := N _ (.tail _ (.head _))
  unfold setFlight
  refine wpAny_bind (wpAny_field ge hd h1 ?_)
  rw [if_pos (show (Value.ref T != Value.none) = true from by simp)]
  have other : ∀ b, @Ne Nat b T → (s.heap.update T (Obj.mapFields (·.setIfInBounds 3 (fl'.elim .none fun f => rawInt f)))).get? b = s.heap.get? b := fun b hb => Heap.get?_update_other _ _ (Ne.symm hb)
  refine wpAny_setField gT hdT hsz (k _ _ (fr_update F t1 t2) (fun p hp => ?_) ⟨hc, vs, _, hd, h1, h2, Obj.data_mapFields hdT (·.setIfInBounds 3 (fl'.elim .none fun f => rawInt f)), by simp [hsz]⟩)
  rcases List.mem_cons.mp hp with rfl | hp
  · exact ⟨(other _ (Ne.symm hTe)).trans ge, e1, e2⟩
  · rcases List.mem_cons.mp hp with rfl | hp
    · exact ⟨Heap.get?_update_self _ gT (Obj.isFreed_of_fields (Obj.data_mapFields hdT _)), t1, t2⟩
    · have z := N p (.tail _ (.tail _ hp))
      exact ⟨(other _ (hTr p hp)).trans z.1, z.2⟩
theorem note_again {env : Env} (hf : env.frame = some L') (N : News g L' s.heap ((e, oe) :: (T, oT) :: rest)) (X : ExcIn T oe oT (rawInt L') c) (k : Q () s) : wpAny M A (noteFrame (.ref e) env) Q E s := by
  obtain ⟨hc, vs, ts, hd, h1, h2, hdT, h3⟩ := X
  exact wpAny_noteFrame_inFlight hf (N _ (.head _)).1 hd h1 (N _ (.tail _ (.head _))).1 hdT h3 k
theorem came_back {env : Env} (hf : env.frame = some L') (F : Fr g L' s.heap m) (N : News g L' s.heap ((e, oe) :: (T, oT) :: rest)) (X : ExcIn T oe oT fl c) (hTe : @Ne Nat T e) (hTr : ∀ p ∈ rest, @Ne Nat p.1 T)
    (k : ∀ h' oT', Fr g L' h' m → News g L' h' ((e, oe) :: (T, oT') :: rest) → ExcIn T oe oT' (rawInt L') c → E (.ref e) { s with heap := h' }) : cameBackBy M A env E (.ref e) s := by
  have X' := X
  obtain ⟨hc, vs, ts, hd, h1, h2, hdT, h3⟩ := X'
  unfold cameBackBy
  refine wpAny_bind (wpAny_field (N _ (.head _)).1 hd h1 ?_)
  rw [if_neg (show ¬ ((Value.ref T == Value.none) = true) from by simp)]
  rw [hf]
  first
    | exact set_flight (some L') F N X hTe hTr k
    | exact wpAny_bind (wpAny_pure (set_flight (some L') F N X hTe hTr k))
theorem pass_on {α : Type} {what : String} {env : Env} {Q : α → Shared → Prop} (hf : env.frame = some L') (F : Fr g L' s.heap m) (N : News g L' s.heap ((e, oe) :: (T, oT) :: rest)) (X : ExcIn T oe oT fl c) (hTe : @Ne Nat T e) (hTr : ∀ p ∈ rest, @Ne Nat p.1 T)
    (k : ∀ h' oT', Fr g L' h' m → News g L' h' ((e, oe) :: (T, oT') :: rest) → ExcIn T oe oT' (rawInt L') c → E (.ref e) { s with heap := h' }) : wpAny M A (PySem.passOn what (.ref e) env) Q E s := by
  have X' := X
  obtain ⟨hc, vs, ts, hd, h1, h2, hdT, h3⟩ := X'
  unfold PySem.passOn
  refine wpAny_bind (wpAny_field (N _ (.head _)).1 hd h1 ?_)
  rw [if_neg (show ¬ ((Value.ref T == Value.none) = true) from by simp)]
  rw [hf]
  first
    | exact wpAny_bind (set_flight (some L') F N X hTe hTr fun h' oT' a b d => wpAny_throw (k h' oT' a b d))
    | exact wpAny_bind (wpAny_pure (wpAny_bind (set_flight (some L') F N X hTe hTr fun h' oT' a b d => wpAny_throw (k h' oT' a b d))))
def emp : Heap := { objs := #[] }
theorem get?_nil (b : Addr) : emp.get? b = none := Heap.get?_none_of_le (Nat.zero_le _)
theorem note_new {env env0 : Env} {h : Heap} (hfr : A.frames = some [env, env0]) (hf : env.frame = some L') (hk : env.scope.kind ≠ .module) (hf0 : env0.frame = some Lc) (hk0 : env0.scope.kind ≠ .module) (x : NewX h s.heap e c)
    (F : Fr g L' h m) (N : News g L' h (news ++ [(Lc, oc)])) (hoc : ∃ es ep, oc.data = .dict es ep) (hne : ∀ p ∈ news, @Ne Nat p.1 Lc)
    (k : ∀ h' T oe oT sl, Fr g L' h' m → News g L' h' ((e, oe) :: (T, oT) :: (news ++ [(Lc, { oc with slots := sl })])) → ExcIn T oe oT (rawInt L') c → @Ne Nat T e → (∀ p ∈ news ++ [(Lc, { oc with slots := sl })], @Ne Nat p.1 T) → (∀ p ∈ news ++ [(Lc, { oc with slots := sl })], @Ne Nat p.1 e) → Q () { s with heap := h' }) :
    wpAny M A (noteFrame (.ref e) env) Q E s := by
  obtain ⟨ob, vs, he, hcls, hd, h1, h2⟩ := x.there
  have hsz : 1 < vs.size := (Array.getElem?_eq_some_iff.mp h1).1
  obtain ⟨oL, es, ep, hL, hLd, hLr⟩ := F.ns
  obtain ⟨esc, epc, hocd⟩ := hoc
  have hLc := (N (Lc, oc) (List.mem_append_right _ (List.mem_singleton_self _)))
  have hLs := x.keeps _ _ hL
  have hLcs := x.keeps _ _ hLc.1
  have hLe : @Ne Nat L' e := fun q => by have := x.new; rw [← q, hL] at this; cases this
  have hLce : @Ne Nat Lc e := fun q => by have := x.new; rw [← q, hLc.1] at this; cases this
  have hl : s.heap.FunFrames emp [env, env0] := ⟨hk, ⟨L', oL, hf, get?_nil _, hLs, fun vs q => by rw [hLd] at q; cases q⟩, hk0, ⟨Lc, oc, hf0, get?_nil _, hLcs, fun vs q => by rw [hocd] at q; cases q⟩, trivial⟩
  have hfs : [env, env0].filterMap (·.frame) = [L', Lc] := by simp [hf, hf0]
  unfold noteFrame
  simp only [hf]
  refine wpAny_bind (wpAny_field he hd h1 ?_)
  rw [if_neg (by decide)]
  refine wpAny_bind (wpAny_frameOf_fun hfr hl hf fun h₁ hs₁ => ?_)
  rw [hfs] at hs₁
  refine wpAny_bind (wpAny_entryPlaceOf fun pl hpl => ?_)
  unfold EntryCells.newEntry newFields
  refine wpAny_bind (wpAny_newObj_type ?_ (hpl.sizeOk5 _ _ _ _ _))
  have hTS3 : ([Value.none, .ref L', .none, rawInt L', .none] ++ (if pl.isEmpty then List.replicate 6 Value.none else pl)).toArray[3]? = some (rawInt L') := by simp
  generalize ([Value.none, .ref L', .none, rawInt L', .none] ++ (if pl.isEmpty then List.replicate 6 Value.none else pl)).toArray = TS at hTS3 ⊢
  have he₁ : h₁.get? e = some ob := (hs₁.2.1 e fun hm => by simp only [List.mem_cons, List.not_mem_nil, or_false] at hm; rcases hm with q | q; exact hLe q.symm; exact hLce q.symm).trans he
  have he₂ := Heap.get?_push_of_some (h := h₁) { cls := .type "traceback", dict := none, data := .fields TS } he₁
  refine wpAny_setField he₂ hd hsz ?_
  have hd₃ := Obj.data_mapFields hd (·.setIfInBounds 1 (Value.ref h₁.objs.size))
  have hTe : @Ne Nat h₁.objs.size e := Nat.ne_of_gt (Heap.lt_size he₁)
  have hT0 : s.heap.get? h₁.objs.size = none := by rw [hs₁.1]; exact Heap.get?_none_of_le (Nat.le_refl _)
  have hTh : h.get? h₁.objs.size = none := by
    cases q : h.get? h₁.objs.size with
    | none => rfl
    | some o => rw [x.keeps _ _ q] at hT0; cases hT0
  have hTg : g.get? h₁.objs.size = none := by
    cases q : g.get? h₁.objs.size with
    | none => rfl
    | some o => rw [F.keep _ _ q] at hTh; cases hTh
  have heg : g.get? e = none := by
    cases q : g.get? e with
    | none => rfl
    | some o => have := F.keep _ _ q; rw [x.new] at this; cases this
  have up : ∀ b o, @Ne Nat b e → h₁.get? b = some o → ((h₁.push { cls := .type "traceback", dict := none, data := .fields TS }).update e (Obj.mapFields (·.setIfInBounds 1 (Value.ref h₁.objs.size)))).get? b = some o :=
    fun b o hb e1 => (Heap.get?_update_other _ _ (Ne.symm hb)).trans (Heap.get?_push_of_some _ e1)
  have keep : ∀ b o, b ≠ L' → b ≠ Lc → h.get? b = some o → h₁.get? b = some o := fun b o h1 h2 e1 => (hs₁.2.1 b fun hm => by simp only [List.mem_cons, List.not_mem_nil, or_false] at hm; exact hm.elim h1 h2).trans (x.keeps b o e1)
  have neE : ∀ b o, h.get? b = some o → @Ne Nat b e := fun b o e1 q => by rw [q, x.new] at e1; cases e1
  have neT : ∀ b o, h.get? b = some o → @Ne Nat b h₁.objs.size := fun b o e1 q => by rw [q, hTh] at e1; cases e1
  obtain ⟨slL, hsL⟩ := hs₁.2.2 _ _ hLs
  obtain ⟨slc, hsc⟩ := hs₁.2.2 _ _ hLcs
  have mem : ∀ p ∈ news ++ [(Lc, ({ oc with slots := slc } : Obj))], ∃ o, h.get? p.1 = some o := fun p hp => by
    rcases List.mem_append.mp hp with hp | hp
    · exact ⟨_, (N p (List.mem_append_left _ hp)).1⟩
    · rw [List.mem_singleton.mp hp]; exact ⟨_, hLc.1⟩
  refine k _ h₁.objs.size (Obj.mapFields (·.setIfInBounds 1 (Value.ref h₁.objs.size)) ob) { cls := .type "traceback", dict := none, data := .fields TS } slc ⟨⟨_, es, ep, up _ _ hLe hsL, hLd, hLr⟩, fun b o e1 => ?_, F.above⟩ (fun p hp => ?_) ⟨?_, _, _, hd₃, by simp [hsz], ?_, rfl, hTS3⟩ hTe (fun p hp => (mem p hp).elim fun o e1 => neT _ _ e1) (fun p hp => (mem p hp).elim fun o e1 => neE _ _ e1)
  · have e2 := F.keep b o e1
    exact up b o (neE _ _ e2) (keep b o (Nat.ne_of_lt (Nat.lt_of_lt_of_le (Heap.lt_size e1) F.above)) (fun q => by rw [q, hLc.2.2] at e1; cases e1) e2)
  · rcases List.mem_cons.mp hp with rfl | hp
    · exact ⟨Heap.get?_update_self _ he₂ (Obj.isFreed_of_fields hd₃), Ne.symm hLe, heg⟩
    · rcases List.mem_cons.mp hp with rfl | hp
      · exact ⟨(Heap.get?_update_other _ _ (Ne.symm hTe)).trans (Heap.get?_push_size _ rfl), Ne.symm (neT _ _ hL), hTg⟩
      · rcases List.mem_append.mp hp with hp | hp
        · have z := N p (List.mem_append_left _ hp)
          exact ⟨up _ _ (neE _ _ z.1) (keep _ _ z.2.1 (hne p hp) z.1), z.2⟩
        · rw [List.mem_singleton.mp hp]
          exact ⟨up _ _ hLce hsc, hLc.2⟩
  · exact (Obj.cls_mapFields _ _).trans hcls
  · rw [Array.getElem?_setIfInBounds_ne (by decide)]; exact h2
end

end
end Mine

namespace Mine
section
open PySem PySem.Calls PySem.W PyProof.Rows
/-- an exception flies at our frame; m: the names, N₀: the ledger but for the caller's dict -/
inductive Fly (g : Heap) (L' Lc : Addr) (oc : Obj) (s : Shared) (m : Str → Option Value) (N₀ : List (Addr × Obj)) (c : Value) : Value → Shared → Prop
  | mk (e1 T : Addr) (oe oT : Obj) (sl : Array (Option Value)) (h : Heap) (tk : Nat) (F : Fr g L' h m) (N : News g L' h ((e1, oe) :: (T, oT) :: (N₀ ++ [(Lc, { oc with slots := sl })])))
    (X : ExcIn T oe oT (rawInt L') c) (hTe : @Ne Nat T e1) (hT : ∀ p ∈ N₀ ++ [(Lc, ({ oc with slots := sl } : Obj))], @Ne Nat p.1 T) (he : ∀ p ∈ N₀ ++ [(Lc, ({ oc with slots := sl } : Obj))], @Ne Nat p.1 e1) : Fly g L' Lc oc s m N₀ c (.ref e1) { s with heap := h, toks := tk }
def Takes (g : Heap) (L' Lc : Addr) (oc : Obj) (s : Shared) (m : Str → Option Value) (N₀ : List (Addr × Obj)) (c : Value) (E : Value → Shared → Prop) : Prop := ∀ e s', Fly g L' Lc oc s m N₀ c e s' → E e s'
section
variable {prog : Program} {w : World} {A A' : Around} {E : Value → Shared → Prop} {s : Shared} {g : Heap} {L' Lc : Addr} {oc : Obj} {m : Str → Option Value} {N₀ : List (Addr × Obj)} {env env0 : Env} {c : Value}
theorem takes_back (hf : env.frame = some L') (H : Takes g L' Lc oc s m N₀ c E) : Takes g L' Lc oc s m N₀ c (cameBackBy (model prog w) A env E)
  | _, _, .mk e1 T oe _ sl h tk F N X hTe hT he => came_back (s := { s with heap := h, toks := tk }) hf F N X hTe hT fun h' oT' F' N' X' => H _ _ (.mk e1 T oe oT' sl h' tk F' N' X' hTe hT he)
theorem takes_note (hf : env.frame = some L') (H : Takes g L' Lc oc s m N₀ c E) : Takes g L' Lc oc s m N₀ c (notedBy (model prog w) A env E)
  | _, _, .mk e1 T oe oT sl h tk F N X hTe hT he => note_again (s := { s with heap := h, toks := tk }) hf N X (H _ _ (.mk e1 T oe oT sl h tk F N X hTe hT he))
theorem takes_noted (hf : env.frame = some L') (H : Takes g L' Lc oc s m N₀ c E) : Takes g L' Lc oc s m N₀ c (notedBy (model prog w) A env (cameBackBy (model prog w) A' env E)) := takes_note hf (takes_back hf H)
/-- a new exception is noted: it flies -/
theorem fresh_note {h : Heap} {e : Addr} {tk : Nat} {h' : Heap} {sl : Array (Option Value)} {Q : Unit → Shared → Prop} (hfr : A.frames = some [env, env0]) (hf : env.frame = some L') (hk : env.scope.kind ≠ .module) (hf0 : env0.frame = some Lc) (hk0 : env0.scope.kind ≠ .module) (x : NewX h h' e c)
    (F : Fr g L' h m) (N : News g L' h (N₀ ++ [(Lc, { oc with slots := sl })])) (hoc : ∃ es ep, oc.data = .dict es ep) (hne : ∀ p ∈ N₀, @Ne Nat p.1 Lc) (k : ∀ s', Fly g L' Lc oc s m N₀ c (.ref e) s' → Q () s') :
    wpAny (model prog w) A (noteFrame (.ref e) env) Q E { s with heap := h', toks := tk } :=
  note_new (s := { s with heap := h', toks := tk }) (oc := { oc with slots := sl }) hfr hf hk hf0 hk0 x F N hoc hne fun h'' T oe oT sl' F' N' X hTe hT he => k _ (.mk e T oe oT sl' h'' tk F' N' X hTe hT he)
theorem fresh_noted {h : Heap} {e : Addr} {tk : Nat} {h' : Heap} {sl : Array (Option Value)} (hfr : A.frames = some [env, env0]) (hf : env.frame = some L') (hk : env.scope.kind ≠ .module) (hf0 : env0.frame = some Lc) (hk0 : env0.scope.kind ≠ .module) (x : NewX h h' e c)
    (F : Fr g L' h m) (N : News g L' h (N₀ ++ [(Lc, { oc with slots := sl })])) (hoc : ∃ es ep, oc.data = .dict es ep) (hne : ∀ p ∈ N₀, @Ne Nat p.1 Lc) (H : Takes g L' Lc oc s m N₀ c E) :
    notedBy (model prog w) A env (cameBackBy (model prog w) A' env E) (.ref e) { s with heap := h', toks := tk } :=
  fresh_note hfr hf hk hf0 hk0 x F N hoc hne fun s' hfl => takes_back hf H _ _ hfl
theorem skip_drop {r : Int} : ∀ {k : Nat} {zs : List Int}, (∀ q, q < k → zs[q]? = some r) → skip r zs = skip r (zs.drop k)
  | 0, _, _ => rfl
  | k + 1, [], h => by have := h 0 (by (first | lia | omega)); simp at this
  | k + 1, z :: zs, h => by
    have h0 : z = r := by simpa using h 0 (by (first | lia | omega))
    show skip r (z :: zs) = skip r (zs.drop k)
    rw [← skip_drop (k := k) (zs := zs) fun q hq => by simpa using h (q + 1) (by (first | lia | omega))]
    conv => lhs; unfold skip
    rw [if_pos h0]
theorem skip_at {r z : Int} {k : Nat} {zs : List Int} (h : zs[k]? = some z) (hz : z ≠ r) : skip r (zs.drop k) = zs.drop k := by
  obtain ⟨hk, e⟩ := List.getElem?_eq_some_iff.mp h
  rw [List.drop_eq_getElem_cons hk, e]
  unfold skip
  rw [if_neg hz]
/-- the names, with the index at n -/
def at' (x : Str) (n : Nat) (t : Tok) (m₀ : Str → Option Value) : Str → Option Value := fun y => if y = x then some (.int ((n : Nat) : Int) t) else m₀ y
theorem at_self {x : Str} {n : Nat} {t : Tok} {m₀ : Str → Option Value} (h : m₀ x = some (.int ((n : Nat) : Int) t)) : at' x n t m₀ = m₀ := by
  funext y
  unfold at'
  by_cases e : y = x
  · rw [if_pos e, e, h]
  · rw [if_neg e]
def GoEnd (s : Shared) (h : Heap) (c b : Bool) (s₂ : Shared) : Prop := ∃ tk', b = c ∧ s₂ = { s with heap := h, toks := tk' }
theorem GoEnd.mk {s : Shared} {h : Heap} {c : Bool} {tk : Nat} : GoEnd s h c c { s with heap := h, toks := tk } := ⟨_, rfl, rfl⟩
def StepEnd (s : Shared) (P : Tok → Heap → Prop) (f : Flow) (s₃ : Shared) : Prop := ∃ h' tk' t', f = .next ∧ s₃ = { s with heap := h', toks := tk' } ∧ P t' h'
def OutEnd (s : Shared) (h : Heap) (c : Value) (e : Value) (s' : Shared) : Prop := ∃ h' tk' e1, e = .ref e1 ∧ s' = { s with heap := h', toks := tk' } ∧ NewX h h' e1 c
def LessI (I : Nat → Shared → Prop) (n : Nat) (s : Shared) : Prop := ∃ m, m < n ∧ I m s
theorem while_out {test : PySem.Expr} {body : List Stmt} {pos : Pos} {Q : Flow → Shared → Prop} (I : Nat → Shared → Prop) (n : Nat) (h : I n s)
    (turn : ∀ n s, I n s → wpAny (model prog w) A (isTrue test env (eval test env)) (fun b s₂ =>
        if b then wpAny (model prog w) A (execs body env) (fun f s₃ => match f with
            | .next | .cont => LessI I n s₃
            | .brk => Q .next s₃
            | .ret v => Q (.ret v) s₃) (fun _ _ => False) s₂
        else Q .next s₂) (fun _ _ => False) s) :
    wpAny (model prog w) A (exec (.While test body [] pos) env) Q E s := by
  refine wpAny_While (codeAny_whileLoop I (fun n s hI => ?_) n h)
  refine wpAny_mono (turn n s hI) (fun b s₂ h₂ => ?_) fun _ _ x => x.elim
  cases b with
  | false =>
    simp only [Bool.false_eq_true, if_false] at h₂ ⊢
    rw [execs_nil]
    exact wpAny_pure h₂
  | true =>
    simp only [if_true] at h₂ ⊢
    exact wpAny_mono h₂ (fun f s₃ h₃ => by cases f <;> exact h₃) fun _ _ x => x.elim
theorem inner_while {test : PySem.Expr} {body : List Stmt} {pos : Pos} {Q : Flow → Shared → Prop} (x : Str) {m₀ : Str → Option Value} {zs : List Int} {r : Int} {n0 : Nat} {t0 : Tok} {sl : Array (Option Value)} {h1 : Heap} {tk1 : Nat} (c : Value)
    (hfr : A.frames = some [env, env0]) (hf : env.frame = some L') (hk : env.scope.kind ≠ .module) (hf0 : env0.frame = some Lc) (hk0 : env0.scope.kind ≠ .module) (hoc : ∃ es ep, oc.data = .dict es ep) (hne : ∀ p ∈ N₀, @Ne Nat p.1 Lc)
    (F : Fr g L' h1 m₀) (N : News g L' h1 (N₀ ++ [(Lc, { oc with slots := sl })])) (hx : m₀ x = some (.int ((n0 : Nat) : Int) t0))
    (go : ∀ k z t h tk, zs[k]? = some z → Fr g L' h (at' x (n0 + k) t m₀) → News g L' h (N₀ ++ [(Lc, { oc with slots := sl })]) →
      wpAny (model prog w) A (isTrue test env (eval test env)) (GoEnd s h (decide (z = r))) (fun _ _ => False) { s with heap := h, toks := tk })
    (step : ∀ k t h tk, k < zs.length → Fr g L' h (at' x (n0 + k) t m₀) → News g L' h (N₀ ++ [(Lc, { oc with slots := sl })]) →
      wpAny (model prog w) A (execs body env) (StepEnd s fun t' h' => Fr g L' h' (at' x (n0 + (k + 1)) t' m₀) ∧ News g L' h' (N₀ ++ [(Lc, { oc with slots := sl })])) (fun _ _ => False) { s with heap := h, toks := tk })
    (out : ∀ t h tk, Fr g L' h (at' x (n0 + zs.length) t m₀) → News g L' h (N₀ ++ [(Lc, { oc with slots := sl })]) →
      wpAny (model prog w) A (isTrue test env (eval test env)) (fun _ _ => False) (OutEnd s h c) { s with heap := h, toks := tk })
    (takes : skip r zs = [] → ∀ t, Takes g L' Lc oc s (at' x (n0 + zs.length) t m₀) N₀ c E)
    (done : ∀ k t h tk, k < zs.length → skip r zs = zs.drop k → Fr g L' h (at' x (n0 + k) t m₀) → News g L' h (N₀ ++ [(Lc, { oc with slots := sl })]) → Q .next { s with heap := h, toks := tk }) :
    wpAny (model prog w) A (exec (.While test body [] pos) env) Q E { s with heap := h1, toks := tk1 } := by
  refine wpAny_While (codeAny_whileLoop (fun n s' => ∃ k t h tk, n = zs.length - k ∧ k ≤ zs.length ∧ s' = { s with heap := h, toks := tk } ∧ (∀ q, q < k → zs[q]? = some r) ∧ Fr g L' h (at' x (n0 + k) t m₀) ∧ News g L' h (N₀ ++ [(Lc, { oc with slots := sl })])) ?_ zs.length
    ⟨0, t0, h1, tk1, rfl, Nat.zero_le _, rfl, (fun q hq => absurd hq (Nat.not_lt_zero q)), by rw [at_self (by rw [Nat.add_zero]; exact hx)]; exact F, N⟩)
  rintro n s' ⟨k, t, h, tk, rfl, hkl, rfl, hq, F₁, N₁⟩
  by_cases hlt : k < zs.length
  · have hz := List.getElem?_eq_getElem hlt
    refine wpAny_mono (go k zs[k] t h tk hz F₁ N₁) ?_ fun _ _ e => e.elim
    rintro b s₂ ⟨tk', rfl, rfl⟩
    by_cases e : zs[k] = r
    · simp only [e, decide_true, if_true]
      refine wpAny_mono (step k t h tk' hlt F₁ N₁) ?_ fun _ _ e => e.elim
      rintro f s₃ ⟨h', tk'', t', rfl, rfl, F₂, N₂⟩
      refine ⟨zs.length - (k + 1), by (first | lia | omega), k + 1, t', h', tk'', rfl, hlt, rfl, fun q hq' => ?_, F₂, N₂⟩
      by_cases e' : q = k
      · rw [e', hz, e]
      · exact hq q (by (first | lia | omega))
    · simp only [e, decide_false, Bool.false_eq_true, if_false]
      rw [execs_nil]
      exact wpAny_pure (done k t h tk' hlt (by rw [skip_drop hq, skip_at hz e]) F₁ N₁)
  · obtain rfl : k = zs.length := by (first | lia | omega)
    refine wpAny_mono (out t h tk F₁ N₁) (fun _ _ e => e.elim) ?_
    rintro e s'' ⟨h', tk', e1, rfl, rfl, X⟩
    exact fresh_noted hfr hf hk hf0 hk0 X F₁ N₁ hoc hne (takes (by rw [skip_drop hq, List.drop_length]; rfl) t)
theorem try_rule {body orelse : List Stmt} {h₀ : ExceptHandler} {hs : List ExceptHandler} {pos : Pos} {Q : Flow → Shared → Prop} (P : Value → Shared → Prop)
    (land : ∀ e s', P e s' → wpAny (model prog w) A (setFlight e none) (fun _ s₃ => wpAny (model prog w) A (handleBy e env (h₀ :: hs)) Q E s₃) E s')
    (hb : ∀ EE : Value → Shared → Prop, (∀ e s', wpAny (model prog w) A (noteFrame e env) (fun _ s'' => P e s'') (fun _ _ => False) s' → EE e s') →
      wpAny (model prog w) A (execs body env) (fun f s₁ => match f with | .next => wpAny (model prog w) A (execs orelse env) Q E s₁ | f => Q f s₁) EE s) :
    wpAny (model prog w) A (exec (.Try body (h₀ :: hs) orelse [] pos) env) Q E s :=
  wpAny_Try_except (hb _ fun e s' h => wpAny_mono h (fun _ s'' h' => land e s'' h') fun _ _ x => x.elim)
theorem clause_IE {cn : Str} {cs : Scope} {a e : Addr} {cd : Value} {np pos : Pos} {b₀ : Stmt} {suite : List Stmt} {mean : ExcName → Option Value} {mg mb : Str → Option Value} {h₀ : Heap} {L : Addr} {Q : Flow → Shared → Prop} (F : Fr h₀ L s.heap m) (T : Top hd.view_39 (looseW hd.view_39 [Str.ofString "_tuplegetter", Str.ofString "Pair"]) mean mg mb h₀)
    (he : ∃ ob, s.heap.get? e = some ob ∧ ob.cls = .type "IndexError") (hk : cs.kind = .function) (hxk : (envOf cn cs L a cd).kindOf (Str.ofString "IndexError") = some .globalImplicit)
    (k : wpAny (model prog w) (A.mark (some (.ref e))) (setFlight (.ref e) none) (fun _ s₂ => wpAny (model prog w) (A.mark (some (.ref e))) (execs (b₀ :: suite) (envOf cn cs L a cd)) Q (fun _ _ => False) s₂) (fun _ _ => False) s) :
    wpAny (model prog w) A (handleBy (.ref e) (envOf cn cs L a cd) [.ExceptHandler (some (.Name (Str.ofString "IndexError") np)) none (b₀ :: suite) pos]) Q E s := by
  refine wpAny_handleBy_builtin (X := "IndexError") (T := "IndexError") (b := true) PySem.F.isExc_IndexError PySem.F.notTuple_IndexError (by rw [isSubtype_type]; kernel_rfl) (wpAny_noRaise ?_)
  refine TT.class_top F T (by decide +kernel) (by decide +kernel) (by decide +kernel) (by decide +kernel) (by decide +kernel) PyProof.Rows.Boot.«IndexError» ⟨rfl, he, ?_⟩ (by decide) hk hxk (by decide)
  rw [if_pos rfl]
  exact wpAny_mono (wpAny_noRaise k) (fun _ s₂ h => wpAny_noRaise h) fun _ _ x => x
end

end
end Mine

namespace Mine
section
open PySem PySem.Calls PySem.W PyProof.Rows
section
variable {prog : Program} {w : World} {A : Around} {E : Value → Shared → Prop} {s : Shared} {g h : Heap} {L' fa : Addr} {cd : Value} {cn ls ix el : Str} {cs : Scope} {m : Str → Option Value} {l : Addr} {va : List Value} {kk n : Nat} {ti : Tok} {ve : Value} {pa px ps pe pc p1 p2 p3 pw : Pos} {kc : Nat}
theorem nat100 {n : Nat} (h : n ≤ 100) : -(2 ^ 63) ≤ (n : Int) ∧ (n : Int) < 2 ^ 63 := by (first | lia | omega)
/-- a list's item at a name's index, within the list -/
theorem item_in {Q : Value → Shared → Prop} {v : Value} (F : Fr g L' s.heap m) (hk : cs.kind = .function) (hka : (envOf cn cs L' fa cd).kindOf ls = some .local) (hkx : (envOf cn cs L' fa cd).kindOf ix = some .local) (da : (ls == ("__debug__" : Str)) = false) (dx : (ix == ("__debug__" : Str)) = false)
    (ha : m ls = some (.ref l)) (hx : m ix = some (.int (n : Int) ti)) (hl : g.get? l = some (listOf va.toArray kk)) (hv : va[n]? = some v) (h100 : va.length ≤ 100)
    (hsb : subscripted (.Name ix px) false (.ref l) (.int (n : Int) ti) = operate [.ref l, .int (n : Int) ti] (getItem (.ref l) (.int (n : Int) ti))) (h : Q v s) :
    wpAny (model prog w) A (eval (.Subscript (.Name ls pa) (.Name ix px) ps) (envOf cn cs L' fa cd)) Q E s := by
  have hL : s.heap.IsList l va.toArray := ⟨_, F.keep _ _ hl, rfl, kk, rfl⟩
  have hlt := (List.getElem?_eq_some_iff.mp hv).1
  exact Subscript_ (ld F ha (ld F hx (tail_any hL.typeIs slot_list_getitem.lookup (wpAny_getItem_list hL (Int.natCast_nonneg n) (nat100 (Nat.le_trans (Nat.le_of_lt hlt) h100)).2 (by simpa using hv) h) hsb) hk hkx dx) hk hka da)
/-- the same, at its end -/
theorem item_end {Q : Value → Shared → Prop} {c : Value} (H : Hand A s.heap c) (F : Fr g L' s.heap m) (hk : cs.kind = .function) (hka : (envOf cn cs L' fa cd).kindOf ls = some .local) (hkx : (envOf cn cs L' fa cd).kindOf ix = some .local) (da : (ls == ("__debug__" : Str)) = false) (dx : (ix == ("__debug__" : Str)) = false)
    (ha : m ls = some (.ref l)) (hx : m ix = some (.int (n : Int) ti)) (hl : g.get? l = some (listOf va.toArray kk)) (hn : n = va.length) (h100 : n ≤ 100)
    (hsb : subscripted (.Name ix px) false (.ref l) (.int (n : Int) ti) = operate [.ref l, .int (n : Int) ti] (getItem (.ref l) (.int (n : Int) ti)))
    (hE : ∀ h' tk e, NewX s.heap h' e c → E (.ref e) { s with heap := h', toks := tk }) :
    wpAny (model prog w) A (eval (.Subscript (.Name ls pa) (.Name ix px) ps) (envOf cn cs L' fa cd)) Q E s := by
  have hL : s.heap.IsList l va.toArray := ⟨_, F.keep _ _ hl, rfl, kk, rfl⟩
  exact Subscript_ (ld F ha (ld F hx (item_out H hL (by rw [hn, List.size_toArray]; exact Int.le_refl _) (nat100 h100).1 (nat100 h100).2 hE hsb) hk hkx dx) hk hka da)
end
section
variable {prog : Program} {w : World} {A : Around} {E : Value → Shared → Prop} {s : Shared} {g : Heap} {L' Lc fa : Addr} {oc : Obj} {cd : Value} {cn ls ix el : Str} {cs : Scope} {m₀ : Str → Option Value} {N₀ : List (Addr × Obj)} {env0 : Env} {l : Addr} {va : List Value} {kk n0 kc : Nat} {ti : Tok} {ve : Value} {pa px ps pe pc p1 p2 p3 pw : Pos} {sl : Array (Option Value)} {c : Value} {nd nd2 : List (Addr × Obj)} {o : Bool} {ns : List Int} {r : Int} {Q : Flow → Shared → Prop}
/-- while ls[ix] == el: ix += 1 -/
theorem loop_eq {h1 : Heap} {tk1 : Nat} (hfr : A.frames = some [envOf cn cs L' fa cd, env0]) (hk : cs.kind = .function) (hf0 : env0.frame = some Lc) (hk0 : env0.scope.kind ≠ .module) (hoc : ∃ es ep, oc.data = .dict es ep) (hne : ∀ p ∈ N₀, @Ne Nat p.1 Lc)
    (F : Fr g L' h1 m₀) (N : News g L' h1 (N₀ ++ [(Lc, { oc with slots := sl })])) (hx : m₀ ix = some (.int ((n0 : Nat) : Int) ti)) (ha : m₀ ls = some (.ref l)) (hv : m₀ el = some ve)
    (xa : ls ≠ ix) (xv : el ≠ ix) (hka : (envOf cn cs L' fa cd).kindOf ls = some .local) (hkx : (envOf cn cs L' fa cd).kindOf ix = some .local) (hkv : (envOf cn cs L' fa cd).kindOf el = some .local)
    (da : (ls == ("__debug__" : Str)) = false) (dx : (ix == ("__debug__" : Str)) = false) (dv : (el == ("__debug__" : Str)) = false)
    (hsb : ∀ n t, subscripted (.Name ix px) false (.ref l) (.int n t) = operate [.ref l, .int n t] (getItem (.ref l) (.int n t)))
    (hl : g.get? l = some (listOf va.toArray kk)) (hnd : ∀ p ∈ nd, g.get? p.1 = some p.2) (hnd2 : ∀ p ∈ nd2, g.get? p.1 = some p.2) (hD : DatAll nd va (ns.map (rankThing o))) (hR : Ranks ns) (hve : DatIn nd2 ve (rankThing o r)) (hr : 0 ≤ r ∧ r < 48) (hn0 : n0 ≤ ns.length) (hu : A.units < cLine)
    (H : ∀ h, News g L' h (N₀ ++ [(Lc, { oc with slots := sl })]) → Hand A h c)
    (takes : skip r (ns.drop n0) = [] → ∀ t, Takes g L' Lc oc s (at' ix ns.length t m₀) N₀ c E)
    (done : ∀ i t h tk, i < ns.length → skip r (ns.drop n0) = ns.drop i → n0 ≤ i → Fr g L' h (at' ix i t m₀) → News g L' h (N₀ ++ [(Lc, { oc with slots := sl })]) → Q .next { s with heap := h, toks := tk }) :
    wpAny (model prog w) A (exec (.While (.Compare (.Subscript (.Name ls pa) (.Name ix px) ps) [.Eq] [.Name el pe] pc) [.AugAssign (.Name ix p1) .Add (.Constant (.int 1) kc p2) p3] [] pw) (envOf cn cs L' fa cd)) Q E { s with heap := h1, toks := tk1 } := by
  have hlen : va.length = ns.length := by rw [hD.length, List.length_map]
  have h12 := hR.1
  have e0 : n0 + (ns.drop n0).length = ns.length := by rw [List.length_drop]; (first | lia | omega)
  have lk : ∀ k t, at' ix k t m₀ ls = some (.ref l) := fun k t => by unfold at'; rw [if_neg xa]; exact ha
  have lx : ∀ k t, at' ix k t m₀ ix = some (.int ((k : Nat) : Int) t) := fun k t => if_pos rfl
  have lv : ∀ k t, at' ix k t m₀ el = some ve := fun k t => by unfold at'; rw [if_neg xv]; exact hv
  refine inner_while (sl := sl) (env0 := env0) ix (zs := ns.drop n0) (r := r) (n0 := n0) c hfr rfl (by show cs.kind ≠ _; rw [hk]; decide) hf0 hk0 hoc hne F N hx ?_ ?_ ?_ ?_ ?_
  · intro k z t h tk hz F N
    rw [List.getElem?_drop] at hz
    obtain ⟨vz, gvz, tvz⟩ : ∃ y, va[n0 + k]? = some y ∧ DatIn nd y (rankThing o z) := by
      obtain ⟨hlt, e⟩ := List.getElem?_eq_some_iff.mp hz
      obtain ⟨y, e1, h⟩ := hD.get (k := n0 + k) (by rw [List.length_map]; exact hlt)
      rw [List.getElem_map, e] at h
      exact ⟨y, e1, h⟩
    exact wpAny_isTrue_Compare1 (item_in F hk hka hkx da dx (lk _ _) (lx _ _) hl gvz (by (first | lia | omega)) (hsb _ _) (ld F (lv _ _) (thing_eq hu tvz hve (fun p hp => F.keep _ _ (hnd p hp)) (fun p hp => F.keep _ _ (hnd2 p hp)) (hR.2.2 z (List.mem_of_getElem? hz)) hr (wpAny_truthy_bool GoEnd.mk)) hk hkv dv))
  · intro k t h tk hk' F N
    refine wpAny_execs_cons (wpAny_AugAssign_Name (ldn F (lx _ _) (wpAny_Constant_int (iadd_int (stN F N (fun h' F' N' => wpAny_execs_nil ?_) hk hkx))) hk hkx))
    have e : (fun y => if y = ix then some (Value.int (((n0 + k : Nat) : Int) + 1) (tk + 1)) else at' ix (n0 + k) t m₀ y) = at' ix (n0 + (k + 1)) (tk + 1) m₀ := by
      funext y
      unfold at'
      by_cases e : y = ix
      · rw [if_pos e, if_pos e]; rfl
      · rw [if_neg e, if_neg e, if_neg e]
    exact ⟨h', tk + 1 + 1 + 1, tk + 1, rfl, rfl, e ▸ F', N'⟩
  · intro t h tk F N
    rw [e0] at F
    exact wpAny_isTrue_Compare1 (item_end (H h N) F hk hka hkx da dx (lk _ _) (lx _ _) hl hlen.symm (by (first | lia | omega)) (hsb _ _) fun h' tk' e x => ⟨h', tk', e, rfl, rfl, x⟩)
  · intro hsk t
    rw [e0]
    exact takes hsk t
  · intro k t h tk hk' hsk F N
    rw [List.length_drop] at hk'
    exact done (n0 + k) t h tk (by (first | lia | omega)) (by rw [hsk, List.drop_drop]) (Nat.le_add_right _ _) F N
end

end
end Mine

namespace Mine
section
open PySem PySem.Calls PySem.W PyProof.Rows
def LIn (l : Addr) (va : List Value) (n1 : List (Addr × Obj)) (o : Bool) (ns : List Int) (h : Heap) : Prop := (∃ k, h.get? l = some (listOf va.toArray k)) ∧ (∀ p ∈ n1, h.get? p.1 = some p.2) ∧ DatAll n1 va (ns.map (rankThing o)) ∧ Ranks ns
structure LocS (m : Str → Option Value) (l1 l2 M U : Addr) (i j : Nat) (ti tj : Tok) : Prop where
  i : m (Str.ofString "i") = some (.int (i : Int) ti)
  j : m (Str.ofString "j") = some (.int (j : Int) tj)
  mi : m (Str.ofString "missing") = some (.ref M)
  un : m (Str.ofString "unexpected") = some (.ref U)
  ex : m (Str.ofString "expected") = some (.ref l1)
  ac : m (Str.ofString "actual") = some (.ref l2)
theorem LocS.fr {m : Str → Option Value} {l1 l2 M U L' : Addr} {i j : Nat} {ti tj : Tok} {g h : Heap} (H : LocS m l1 l2 M U i j ti tj) (F : Fr g L' h m) :
    Fr g L' h (fun y => if y = Str.ofString "i" then some (.int (i : Int) ti) else if y = Str.ofString "j" then some (.int (j : Int) tj) else if y = Str.ofString "missing" then some (.ref M) else if y = Str.ofString "unexpected" then some (.ref U) else
      if y = Str.ofString "expected" then some (.ref l1) else if y = Str.ofString "actual" then some (.ref l2) else m y) := by
  obtain ⟨a, b, c, d, e, f⟩ := H
  have : (fun y => if y = Str.ofString "i" then some (.int (i : Int) ti) else if y = Str.ofString "j" then some (.int (j : Int) tj) else if y = Str.ofString "missing" then some (.ref M) else if y = Str.ofString "unexpected" then some (.ref U) else
      if y = Str.ofString "expected" then some (.ref l1) else if y = Str.ofString "actual" then some (.ref l2) else m y) = m := by
    funext y
    by_cases e1 : y = Str.ofString "i"
    · rw [if_pos e1, e1, a]
    · rw [if_neg e1]
      by_cases e2 : y = Str.ofString "j"
      · rw [if_pos e2, e2, b]
      · rw [if_neg e2]
        by_cases e3 : y = Str.ofString "missing"
        · rw [if_pos e3, e3, c]
        · rw [if_neg e3]
          by_cases e4 : y = Str.ofString "unexpected"
          · rw [if_pos e4, e4, d]
          · rw [if_neg e4]
            by_cases e5 : y = Str.ofString "expected"
            · rw [if_pos e5, e5, e]
            · rw [if_neg e5]
              by_cases e6 : y = Str.ofString "actual"
              · rw [if_pos e6, e6, f]
              · rw [if_neg e6]
  rw [this]
  exact F
abbrev DF (ns ms : List Int) : List Int × List Int := diff (ns.length + ms.length) ns ms
/-- the lists built so far -/
structure Bld (n1 n2 : List (Addr × Obj)) (o : Bool) (mv uv : List Value) (mI uI : List Int) : Prop where
  m : DatAll (n1 ++ n2) mv (mI.map (rankThing o))
  u : DatAll (n1 ++ n2) uv (uI.map (rankThing o))
/-- the post -/
inductive SldPost (n1 n2 : List (Addr × Obj)) (o : Bool) (xs ys : List Int) (g : Heap) : Value → Heap → Prop
  | mk (t : Addr) (k : Nat) (M : Addr) (km : Nat) (U : Addr) (ku : Nat) (mv uv : List Value) (h' : Heap) (W : New g h' [(t, ({ cls := .type "tuple", data := .seq #[.ref M, .ref U] k } : Obj)), (M, listOf (List.toArray mv) km), (U, listOf (List.toArray uv) ku)])
    (B : Bld n1 n2 o mv uv xs ys) : SldPost n1 n2 o xs ys g (.ref t) h'
/-- the constants of a call -/
structure SC where
  (g : Heap) (L' Lc : Addr) (oc : Obj) (s : Shared) (l1 l2 M U : Addr) (n1 n2 : List (Addr × Obj)) (o : Bool) (ns ms : List Int)
abbrev SC.led (c : SC) (mv uv : List Value) (km ku : Nat) : List (Addr × Obj) := [(c.U, listOf (List.toArray uv) ku), (c.M, listOf (List.toArray mv) km)]
inductive PF (C : SC) : Value → Shared → Prop
  | mk (c : Value) (m : Str → Option Value) (N₀ : List (Addr × Obj)) (i j : Nat) (ti tj : Tok) (mv uv : List Value) (mI uI : List Int) (km ku : Nat) (e : Value) (s' : Shared) (hfl : Fly C.g C.L' C.Lc C.oc C.s m N₀ c e s') (loc : LocS m C.l1 C.l2 C.M C.U i j ti tj)
    (hU : (C.U, listOf (List.toArray uv) ku) ∈ N₀) (hM : (C.M, listOf (List.toArray mv) km) ∈ N₀) (hB : Bld C.n1 C.n2 C.o mv uv mI uI) (hmI : mI.length ≤ C.ns.length) (huI : uI.length ≤ C.ms.length) (hD : DF C.ns C.ms = (mI ++ C.ns.drop i, uI ++ C.ms.drop j)) : PF C e s'
inductive LI (C : SC) : Nat → Shared → Prop
  | mk (i j f : Nat) (m : Str → Option Value) (h : Heap) (tk : Nat) (ti tj : Tok) (mv uv : List Value) (mI uI : List Int) (km ku : Nat) (sl : Array (Option Value)) (hi : i ≤ C.ns.length) (hj : j ≤ C.ms.length) (F : Fr C.g C.L' h m) (loc : LocS m C.l1 C.l2 C.M C.U i j ti tj)
    (N : News C.g C.L' h (C.led mv uv km ku ++ [(C.Lc, { C.oc with slots := sl })])) (hB : Bld C.n1 C.n2 C.o mv uv mI uI) (hmI : mI.length ≤ i) (huI : uI.length ≤ j) (hD : DF C.ns C.ms = (mI ++ (diff f (C.ns.drop i) (C.ms.drop j)).1, uI ++ (diff f (C.ns.drop i) (C.ms.drop j)).2))
    (hf : (C.ns.length - i) + (C.ms.length - j) ≤ f) : LI C ((C.ns.length - i) + (C.ms.length - j)) { C.s with heap := h, toks := tk }
theorem diff_nil_l (f : Nat) (ys : List Int) : diff f [] ys = ([], ys) := by cases f <;> rfl
theorem diff_nil_r (f : Nat) (xs : List Int) : diff f xs [] = (xs, []) := by cases f <;> cases xs <;> rfl
theorem drop_end (l : List Int) (j : Nat) : l.drop (j + (l.drop j).length) = [] := by rw [← List.drop_drop, List.drop_length]
theorem drop_at {l : List Int} {i : Nat} {x : Int} (h : l[i]? = some x) : l.drop i = x :: l.drop (i + 1) := by
  obtain ⟨hk, e⟩ := List.getElem?_eq_some_iff.mp h
  rw [List.drop_eq_getElem_cons hk, e]
section
variable {ns ms mI uI : List Int} {f i j : Nat} {x y : Int} {D : List Int × List Int}
theorem step_pos (hx : ns[i]? = some x) (hf : (ns.length - i) + (ms.length - j) ≤ f) : ∃ f', f = f' + 1 := by
  have := (List.getElem?_eq_some_iff.mp hx).1
  exact ⟨f - 1, by (first | lia | omega)⟩
theorem step_ltE {f' : Nat} (hx : ns[i]? = some x) (hy : ms[j]? = some y) (hxy : x < y) (h : D = (mI ++ (diff (f' + 1) (ns.drop i) (ms.drop j)).1, uI ++ (diff (f' + 1) (ns.drop i) (ms.drop j)).2)) :
    D = ((mI ++ [x]) ++ (diff f' (skip x (ns.drop (i + 1))) (ms.drop j)).1, uI ++ (diff f' (skip x (ns.drop (i + 1))) (ms.drop j)).2) := by
  rw [drop_at hx, drop_at hy] at h
  unfold diff at h
  rw [if_pos hxy, ← drop_at hy] at h
  rw [h, List.append_assoc]
  rfl
theorem step_gtE {f' : Nat} (hx : ns[i]? = some x) (hy : ms[j]? = some y) (hxy : y < x) (h : D = (mI ++ (diff (f' + 1) (ns.drop i) (ms.drop j)).1, uI ++ (diff (f' + 1) (ns.drop i) (ms.drop j)).2)) :
    D = (mI ++ (diff f' (ns.drop i) (skip y (ms.drop (j + 1)))).1, (uI ++ [y]) ++ (diff f' (ns.drop i) (skip y (ms.drop (j + 1)))).2) := by
  rw [drop_at hx, drop_at hy] at h
  unfold diff at h
  rw [if_neg (by (first | lia | omega)), if_pos hxy, ← drop_at hx] at h
  rw [h, List.append_assoc]
  rfl
theorem step_eqE {f' : Nat} (hx : ns[i]? = some x) (hy : ms[j]? = some y) (h1 : ¬ x < y) (h2 : ¬ y < x) (h : D = (mI ++ (diff (f' + 1) (ns.drop i) (ms.drop j)).1, uI ++ (diff (f' + 1) (ns.drop i) (ms.drop j)).2)) :
    D = (mI ++ (diff f' (skip x (ns.drop (i + 1))) (skip y (ms.drop (j + 1)))).1, uI ++ (diff f' (skip x (ns.drop (i + 1))) (skip y (ms.drop (j + 1)))).2) := by
  rw [drop_at hx, drop_at hy] at h
  unfold diff at h
  rw [if_neg h1, if_neg h2] at h
  exact h
end
theorem datAll_drop {tl : List (Addr × Obj)} : ∀ {vs : List Value} {ds : List Dat} (i : Nat), DatAll tl vs ds → DatAll tl (vs.drop i) (ds.drop i)
  | _, _, 0, h => h
  | _, _, _ + 1, .nil => .nil
  | _, _, i + 1, .cons _ r => datAll_drop i r
theorem bld_end {n1 n2 : List (Addr × Obj)} {o : Bool} {mv uv va vb : List Value} {mI uI ns ms : List Int} {i j : Nat} (hmv : DatAll (n1 ++ n2) mv (mI.map (rankThing o))) (huv : DatAll (n1 ++ n2) uv (uI.map (rankThing o))) (hD1 : DatAll n1 va (ns.map (rankThing o))) (hD2 : DatAll n2 vb (ms.map (rankThing o)))
    (hDF : DF ns ms = (mI ++ ns.drop i, uI ++ ms.drop j)) : Bld n1 n2 o (mv ++ va.drop i) (uv ++ vb.drop j) (DF ns ms).1 (DF ns ms).2 := by
  rw [hDF]
  refine ⟨?_, ?_⟩
  · rw [List.map_append, List.map_drop]
    exact hmv.append ((datAll_drop i hD1).mono fun p hp => List.mem_append.mpr (.inl hp))
  · rw [List.map_append, List.map_drop]
    exact huv.append ((datAll_drop j hD2).mono fun p hp => List.mem_append.mpr (.inr hp))
theorem thing_at {TT : List (Addr × Obj)} {vs : List Value} {rs : List Int} {o : Bool} {i : Nat} {z : Int} (hD : DatAll TT vs (rs.map (rankThing o))) (hz : rs[i]? = some z) : ∃ y, vs[((i : Nat) : Int).toNat]? = some y ∧ DatIn TT y (rankThing o z) := by
  obtain ⟨hlt, e⟩ := List.getElem?_eq_some_iff.mp hz
  have hlt' : i < (rs.map (rankThing o)).length := by rw [List.length_map]; exact hlt
  obtain ⟨y, e1, h⟩ := hD.get hlt'
  refine ⟨y, e1, ?_⟩
  have e2 : (rs.map (rankThing o))[i] = rankThing o z := by rw [List.getElem_map, e]
  rw [e2] at h
  exact h
theorem slice_B {prog : Program} {w : World} {A : Around} {E : Value → Shared → Prop} {s : Shared} {h₀ : Heap} {L l : Addr} {m : Str → Option Value} {value slice : PySem.Expr} {us : List Value} {n : Nat} {k : Int} {u : Tok} {news : List (Addr × Obj)} {Q : Value → Shared → Prop} (F : Fr h₀ L s.heap m) (N : News h₀ L s.heap news) (hm : h₀.get? l = some (listOf us.toArray n)) (h0 : 0 ≤ k)
    (hfit : us.length ≤ 100) (h : ∀ D h', Fr h₀ L h' m → News h₀ L h' ((D, listOf (us.drop k.toNat).toArray 0) :: news) → (∀ p ∈ news, @LT.lt Nat _ p.1 D) → Q (.ref D) { s with heap := h' })
    (hsb : subscripted slice false (.ref l) (.ref s.heap.objs.size) = operate [.ref s.heap.objs.size, .ref l] (getItem (.ref l) (.ref s.heap.objs.size)) := by with_unfolding_all rfl)
    (ht : ∀ r, letTemporaryGo value (.ref l) r = pure () := by intro _; with_unfolding_all rfl) :
    wpAny (model prog w) A (subscriptTail value slice (.ref l) (.ref s.heap.objs.size)) Q E { s with heap := s.heap.push { cls := .type "slice", data := .fields #[.int k u, .none, .none] } } := by
  have hl : s.heap.IsList l us.toArray := ⟨_, F.keep _ _ hm, rfl, n, rfl⟩
  obtain ⟨q, rfl⟩ : ∃ q : Nat, k = q := ⟨k.toNat, by (first | lia | omega)⟩
  refine slice_list F N hl (.int _ u) .none (fun h' F' N' => ?_) hsb ht (by simp only [List.size_toArray, sizeLine_eq]; (first | lia | omega))
  rw [slicePick_from' us.toArray q] at N'
  exact h _ h' F' N' fun p hp => Nat.lt_succ_of_lt (Heap.lt_size (N p hp).1)
theorem at_in {prog : Program} {w : World} {A : Around} {E : Value → Shared → Prop} {s : Shared} {h₀ : Heap} {L l : Addr} {m : Str → Option Value} {value slice : PySem.Expr} {us : List Value} {n k : Nat} {u : Tok} {v : Value} {Q : Value → Shared → Prop} (F : Fr h₀ L s.heap m) (hm : h₀.get? l = some (listOf us.toArray n)) (hg : us[((k : Nat) : Int).toNat]? = some v)
    (hfit : us.length ≤ 100) (hsb : subscripted slice false (.ref l) (.int (k : Int) u) = operate [.ref l, .int (k : Int) u] (getItem (.ref l) (.int (k : Int) u))) (h : Q v s) :
    wpAny (model prog w) A (subscriptTail value slice (.ref l) (.int (k : Int) u)) Q E s := by
  have hl : s.heap.IsList l us.toArray := ⟨_, F.keep _ _ hm, rfl, n, rfl⟩
  have hlt := (List.getElem?_eq_some_iff.mp hg).1
  exact tail_any hl.typeIs slot_list_getitem.lookup (wpAny_getItem_list hl (Int.natCast_nonneg k) (nat100 (Nat.le_trans (Nat.le_of_lt hlt) hfit)).2 (by simpa using hg) h) hsb
theorem at_out {prog : Program} {w : World} {A : Around} {E : Value → Shared → Prop} {s : Shared} {h₀ : Heap} {L l : Addr} {m : Str → Option Value} {value slice : PySem.Expr} {us : List Value} {n k : Nat} {u : Tok} {c : Value} {Q : Value → Shared → Prop} (H : Hand A s.heap c) (F : Fr h₀ L s.heap m) (hm : h₀.get? l = some (listOf us.toArray n)) (hout : us.length = k) (hfit : us.length ≤ 100)
    (hsb : subscripted slice false (.ref l) (.int (k : Int) u) = operate [.ref l, .int (k : Int) u] (getItem (.ref l) (.int (k : Int) u))) (hE : ∀ h' tk e, NewX s.heap h' e c → E (.ref e) { s with heap := h', toks := tk }) :
    wpAny (model prog w) A (subscriptTail value slice (.ref l) (.int (k : Int) u)) Q E s :=
  item_out H ⟨_, F.keep _ _ hm, rfl, n, rfl⟩ (by rw [← hout, List.size_toArray]; exact Int.le_refl _) (nat100 (hout ▸ hfit)).1 (nat100 (hout ▸ hfit)).2 hE hsb
theorem add1 {tl sub : List (Addr × Obj)} {mv : List Value} {mI : List Int} {o : Bool} {x : Int} {ve : Value} (h : DatAll tl mv (mI.map (rankThing o))) (h1 : DatIn sub ve (rankThing o x)) (hs : ∀ p ∈ sub, p ∈ tl) : DatAll tl (mv ++ [ve]) ((mI ++ [x]).map (rankThing o)) := by
  rw [List.map_append]
  exact h.append (.one (h1.mono hs))
theorem len1 {mI : List Int} {x : Int} {a b : Nat} (h : mI.length ≤ a) (h2 : a + 1 ≤ b) : (mI ++ [x]).length ≤ b := by
  rw [List.length_append]
  exact Nat.le_trans (Nat.succ_le_succ h) h2
theorem less_l {n i i' b : Nat} (h : i < n) (h2 : i + 1 ≤ i') : (n - i') + b < (n - i) + b := Nat.add_lt_add_right (Nat.sub_lt_sub_left h h2) _
theorem less_r {n i i' b : Nat} (h : i < n) (h2 : i + 1 ≤ i') : b + (n - i') < b + (n - i) := Nat.add_lt_add_left (Nat.sub_lt_sub_left h h2) _
theorem fuel {a b f : Nat} (h : a < b) (h2 : b ≤ f + 1) : a ≤ f := Nat.le_of_lt_succ (Nat.lt_of_lt_of_le h h2)
theorem inl {α : Type} {n1 n2 : List α} : ∀ p ∈ n1, p ∈ n1 ++ n2 := fun _ h => List.mem_append_left _ h
theorem inr {α : Type} {n1 n2 : List α} : ∀ p ∈ n2, p ∈ n1 ++ n2 := fun _ h => List.mem_append_right _ h
theorem m100 {mv : List Value} {mI : List Int} {i n : Nat} (h1 : mv.length = mI.length) (h2 : mI.length ≤ i) (h3 : i ≤ n) (h4 : n ≤ 12) : mv.length ≤ 100 := by (first | lia | omega)
theorem takes_of {prog : Program} {w : World} {A : Around} {env : Env} {s : Shared} {g : Heap} {L' Lc : Addr} {oc : Obj} {m : Str → Option Value} {N₀ : List (Addr × Obj)} {c : Value} {PP EE : Value → Shared → Prop} (hEE : ∀ e s', wpAny (model prog w) A (noteFrame e env) (fun _ s'' => PP e s'') (fun _ _ => False) s' → EE e s') (hf : env.frame = some L')
    (h : ∀ e s', Fly g L' Lc oc s m N₀ c e s' → PP e s') : Takes g L' Lc oc s m N₀ c EE
  | _, _, .mk e1 T oe oT sl h' tk F N X hTe hT he => hEE _ _ (note_again (s := { s with heap := h', toks := tk }) hf N X (h _ _ (.mk e1 T oe oT sl h' tk F N X hTe hT he)))
theorem fn_ne_mod : ScopeKind.function ≠ ScopeKind.module := by decide
theorem keepIn {g h : Heap} {L : Addr} {m : Str → Option Value} {nd : List (Addr × Obj)} (F : Fr g L h m) (hn : ∀ p ∈ nd, g.get? p.1 = some p.2) : ∀ p ∈ nd, h.get? p.1 = some p.2 := fun p hp => F.keep _ _ (hn p hp)
theorem ext_len {mv va : List Value} {i a b : Nat} (h1 : mv.length = a) (h2 : a ≤ b) (h3 : b ≤ 12) (h4 : va.length ≤ 100) : mv.length + (va.drop i).toArray.size ≤ sizeLine := by
  rw [List.size_toArray, List.length_drop, sizeLine_eq]; (first | lia | omega)
local macro_rules | `(tactic| walk_at "execs cons") => `(tactic| (k_here; (try dsimp only); (try k_gentoks); refine execs_hide ?_; intro QQ hQQ))
local macro_rules | `(tactic| walk_at "subscriptTail") => `(tactic| (k_here; refine hold ?_))
local macro_rules | `(tactic| walk_at "compareOp") => `(tactic| (k_here; refine hold ?_))
local macro_rules | `(tactic| walk_at "call builtin:list.append") => `(tactic| (k_here; refine hold ?_))
local macro_rules | `(tactic| walk_at "call builtin:list.extend") => `(tactic| (k_here; refine hold ?_))
local macro_rules | `(tactic| walk_at "exec While Constant cons nil") => `(tactic| (k_here; refine hold ?_))
local macro_rules | `(tactic| walk_at "exec While Compare cons nil") => `(tactic| (k_here; refine hold ?_))
local macro_rules | `(tactic| walk_at "exec Try") => `(tactic| (k_here; refine hold ?_))
local macro_rules | `(tactic| walk_at "exec Try cons nil") => `(tactic| (k_here; refine hold ?_))
set_option pp.deepTerms false
set_option pp.deepTerms.threshold 6
set_option pp.maxSteps 6000
set_option maxHeartbeats 400000 in
theorem con_sld (w : World) (l1 l2 : Addr) (va vb : List Value) (n1 n2 : List (Addr × Obj)) (o : Bool) (ns ms : List Int) :
    ConS Challenge.rw_il0129_01.row.prog w (hd.heap_39 w.params) 28 3 [.ref l1, .ref l2] (fun h => LIn l1 va n1 o ns h ∧ LIn l2 vb n2 o ms h) (SldPost n1 n2 o (DF ns ms).1 (DF ns ms).2) := by
    (k_fill; k_dflt (refine' con_enterS ?k6 ?k7 ?k9 ?kB ?c5 ?c2 ?c3 ?c4 ?cl ?_; (case k6 => k_is); (case k7 => k_is); (case k9 => first | exact fun _ _ => BindsTo.of_eq rfl | exact fun _ X => binds_K X rfl (by k_is) rfl rfl rfl); (case c5 => decide); (case kB => exact locs rfl); (case c2 => exact rfl); (case c3 => exact rfl); (case c4 => exact rfl); (case cl => decide); k_whole))
    (intro dp un gd env0 mean mg mb s g L' Lc oc h₁ tk X T hd hu hp hk0 hf0 hoc hLc F N)
    obtain ⟨⟨⟨k1, hl1⟩, hn1, hD1, hR1⟩, ⟨k2, hl2⟩, hn2, hD2, hR2⟩ := hp
    have hva := hD1.length
    have hvb := hD2.length
    rw [List.length_map] at hva hvb
    have hns := hR1.1
    have hms := hR2.1
    have hva1 : va.length ≤ 100 := hva ▸ Nat.le_trans hns (by decide)
    have hvb1 : vb.length ≤ 100 := hvb ▸ Nat.le_trans hms (by decide)
    refine hide ?_
    intro Q0 hQ0
    (k_steps; (repeat' (refine hid_ap (by with_reducible assumption) ?_; (try dsimp only); k_steps)))
    rename_i M _ lt1 _ _ _ _ U _ lt2 h2 F2 N2 Q1 hQ1
    obtain ⟨lt2, lt3⟩ := lt2
    have hMU : @Ne Nat U M := Nat.ne_of_gt lt2
    have hUc : @Ne Nat U Lc := Nat.ne_of_gt lt3
    have hMc : @Ne Nat M Lc := Nat.ne_of_gt lt1
    clear lt1 lt2 lt3
    refine ⟨?_⟩
    refine while_out (LI ⟨g, L', Lc, oc, s, l1, l2, M, U, n1, n2, o, ns, ms⟩) _ (.mk 0 0 (ns.length + ms.length) _ h2 tk _ _ [] [] [] [] 0 0 oc.slots (Nat.zero_le _) (Nat.zero_le _) F2 ⟨rfl, rfl, rfl, rfl, rfl, rfl⟩ N2 ⟨.nil, .nil⟩ (Nat.le_refl _) (Nat.le_refl _) rfl (Nat.le_refl _)) ?_
    clear F2 N2
    rintro k s' ⟨i, j, f, m, h, tk, ti, tj, mv, uv, mI, uI, km, ku, sl, hi, hj, F, loc, N, ⟨hmv, huv⟩, hmI, huI, hDF, hf⟩
    dsimp only [SC.led, List.cons_append, List.nil_append] at hi hj F loc N hmv huv hmI huI hDF hf
    have F := loc.fr F
    (k_steps; (repeat' (refine hid_ap (by with_reducible assumption) ?_; (try dsimp only); k_steps)))
    rename_i Q2 hQ2
    refine ⟨?_⟩
    refine try_rule (PF ⟨g, L', Lc, oc, s, l1, l2, M, U, n1, n2, o, ns, ms⟩) ?_ ?_
    · clear F N loc hmv huv hmI huI hDF hf hi hj
      rintro _ _ ⟨c, m, N₀, i, j, ti, tj, mv, uv, mI, uI, km, ku, _, _, ⟨e1, Tb, oe, oT, sl, h, tk, F, N, X1, hTe, hT, he⟩, loc, hU, hM, ⟨hmv, huv⟩, hmI, huI, hDF⟩
      dsimp only [SC.led] at F loc N hmv huv hmI huI hDF hU hM hT X1
      have hT : ∀ p ∈ (U, listOf (List.toArray uv) ku) :: (M, listOf (List.toArray mv) km) :: [(Lc, ({ oc with slots := sl } : Obj))], @Ne Nat p.1 Tb := allc (hT _ (memM hU)) (allc (hT _ (memM hM)) (all1 (hT _ memL)))
      have N : News g L' h ((e1, oe) :: (Tb, oT) :: (U, listOf (List.toArray uv) ku) :: (M, listOf (List.toArray mv) km) :: [(Lc, { oc with slots := sl })]) := allc (N _ (.head _)) (allc (N _ (.tail _ (.head _))) (allc (N _ (.tail _ (.tail _ (memM hU)))) (allc (N _ (.tail _ (.tail _ (memM hM)))) (all1 (N _ (.tail _ (.tail _ memL)))))))
      refine set_flight (s := { s with heap := h, toks := tk }) none F N X1 hTe hT fun h' oT' F N X2 => ?_
      refine clause_IE F T ⟨oe, (N _ (.head _)).1, X2.1⟩ rfl rfl ?_
      refine set_flight (s := { s with heap := h', toks := tk }) none F N X2 hTe hT fun h'' oT'' F N X3 => ?_
      have N : News g L' h'' ((U, listOf (List.toArray uv) ku) :: (M, listOf (List.toArray mv) km) :: [(Lc, { oc with slots := sl })]) := fun p hp => N p (.tail _ (.tail _ hp))
      have F := loc.fr F
      have hmvl := hmv.length
      have huvl := huv.length
      rw [List.length_map] at hmvl huvl
      clear X1 X2 X3 hT he
      (k_steps; (repeat' (refine hid_ap (by with_reducible assumption) ?_; (try dsimp only); k_steps)))
      refine ⟨?_⟩
      k_here
      k_dflt (refine' slice_B ?F ?N ?hm ?h0 ?hf ?_ ?k7 ?k8; (case F => exact F); (case N => exact N); (case hm => exact hl1); (case h0 => exact Int.natCast_nonneg _); (case hf => exact hva1); (case k7 => with_unfolding_all rfl); (case k8 => intro _; with_unfolding_all rfl); k_whole)
      intro D1 h3 F3 N3 lt3
      have a1 : @LT.lt Nat _ U D1 := lt3 (U, _) (.head _)
      have a2 : @LT.lt Nat _ M D1 := lt3 (M, _) (.tail _ (.head _))
      clear F N lt3
      (k_steps; (repeat' (refine hid_ap (by with_reducible assumption) ?_; (try dsimp only); k_steps)))
      refine ⟨?_⟩
      refine extend_in (ys := mv) (own := [(D1, listOf (va.drop i).toArray 0), (U, listOf (List.toArray uv) ku)]) (rest := [(Lc, { oc with slots := sl })]) F3 N3 (allc (Nat.ne_of_gt a2) (all1 hMU)) (all1 (Ne.symm hMc)) (N3 _ (.head _)).1 (fun h4 k4 F4 N4 => ?_) (ext_len hmvl hmI hns hva1)
      simp only [List.cons_append, List.nil_append] at N4
      clear F3 N3
      (k_steps; (repeat' (refine hid_ap (by with_reducible assumption) ?_; (try dsimp only); k_steps)))
      refine ⟨?_⟩
      k_here
      k_dflt (refine' slice_B ?F ?N ?hm ?h0 ?hf ?_ ?k7 ?k8; (case F => exact F4); (case N => exact N4); (case hm => exact hl2); (case h0 => exact Int.natCast_nonneg _); (case hf => exact hvb1); (case k7 => with_unfolding_all rfl); (case k8 => intro _; with_unfolding_all rfl); k_whole)
      intro D2 h5 F5 N5 lt5
      have b2 : @LT.lt Nat _ U D2 := lt5 (U, _) (.tail _ (.head _))
      clear F4 N4 lt5
      (k_steps; (repeat' (refine hid_ap (by with_reducible assumption) ?_; (try dsimp only); k_steps)))
      refine ⟨?_⟩
      refine extend_in (ys := uv) (own := [(D2, listOf (vb.drop j).toArray 0), (D1, listOf (va.drop i).toArray 0)]) (rest := _ :: [(Lc, { oc with slots := sl })]) F5 N5 (allc (Nat.ne_of_gt b2) (all1 (Nat.ne_of_gt a1))) (allc (Ne.symm hMU) (all1 (Ne.symm hUc))) (N5 _ (.head _)).1 (fun h6 k6 F6 N6 => ?_) (ext_len huvl huI hms hvb1)
      simp only [List.cons_append, List.nil_append] at N6
      clear F5 N5
      (k_steps; (repeat' (refine hid_ap (by with_reducible assumption) ?_; (try dsimp only); k_steps)))
      rename_i D9 h7 F7 N7 lt7
      exact .mk (.ref D9) h7 _ sl F7.keep (N7 _ (.tail _ (.tail _ (.tail _ (.tail _ (.tail _ (.head _))))))).1 (.mk D9 0 M k4 U k6 _ _ h7 (allc ⟨(N7 _ (.head _)).1, (N7 _ (.head _)).2.2⟩ (allc ⟨(N7 _ (.tail _ (.tail _ (.tail _ (.tail _ (.head _)))))).1, (N7 _ (.tail _ (.tail _ (.tail _ (.tail _ (.head _)))))).2.2⟩ (all1 ⟨(N7 _ (.tail _ (.tail _ (.tail _ (.head _))))).1, (N7 _ (.tail _ (.tail _ (.tail _ (.head _))))).2.2⟩))) (bld_end hmv huv hD1 hD2 hDF))
    · intro EE hEE
      have hne : ∀ p ∈ (U, listOf (List.toArray uv) ku) :: [(M, listOf (List.toArray mv) km)], @Ne Nat p.1 Lc := allc hUc (all1 hMc)
      (k_steps; (repeat' (refine hid_ap (by with_reducible assumption) ?_; (try dsimp only); k_steps)))
      refine ⟨?_⟩
      rcases Nat.lt_or_eq_of_le hi with hi' | hi'
      · obtain ⟨x, hx⟩ : ∃ x, ns[i]? = some x := ⟨_, List.getElem?_eq_getElem hi'⟩
        obtain ⟨ve, gve, tve⟩ := thing_at hD1 hx
        have bx := hR1.2.2 x (List.mem_of_getElem? hx)
        refine at_in F hl1 gve hva1 (by with_unfolding_all rfl) ?_
        (k_steps; (repeat' (refine hid_ap (by with_reducible assumption) ?_; (try dsimp only); k_steps)))
        rename_i h1 F1 N1 _ _
        refine ⟨?_⟩
        rcases Nat.lt_or_eq_of_le hj with hj' | hj'
        · obtain ⟨y, hy⟩ : ∃ y, ms[j]? = some y := ⟨_, List.getElem?_eq_getElem hj'⟩
          obtain ⟨va', gva, tva⟩ := thing_at hD2 hy
          have bY := hR2.2.2 y (List.mem_of_getElem? hy)
          refine at_in F1 hl2 gva hvb1 (by with_unfolding_all rfl) ?_
          (k_steps; (repeat' (refine hid_ap (by with_reducible assumption) ?_; (try dsimp only); k_steps)))
          rename_i h2 F2 N2 _ _
          refine ⟨?_⟩
          refine thing_lt (by first | exact unitsU (by assumption) | k_units | (dsimp only [ktrTop]; (first | lia | omega)) | (simp only [ktrTop]; (first | lia | omega)) | (simp only [Around.mark_units]; (first | lia | omega)) | (dsimp only [Around.mark]; (first | lia | omega))) tve tva (keepIn F2 hn1) (keepIn F2 hn2) bx bY ?_
          obtain ⟨f', rfl⟩ := step_pos hx hf
          have hmvl := hmv.length
          have huvl := huv.length
          rw [List.length_map] at hmvl huvl
          (k_steps; (repeat' (refine hid_ap (by with_reducible assumption) ?_; (try dsimp only); k_steps)))
          · rename_i hxy _ _
            refine ⟨?_⟩
            have hD' := step_ltE hx hy hxy hDF
            refine append_in (own := [(U, listOf (List.toArray uv) ku)]) (rest := [(Lc, { oc with slots := sl })]) F2 N2 (all1 hMU) (all1 (Ne.symm hMc)) (m100 hmvl hmI hi hns) fun h3 F3 N3 => ?_
            clear F2 N2 hDF
            simp only [List.cons_append, List.nil_append] at N3
            have hmv' := add1 (tl := n1 ++ n2) hmv tve inl
            (k_steps; (repeat' (refine hid_ap (by with_reducible assumption) ?_; (try dsimp only); k_steps)))
            rename_i h4 F4 N4 _ _
            refine ⟨?_⟩
            refine loop_eq (s := s) (oc := oc) (sl := sl) (N₀ := (U, listOf (List.toArray uv) ku) :: [(M, listOf (mv ++ [ve]).toArray (km + 1))]) rfl rfl hf0 hk0 hoc (allc hUc (all1 hMc)) F4 N4 rfl rfl rfl (by decide) (by decide) rfl rfl rfl rfl rfl rfl (fun _ _ => by with_unfolding_all rfl) hl1 hn1 hn1 hD1 hR1 tve bx hi' (by first | exact unitsU (by assumption) | k_units | (dsimp only [ktrTop]; (first | lia | omega)) | (simp only [ktrTop]; (first | lia | omega)) | (simp only [Around.mark_units]; (first | lia | omega)) | (dsimp only [Around.mark]; (first | lia | omega))) (fun _ _ => .inl ⟨rfl, rfl⟩) ?_ ?_
            · exact fun hsk t => takes_of hEE rfl fun e s' hfl => .mk _ _ _ ns.length j t tj (mv ++ [ve]) uv (mI ++ [x]) uI (km + 1) ku _ _ hfl ⟨rfl, rfl, rfl, rfl, rfl, rfl⟩ (.head _) (.tail _ (.head _)) ⟨hmv', huv⟩ (len1 hmI hi') (Nat.le_trans huI hj) (by rw [hD', hsk, diff_nil_l, List.drop_length])
            · intro i' t h' tk' h1 hsk h2 F N
              clear F4 N4
              (k_steps; (repeat' (refine hid_ap (by with_reducible assumption) ?_; (try dsimp only); k_steps)))
              exact ⟨_, less_l hi' h2, .mk i' j f' _ h' tk' t tj (mv ++ [ve]) uv (mI ++ [x]) uI (km + 1) ku sl (Nat.le_of_lt h1) hj F ⟨rfl, rfl, rfl, rfl, rfl, rfl⟩ N ⟨hmv', huv⟩ (len1 hmI h2) huI (by rw [hD', hsk]) (fuel (less_l hi' h2) hf)⟩
          · rename_i h1 _ _
            refine ⟨?_⟩
            refine thing_gt (by first | exact unitsU (by assumption) | k_units | (dsimp only [ktrTop]; (first | lia | omega)) | (simp only [ktrTop]; (first | lia | omega)) | (simp only [Around.mark_units]; (first | lia | omega)) | (dsimp only [Around.mark]; (first | lia | omega))) tve tva (keepIn F2 hn1) (keepIn F2 hn2) bx bY ?_
            (k_steps; (repeat' (refine hid_ap (by with_reducible assumption) ?_; (try dsimp only); k_steps)))
            · rename_i hxy _ _
              refine ⟨?_⟩
              have hD' := step_gtE hx hy hxy hDF
              refine append_in (own := []) (rest := (M, listOf (List.toArray mv) km) :: [(Lc, { oc with slots := sl })]) F2 N2 (fun _ h => nomatch h) (allc (Ne.symm hMU) (all1 (Ne.symm hUc))) (m100 huvl huI hj hms) fun h3 F3 N3 => ?_
              clear F2 N2 hDF
              simp only [List.nil_append] at N3
              have huv' := add1 (tl := n1 ++ n2) huv tva inr
              (k_steps; (repeat' (refine hid_ap (by with_reducible assumption) ?_; (try dsimp only); k_steps)))
              rename_i h4 F4 N4 _ _
              refine ⟨?_⟩
              refine loop_eq (s := s) (oc := oc) (sl := sl) (N₀ := (U, listOf (uv ++ [va']).toArray (ku + 1)) :: [(M, listOf (List.toArray mv) km)]) rfl rfl hf0 hk0 hoc (allc hUc (all1 hMc)) F4 N4 rfl rfl rfl (by decide) (by decide) rfl rfl rfl rfl rfl rfl (fun _ _ => by with_unfolding_all rfl) hl2 hn2 hn2 hD2 hR2 tva bY hj' (by first | exact unitsU (by assumption) | k_units | (dsimp only [ktrTop]; (first | lia | omega)) | (simp only [ktrTop]; (first | lia | omega)) | (simp only [Around.mark_units]; (first | lia | omega)) | (dsimp only [Around.mark]; (first | lia | omega))) (fun _ _ => .inl ⟨rfl, rfl⟩) ?_ ?_
              · exact fun hsk t => takes_of hEE rfl fun e s' hfl => .mk _ _ _ i ms.length ti t mv (uv ++ [va']) mI (uI ++ [y]) km (ku + 1) _ _ hfl ⟨rfl, rfl, rfl, rfl, rfl, rfl⟩ (.head _) (.tail _ (.head _)) ⟨hmv, huv'⟩ (Nat.le_trans hmI hi) (len1 huI hj') (by rw [hD', hsk, diff_nil_r, List.drop_length])
              · intro j' t h' tk' h1 hsk h2 F N
                clear F4 N4
                (k_steps; (repeat' (refine hid_ap (by with_reducible assumption) ?_; (try dsimp only); k_steps)))
                exact ⟨_, less_r hj' h2, .mk i j' f' _ h' tk' ti t mv (uv ++ [va']) mI (uI ++ [y]) km (ku + 1) sl hi (Nat.le_of_lt h1) F ⟨rfl, rfl, rfl, rfl, rfl, rfl⟩ N ⟨hmv, huv'⟩ hmI (len1 huI h2) (by rw [hD', hsk]) (fuel (less_r hj' h2) hf)⟩
            · rename_i h2 _ _ h7 F7 N7 _ _
              refine ⟨?_⟩
              have hD' := step_eqE hx hy h1 h2 hDF
              have hxy : x = y := Int.le_antisymm (Int.not_lt.mp h2) (Int.not_lt.mp h1)
              clear hDF h1 h2
              refine wpAny_Try_finally ?_
              (k_steps; (repeat' (refine hid_ap (by with_reducible assumption) ?_; (try dsimp only); k_steps)))
              refine ⟨?_⟩
              refine loop_eq (s := s) (oc := oc) (sl := sl) (N₀ := (U, listOf (List.toArray uv) ku) :: [(M, listOf (List.toArray mv) km)]) rfl rfl hf0 hk0 hoc (allc hUc (all1 hMc)) F7 N7 rfl rfl rfl (by decide) (by decide) rfl rfl rfl rfl rfl rfl (fun _ _ => by with_unfolding_all rfl) hl1 hn1 hn1 hD1 hR1 tve bx hi' (by first | exact unitsU (by assumption) | k_units | (dsimp only [ktrTop]; (first | lia | omega)) | (simp only [ktrTop]; (first | lia | omega)) | (simp only [Around.mark_units]; (first | lia | omega)) | (dsimp only [Around.mark]; (first | lia | omega))) (fun _ _ => .inl ⟨rfl, rfl⟩) ?_ ?_
              · rintro hsk t _ _ ⟨e1, Tb, oe, oT, sl2, h, tk, F, N, X1, hTe, hT, he⟩
                clear F7 N7
                refine note_again (s := { s with heap := h, toks := tk }) rfl N X1 ⟨ref_ne_byPass _, note_again (s := { s with heap := h, toks := tk }) rfl N X1 ?_⟩
                refine set_flight (s := { s with heap := h, toks := tk }) none F N X1 hTe hT fun h8 oT2 F8 N8 X2 => ?_
                clear F N X1
                have X2' := X2
                obtain ⟨_, vs1, ts1, hd1, h11, h12, hdT, _⟩ := X2'
                dsimp only [at', List.cons_append, List.nil_append] at F8 N8 hT he
                (k_steps; (repeat' (refine hid_ap (by with_reducible assumption) ?_; (try dsimp only); k_steps)))
                rename_i h9 F9 N9 _ _
                dsimp only at F9 N9
                refine ⟨?_⟩
                refine loop_eq (s := s) (oc := oc) (sl := sl2) (N₀ := (e1, oe) :: (Tb, oT2) :: (U, listOf (List.toArray uv) ku) :: [(M, listOf (List.toArray mv) km)]) rfl rfl hf0 hk0 hoc (allc (Ne.symm (he _ (.tail _ (.tail _ (.head _))))) (allc (Ne.symm (hT _ (.tail _ (.tail _ (.head _))))) (allc hUc (all1 hMc)))) F9 N9 rfl rfl rfl (by decide) (by decide) rfl rfl rfl rfl rfl rfl (fun _ _ => by with_unfolding_all rfl) hl2 hn2 hn2 hD2 hR2 tva bY hj' (by first | exact unitsU (by assumption) | k_units | (dsimp only [ktrTop]; (first | lia | omega)) | (simp only [ktrTop]; (first | lia | omega)) | (simp only [Around.mark_units]; (first | lia | omega)) | (dsimp only [Around.mark]; (first | lia | omega))) (fun _ N => .inr ⟨e1, oe, vs1, rfl, rfl, (N _ (.head _)).1, hd1, h12⟩) ?_ ?_
                · exact fun hsk2 t2 => takes_noted rfl (takes_of hEE rfl fun e s' hfl => .mk _ _ _ ns.length ms.length t t2 mv uv mI uI km ku _ _ hfl ⟨rfl, rfl, rfl, rfl, rfl, rfl⟩ (.tail _ (.tail _ (.head _))) (.tail _ (.tail _ (.tail _ (.head _)))) ⟨hmv, huv⟩ (Nat.le_trans hmI hi) (Nat.le_trans huI hj) (by rw [hD', hsk, hsk2, diff_nil_l, List.drop_length, List.drop_length]))
                · intro j' t2 h' tk' h1 hsk2 h2 F N
                  clear F9 N9
                  (k_steps; (repeat' (refine hid_ap (by with_reducible assumption) ?_; (try dsimp only); k_steps)))
                  refine pass_on (s := { s with heap := h', toks := tk' }) rfl F N X2 hTe hT fun h' oT3 F' N' X3 => ?_
                  exact takes_of (N₀ := (U, listOf (List.toArray uv) ku) :: [(M, listOf (List.toArray mv) km)]) hEE rfl (fun e s' hfl => .mk _ _ _ ns.length j' t t2 mv uv mI uI km ku _ _ hfl ⟨rfl, rfl, rfl, rfl, rfl, rfl⟩ (.head _) (.tail _ (.head _)) ⟨hmv, huv⟩ (Nat.le_trans hmI hi) (Nat.le_trans huI hj) (by rw [hD', hsk, hsk2, diff_nil_l, List.drop_length])) _ _ (.mk e1 Tb oe oT3 sl2 h' tk' F' N' X3 hTe hT he)
              · intro i' t h' tk' h1 hsk h2 F N
                clear F7 N7
                dsimp only [at', List.cons_append, List.nil_append] at F N
                (k_steps; (repeat' (refine hid_ap (by with_reducible assumption) ?_; (try dsimp only); k_steps)))
                rename_i h9 F9 N9 _ _
                dsimp only at F9 N9
                refine ⟨?_⟩
                refine loop_eq (s := s) (oc := oc) (sl := sl) (N₀ := (U, listOf (List.toArray uv) ku) :: [(M, listOf (List.toArray mv) km)]) rfl rfl hf0 hk0 hoc (allc hUc (all1 hMc)) F9 N9 rfl rfl rfl (by decide) (by decide) rfl rfl rfl rfl rfl rfl (fun _ _ => by with_unfolding_all rfl) hl2 hn2 hn2 hD2 hR2 tva bY hj' (by first | exact unitsU (by assumption) | k_units | (dsimp only [ktrTop]; (first | lia | omega)) | (simp only [ktrTop]; (first | lia | omega)) | (simp only [Around.mark_units]; (first | lia | omega)) | (dsimp only [Around.mark]; (first | lia | omega))) (fun _ _ => .inl ⟨rfl, rfl⟩) ?_ ?_
                · exact fun hsk2 t2 => takes_noted rfl (takes_of hEE rfl fun e s' hfl => .mk _ _ _ i' ms.length t t2 mv uv mI uI km ku _ _ hfl ⟨rfl, rfl, rfl, rfl, rfl, rfl⟩ (.head _) (.tail _ (.head _)) ⟨hmv, huv⟩ (Nat.le_trans hmI hi) (Nat.le_trans huI hj) (by rw [hD', hsk, hsk2, diff_nil_r, List.drop_length]))
                · intro j' t2 h' tk' h1' hsk2 h2' F N
                  clear F9 N9
                  (k_steps; (repeat' (refine hid_ap (by with_reducible assumption) ?_; (try dsimp only); k_steps)))
                  have z := Nat.lt_trans (less_l (b := ms.length - j') hi' h2) (less_r hj' h2')
                  exact ⟨_, z, .mk i' j' f' _ h' tk' t t2 mv uv mI uI km ku sl (Nat.le_of_lt h1) (Nat.le_of_lt h1') F ⟨rfl, rfl, rfl, rfl, rfl, rfl⟩ N ⟨hmv, huv⟩ (Nat.le_trans hmI (Nat.le_of_succ_le h2)) (Nat.le_trans huI (Nat.le_of_succ_le h2')) (by rw [hD', hsk, hsk2]) (fuel z hf)⟩
        · refine at_out (.inl ⟨rfl, rfl⟩) F1 hl2 (hvb.trans hj'.symm) hvb1 (by with_unfolding_all rfl) fun h4 tk4 e4 x4 => ?_
          exact hEE _ _ (fresh_note (s := s) (N₀ := (U, listOf (List.toArray uv) ku) :: [(M, listOf (List.toArray mv) km)]) rfl rfl fn_ne_mod hf0 hk0 x4 F1 N1 hoc hne fun s' hfl => .mk _ _ _ i j ti tj mv uv mI uI km ku _ _ hfl ⟨rfl, rfl, rfl, rfl, rfl, rfl⟩ (.head _) (.tail _ (.head _)) ⟨hmv, huv⟩ (Nat.le_trans hmI hi) (Nat.le_trans huI hj) (by rw [hDF, hj', List.drop_length, diff_nil_r]))
      · refine at_out (.inl ⟨rfl, rfl⟩) F hl1 (hva.trans hi'.symm) hva1 (by with_unfolding_all rfl) fun h4 tk4 e4 x4 => ?_
        exact hEE _ _ (fresh_note (s := s) (N₀ := (U, listOf (List.toArray uv) ku) :: [(M, listOf (List.toArray mv) km)]) rfl rfl fn_ne_mod hf0 hk0 x4 F N hoc hne fun s' hfl => .mk _ _ _ i j ti tj mv uv mI uI km ku _ _ hfl ⟨rfl, rfl, rfl, rfl, rfl, rfl⟩ (.head _) (.tail _ (.head _)) ⟨hmv, huv⟩ (Nat.le_trans hmI hi) (Nat.le_trans huI hj) (by rw [hDF, hi', List.drop_length, diff_nil_l]))

end
end Mine

namespace Mine
section
open PySem PySem.Calls PySem.W PyProof.Rows
local macro_rules | `(tactic| walk_at "zz") => `(tactic| fail)
local macro_rules | `(tactic| walk_at "zz") => `(tactic| fail)
local macro_rules | `(tactic| walk_at "zz") => `(tactic| fail)
local macro_rules | `(tactic| walk_at "zz") => `(tactic| fail)
theorem rowsIn_of {h₀ h : Heap} {L r : Addr} {news tl : List (Addr × Obj)} {us : List Value} {k : Nat} {ds : List Dat} (N : News h₀ L h news) (hm : (r, listOf us.toArray k) ∈ news) (ht : ∀ p ∈ tl, p ∈ news) (hD : DatAll tl us ds) (h6 : ds.length = 6) (hrow : ∀ d ∈ ds, Row1 d) : RowsIn r h :=
  ⟨us, tl, k, ds, (N _ hm).1, fun p hp => (N p (ht p hp)).1, hD, h6, hrow⟩
theorem lin_of {h₀ h : Heap} {L l : Addr} {news n1 : List (Addr × Obj)} {va : List Value} {k : Nat} {o : Bool} {ns : List Int} (N : News h₀ L h news) (hm : (l, listOf va.toArray k) ∈ news) (ht : ∀ p ∈ n1, p ∈ news) (hD : DatAll n1 va (ns.map (rankThing o))) (hR : Ranks ns) : LIn l va n1 o ns (hid h L) :=
  ⟨⟨k, (hid_get (N _ hm).2.1).trans (N _ hm).1⟩, fun p hp => (hid_get (N p (ht p hp)).2.1).trans (N p (ht p hp)).1, hD, hR⟩
theorem new_hid {h₀ h h' : Heap} {L : Addr} {m : Str → Option Value} {tl : List (Addr × Obj)} (F : Fr h₀ L h' m) (W : New (hid h L) h' tl) (hnd : ∀ p ∈ tl, ∀ es ep, p.2.data ≠ .dict es ep) : New h h' tl := fun p hp => by
  obtain ⟨a, b⟩ := W p hp
  refine ⟨a, ?_⟩
  have hne : p.1 ≠ L := fun e => by
    obtain ⟨o, es, ep, ho, hd, _⟩ := F.ns
    rw [e, ho] at a
    injection a with a
    exact hnd p hp es ep (by rw [← a]; exact hd)
  exact (hid_get hne).symm.trans b
theorem nd3 (t M U : Addr) (k : Nat) (xs ys zs : Array Value) {km ku : Nat} : ∀ p ∈ [(t, ({ cls := .type "tuple", data := .seq xs k } : Obj)), (M, listOf ys km), (U, listOf zs ku)], ∀ es ep, p.2.data ≠ .dict es ep := by
  intro p hp es ep q
  simp only [List.mem_cons, List.not_mem_nil, or_false] at hp
  rcases hp with rfl | rfl | rfl <;> cases q
theorem thing_ok (o : Bool) : ∀ i < 48, kqdOk 7 (rankThing o (i : Nat)) = true := by cases o <;> decide +kernel
theorem thing_okI {o : Bool} {r : Int} (h : 0 ≤ r ∧ r < 48) : kqdOk 7 (rankThing o r) = true := by
  have := thing_ok o r.toNat (by (first | lia | omega))
  rw [Int.toNat_of_nonneg h.1] at this
  exact this
theorem due_ok {o : Bool} {ns ms : List Int} (hn : Ranks ns) : kqdOk 8 (.list ((dueOf ns ms).map (rankThing o))) = true := by
  simp only [kqdOk, List.all_map, List.all_eq_true]
  exact fun r hr => thing_okI (hn.2.2 r (dueOf_sub ns ms r hr))
theorem pair_ok {a b : Dat} (h1 : kqdOk 8 a = true) (h2 : kqdOk 8 b = true) : kqdOk 9 (.tuple [a, b]) = true := by
  show List.all [a, b] (kqdOk 8) = true
  rw [List.all_cons, List.all_cons, h1, h2]
  rfl
section
variable {prog : Program} {w : World} {A : Around} {E : Value → Shared → Prop} {s : Shared} {h₀ : Heap} {L a b : Addr} {news : List (Addr × Obj)} {d : Dat} {Q : Value → Shared → Prop}
theorem dat_ne_same (N : News h₀ L s.heap news) (Da : DatIn news (.ref a) d) (Db : DatIn news (.ref b) d) (hk : kqdOk 9 d = true) (hu : A.units + 64 < cLine) (h : Q (.bool false) s) : wpAny (model prog w) A (compareOp .NotEq (.ref a) (.ref b)) Q E s := by
  obtain ⟨as, ra⟩ := kqd_in N 9 Da hk
  obtain ⟨bs, rb⟩ := kqd_in N 9 Db hk
  have la := kqd_lay 9 d hk
  have e : PyData.eqv (kqdP d) (kqdP d) = true := (kqd_eqv 9 d d 9 hk hk).mpr rfl
  refine ne_dataH ra rb ?_ ?_ hu (by rw [e]; exact h)
  · unfold SeqAt.shaped; rw [la.1, Bool.true_and]; exact decide_eq_true (Nat.le_trans la.2 (by decide))
  · unfold SeqAt.shaped; rw [la.1, Bool.true_and]; exact decide_eq_true (Nat.le_trans la.2 (by decide))
end
/-- what the ledger holds of the rows -/
structure RowsL (R : List (Addr × Obj)) (r : Addr) : Prop where
  of : ∃ us tl k ds, (r, listOf (List.toArray us) k) ∈ R ∧ (∀ p ∈ tl, p ∈ R) ∧ DatAll tl us ds ∧ ds.length = 6 ∧ ∀ d ∈ ds, Row1 d
theorem RowsL.at_ {h₀ h : Heap} {L r : Addr} {news R : List (Addr × Obj)} (H : RowsL R r) (N : News h₀ L h news) (hs : ∀ p ∈ R, p ∈ news) : RowsIn r h := by
  obtain ⟨us, tl, k, ds, hm, ht, hD, h6, hr⟩ := H.of
  exact rowsIn_of N (hs _ hm) (fun p hp => hs p (ht p hp)) hD h6 hr
/-- what the ledger holds of a file: the ranks' list a, the things' list b -/
structure FileL (X : List (Addr × Obj)) (o : Bool) (a b : Addr) (ras ths : List Value) (rs : List Int) : Prop where
  hRa : ∃ k, (a, listOf (List.toArray ras) k) ∈ X
  hTh : ∃ k, (b, listOf (List.toArray ths) k) ∈ X
  hInt : IntsAre ras rs
  hDat : ∃ tl, (∀ p ∈ tl, p ∈ X) ∧ DatAll tl ths (rs.map (rankThing o))
  hGood : Ranks rs
theorem FileL.lin {h₀ h : Heap} {L a b : Addr} {news X : List (Addr × Obj)} {o : Bool} {ras ths : List Value} {rs : List Int} (H : FileL X o a b ras ths rs) (N : News h₀ L h news) (hs : ∀ p ∈ X, p ∈ news) : LIn b ths X o rs (hid h L) := by
  obtain ⟨_, ⟨k, hk⟩, _, ⟨tl, ht, hD⟩, hR⟩ := H
  exact lin_of N (hs _ hk) hs (hD.mono ht) hR
theorem FileL.list {h₀ h : Heap} {L a b : Addr} {news X : List (Addr × Obj)} {o : Bool} {ras ths : List Value} {rs : List Int} (H : FileL X o a b ras ths rs) (N : News h₀ L h news) (hs : ∀ p ∈ X, p ∈ news) : ListIn a ras rs h := by
  obtain ⟨⟨k, hk⟩, _, hI, _, _⟩ := H
  exact ⟨⟨k, (N _ (hs _ hk)).1⟩, hI⟩
/-- what the ledger holds of the due things -/
structure DueL (X : List (Addr × Obj)) (o : Bool) (r : Addr) (rs : List Int) : Prop where
  of : ∃ us k tl, (r, listOf (List.toArray us) k) ∈ X ∧ (∀ p ∈ tl, p ∈ X) ∧ DatAll tl us (rs.map (rankThing o))
theorem DueL.dat {X news : List (Addr × Obj)} {o : Bool} {r : Addr} {rs : List Int} (H : DueL X o r rs) (hs : ∀ p ∈ X, p ∈ news) : DatIn news (.ref r) (.list (rs.map (rankThing o))) := by
  obtain ⟨us, k, tl, hm, ht, hD⟩ := H.of
  exact .list (hs _ hm) (hD.mono fun p hp => hs p (ht p hp))
theorem units_room {env : Env} : (callerA.deeper env).units + 64 < cLine := by
  first | decide | (show (callerA.units + _) + 64 < cLine; decide) | (dsimp only [Around.deeper, callerA]; decide)
theorem news_mid {g h : Heap} {L : Addr} {p : Addr × Obj} {A R : List (Addr × Obj)} (N : News g L h (A ++ p :: R)) : News g L h (p :: (A ++ R)) := fun q hq => N q (by
  rcases List.mem_cons.mp hq with rfl | hq
  · exact List.mem_append_right _ (.head _)
  · exact (List.mem_append.mp hq).elim (List.mem_append_left _) fun h => List.mem_append_right _ (.tail _ h))
theorem ord_0 {i : Nat} (h : i < 2) : 0 + (i : Int) = ordI (i == 1) := by
  rcases Nat.lt_succ_iff_lt_or_eq.mp h with h | h
  · rw [Nat.lt_one_iff.mp h]; rfl
  · rw [h]; rfl
theorem bld_due {n1 n2 : List (Addr × Obj)} {o : Bool} {mv uv : List Value} {rs1 rs2 : List Int} (h1 : Ranks rs1) (h2 : Ranks rs2) (h : Bld n1 n2 o mv uv (DF rs1 rs2).1 (DF rs1 rs2).2) : Bld n1 n2 o mv uv (dueOf rs1 rs2) (dueOf rs2 rs1) := by
  have e : DF rs1 rs2 = (dueOf rs1 rs2, dueOf rs2 rs1) := diff_law h1 h2
  rw [e] at h
  exact h
inductive JEq (l : List (Addr × Obj)) : List (Addr × Obj) → Prop
  | mk : JEq l l
local macro_rules | `(tactic| walk_at "execs cons") => `(tactic| (k_here; (try dsimp only); (try k_gentoks); refine execs_hide ?_; intro QQ hQQ))
local macro_rules | `(tactic| walk_at "call ref") => `(tactic| (k_here; refine hold ?_))
local macro_rules | `(tactic| walk_at "exec For Name Call cons nil") => `(tactic| (k_here; refine hold ?_))
local macro_rules | `(tactic| walk_at "compareOp NotEq ref ref") => `(tactic| (k_here; refine hold ?_))
set_option pp.deepTerms false
set_option pp.deepTerms.threshold 6
set_option pp.maxSteps 6000
set_option maxHeartbeats 400000 in
theorem holds : Challenge.rw_il0129_01.Holds := by
  refine hd (by rfl) (by rfl) (by rfl) ?_
  k_go0
  refine wpAny_noRaise ?_
  refine hide ?_
  intro Q0 hQ0
  rename Frag.In _ _ => X
  rename Top _ _ _ _ _ _ => T
  rename Below _ _ _ _ => B
  dsimp only [Top.heap] at B
  rename IntsAre _ _ => hI
  rename Fr _ _ _ _ => F0
  rename News _ _ _ _ => N0
  (k_steps; (repeat' (refine hid_ap (by with_reducible assumption) ?_; (try dsimp only); k_steps)))
  refine ⟨?_⟩
  k_dflt (refine (con_rows _ _ _ _).use B F0 X N0 T rfl (by decide) (by decide) ⟨by is_list, hI, by (first | lia | omega)⟩ ?_)
  rintro _ h2 tk2 F2 N2 - ⟨r, us, tl, k, ds, _, W, hD, hds, hrow⟩
  have N2 := W.news F0 N2
  rw [List.append_nil] at N2
  have H : RowsL ((r, listOf us.toArray k) :: tl) r := ⟨us, tl, k, ds, .head _, fun p hp => .tail _ hp, hD, hds, hrow⟩
  clear W hD hrow F0 N0
  generalize (r, listOf us.toArray k) :: tl = R at N2 H
  (k_steps; (repeat' (refine hid_ap (by with_reducible assumption) ?_; (try dsimp only); k_steps)))
  refine ⟨?_⟩
  rename Fr _ _ _ _ => F3
  with_unfolding_all refine' For_lp F3 ?_
  k_steps
  rename_i h4 tk4 t4 u4 v4 R4 F4 N4 K4
  refine lp_range (n := 2) (news₀ := R) [Str.ofString "order", Str.ofString "ranks", Str.ofString "things", Str.ofString "others", Str.ofString "strangers", Str.ofString "missing", Str.ofString "unexpected"] (fun _ => JEq R)
    rfl F4 N4 R4 (by decide) (by decide) (fun _ h => h) .mk ?_ ?_
  · clear F4 N4 R4 K4
    rintro i t u nx h tk I oI hi hcI ⟨⟩ hne F N
    rw [ord_0 hi]
    generalize (i == 1) = o
    dsimp only
    refine hide_body ?_
    intro QL hQL
    (k_steps; (repeat' (refine hid_ap (by with_reducible assumption) ?_; (try dsimp only); k_steps)))
    refine ⟨?_⟩
    rename Fr _ _ _ _ => F1
    rename News _ _ _ _ => N1
    k_dflt (refine (con_file _ _ _ o _ _).use B F1 X N1 T rfl (by decide) (by decide) (H.at_ N1 fun p hp => .tail _ hp) ?_)
    rintro _ h2 tk2 F2 N2 - ⟨t1, k1, a1, ka1, b1, kb1, ra1, rs1, th1, tl1, _, W, hI1, hD1, hR1⟩
    have N2 := W.news F1 N2
    clear W F1 N1
    dsimp only [List.cons_append] at N2
    have H1 : FileL ((a1, listOf ra1.toArray ka1) :: (b1, listOf th1.toArray kb1) :: tl1) o a1 b1 ra1 th1 rs1 := ⟨⟨_, .head _⟩, ⟨_, .tail _ (.head _)⟩, hI1, ⟨tl1, fun p hp => .tail _ (.tail _ hp), hD1⟩, hR1⟩
    clear hI1 hD1
    (k_steps; (repeat' (refine hid_ap (by with_reducible assumption) ?_; (try dsimp only); k_steps)))
    refine ⟨?_⟩
    rename Fr _ _ _ _ => F3
    rename News _ _ _ _ => N3
    have N3 := news_mid (A := (a1, listOf ra1.toArray ka1) :: (b1, listOf th1.toArray kb1) :: tl1) (news_drop N3)
    generalize (a1, listOf ra1.toArray ka1) :: (b1, listOf th1.toArray kb1) :: tl1 = X1 at N3 H1
    k_dflt (refine (con_file _ _ _ o _ _).use B F3 X N3 T rfl (by decide) (by decide) (H.at_ N3 fun p hp => .tail _ (List.mem_append_right _ hp)) ?_)
    rintro _ h4 tk4 F4 N4 - ⟨t2, k2, a2, ka2, b2, kb2, ra2, rs2, th2, tl2, _, W, hI2, hD2, hR2⟩
    have N4 := W.news F3 N4
    clear W F3 N3
    dsimp only [List.cons_append] at N4
    have H2 : FileL ((a2, listOf ra2.toArray ka2) :: (b2, listOf th2.toArray kb2) :: tl2) o a2 b2 ra2 th2 rs2 := ⟨⟨_, .head _⟩, ⟨_, .tail _ (.head _)⟩, hI2, ⟨tl2, fun p hp => .tail _ (.tail _ hp), hD2⟩, hR2⟩
    clear hI2 hD2
    (k_steps; (repeat' (refine hid_ap (by with_reducible assumption) ?_; (try dsimp only); k_steps)))
    refine ⟨?_⟩
    rename Fr _ _ _ _ => F5
    rename News _ _ _ _ => N5
    have N5 := news_mid (A := (a2, listOf ra2.toArray ka2) :: (b2, listOf th2.toArray kb2) :: tl2) (news_drop N5)
    generalize (a2, listOf ra2.toArray ka2) :: (b2, listOf th2.toArray kb2) :: tl2 = X2 at N5 H2
    k_dflt (refine (con_due _ a1 a2 ra1 ra2 rs1 rs2 o _).use B F5 X N5 T rfl (by decide) (by decide) ⟨H1.list N5 (fun p hp => .tail _ (List.mem_append_right _ (List.mem_append_left _ hp))), H2.list N5 (fun p hp => .tail _ (List.mem_append_left _ hp)), hR1, hR2⟩ ?_)
    rintro _ h6 tk6 F6 N6 - ⟨r3, us3, k3, tl3, _, W, hD3⟩
    have N6 := W.news F5 N6
    clear W F5 N5
    have D3 : DueL ((r3, listOf us3.toArray k3) :: tl3) o r3 (dueOf rs1 rs2) := ⟨us3, k3, tl3, .head _, fun p hp => .tail _ hp, hD3⟩
    clear hD3
    generalize (r3, listOf us3.toArray k3) :: tl3 = X3 at N6 D3
    have N6 := news_mid N6
    (k_steps; (repeat' (refine hid_ap (by with_reducible assumption) ?_; (try dsimp only); k_steps)))
    refine ⟨?_⟩
    rename Fr _ _ _ _ => F3
    rename News _ _ _ _ => N3
    k_dflt (refine (con_due _ a2 a1 ra2 ra1 rs2 rs1 o _).use B F3 X N3 T rfl (by decide) (by decide) ⟨H2.list N3 (fun p hp => .tail _ (List.mem_append_right _ (List.mem_append_left _ hp))), H1.list N3 (fun p hp => .tail _ (List.mem_append_right _ (List.mem_append_right _ (List.mem_append_left _ hp)))), hR2, hR1⟩ ?_)
    rintro _ h6 tk6 F6 N6 - ⟨r4, us4, k4, tl4, _, W, hD4⟩
    have N6 := W.news F3 N6
    clear W F3 N3
    have D4 : DueL ((r4, listOf us4.toArray k4) :: tl4) o r4 (dueOf rs2 rs1) := ⟨us4, k4, tl4, .head _, fun p hp => .tail _ hp, hD4⟩
    clear hD4
    generalize (r4, listOf us4.toArray k4) :: tl4 = X4 at N6 D4
    have N6 := news_mid N6
    (k_steps; (repeat' (refine hid_ap (by with_reducible assumption) ?_; (try dsimp only); k_steps)))
    refine ⟨?_⟩
    rename Fr _ _ _ _ => F4
    rename News _ _ _ _ => N4
    k_dflt (refine (con_sld _ b1 b2 th1 th2 X1 X2 o rs1 rs2).use F4 X N4 T rfl (by decide) (by decide) ⟨H1.lin N4 (fun p hp => .tail _ (List.mem_append_right _ (List.mem_append_right _ (List.mem_append_right _ (List.mem_append_left _ hp))))), H2.lin N4 (fun p hp => .tail _ (List.mem_append_right _ (List.mem_append_right _ (List.mem_append_left _ hp))))⟩ ?_)
    rintro _ h7 tk7 F7 N7 - ⟨t5, k5, M5, km5, U5, ku5, mv5, uv5, _, W, hB⟩
    have W := new_hid F7 W (nd3 _ _ _ _ _ _ _)
    have hB := bld_due hR1 hR2 hB
    have N7 := W.news F4 N7
    clear W F4 N4
    dsimp only [List.cons_append, List.nil_append] at N7
    (k_steps; (repeat' (refine hid_ap (by with_reducible assumption) ?_; (try dsimp only); k_steps)))
    refine ⟨?_⟩
    rename_i T5 h8 F8 N8 _
    refine dat_ne_same N8 (a := t5) (b := T5) (d := .tuple [.list ((dueOf rs1 rs2).map (rankThing o)), .list ((dueOf rs2 rs1).map (rankThing o))])
      (.tuple (vs := [.ref M5, .ref U5]) (.tail _ (.head _)) (.cons (.list (.tail _ (.tail _ (.head _))) (hB.m.mono (alla (fun p hp => .tail _ (.tail _ (.tail _ (.tail _ (.tail _ (List.mem_append_right _ (List.mem_append_right _ (List.mem_append_right _ (List.mem_append_left _ hp))))))))) (fun p hp => .tail _ (.tail _ (.tail _ (.tail _ (.tail _ (List.mem_append_right _ (List.mem_append_right _ (List.mem_append_left _ hp))))))))))) (.cons (.list (.tail _ (.tail _ (.tail _ (.head _)))) (hB.u.mono (alla (fun p hp => .tail _ (.tail _ (.tail _ (.tail _ (.tail _ (List.mem_append_right _ (List.mem_append_right _ (List.mem_append_right _ (List.mem_append_left _ hp))))))))) (fun p hp => .tail _ (.tail _ (.tail _ (.tail _ (.tail _ (List.mem_append_right _ (List.mem_append_right _ (List.mem_append_left _ hp))))))))))) .nil)))
      (.tuple (vs := [.ref r3, .ref r4]) (.head _) (.cons (D3.dat (fun p hp => .tail _ (.tail _ (.tail _ (.tail _ (.tail _ (List.mem_append_right _ (List.mem_append_left _ hp)))))))) (.cons (D4.dat (fun p hp => .tail _ (.tail _ (.tail _ (.tail _ (.tail _ (List.mem_append_left _ hp))))))) .nil)))
      (pair_ok (due_ok hR1) (due_ok hR2)) (by first | exact units_room | ke_room) ?_
    clear hB
    have N9 := news_drop (news_drop (news_drop (news_drop N8)))
    clear N8
    (k_steps; (repeat' (refine hid_ap (by with_reducible assumption) ?_; (try dsimp only); k_steps)))
    refine ⟨?_⟩
    rename Fr _ _ _ _ => F9
    k_dflt (refine (con_sld _ b2 b1 th2 th1 X2 X1 o rs2 rs1).use F9 X N9 T rfl (by decide) (by decide) ⟨H2.lin N9 (fun p hp => .tail _ (List.mem_append_right _ (List.mem_append_right _ (List.mem_append_left _ hp)))), H1.lin N9 (fun p hp => .tail _ (List.mem_append_right _ (List.mem_append_right _ (List.mem_append_right _ (List.mem_append_left _ hp)))))⟩ ?_)
    rintro _ h7 tk7 F7 N7 - ⟨t5, k5, M5, km5, U5, ku5, mv5, uv5, _, W, hB⟩
    have W := new_hid F7 W (nd3 _ _ _ _ _ _ _)
    have hB := bld_due hR2 hR1 hB
    have N7 := W.news F9 N7
    clear W F9 N9
    dsimp only [List.cons_append, List.nil_append] at N7
    (k_steps; (repeat' (refine hid_ap (by with_reducible assumption) ?_; (try dsimp only); k_steps)))
    refine ⟨?_⟩
    rename_i T5 h8 F8 N8 _
    refine dat_ne_same N8 (a := t5) (b := T5) (d := .tuple [.list ((dueOf rs2 rs1).map (rankThing o)), .list ((dueOf rs1 rs2).map (rankThing o))])
      (.tuple (vs := [.ref M5, .ref U5]) (.tail _ (.head _)) (.cons (.list (.tail _ (.tail _ (.head _))) (hB.m.mono (alla (fun p hp => .tail _ (.tail _ (.tail _ (.tail _ (.tail _ (List.mem_append_right _ (List.mem_append_right _ (List.mem_append_left _ hp)))))))) (fun p hp => .tail _ (.tail _ (.tail _ (.tail _ (.tail _ (List.mem_append_right _ (List.mem_append_right _ (List.mem_append_right _ (List.mem_append_left _ hp)))))))))))) (.cons (.list (.tail _ (.tail _ (.tail _ (.head _)))) (hB.u.mono (alla (fun p hp => .tail _ (.tail _ (.tail _ (.tail _ (.tail _ (List.mem_append_right _ (List.mem_append_right _ (List.mem_append_left _ hp)))))))) (fun p hp => .tail _ (.tail _ (.tail _ (.tail _ (.tail _ (List.mem_append_right _ (List.mem_append_right _ (List.mem_append_right _ (List.mem_append_left _ hp)))))))))))) .nil)))
      (.tuple (vs := [.ref r4, .ref r3]) (.head _) (.cons (D4.dat (fun p hp => .tail _ (.tail _ (.tail _ (.tail _ (.tail _ (List.mem_append_left _ hp))))))) (.cons (D3.dat (fun p hp => .tail _ (.tail _ (.tail _ (.tail _ (.tail _ (List.mem_append_right _ (List.mem_append_left _ hp)))))))) .nil)))
      (pair_ok (due_ok hR2) (due_ok hR1)) (by first | exact units_room | ke_room) ?_
    clear hB
    have N10 := news_drop (news_drop (news_drop (news_drop N8)))
    clear N8
    (k_steps; (repeat' (refine hid_ap (by with_reducible assumption) ?_; (try dsimp only); k_steps)))
    rename Fr _ _ _ _ => F11
    exact LpEnd.intro R F11 N10 (.head _) (fun p hp => .tail _ (List.mem_append_right _ (List.mem_append_right _ (List.mem_append_right _ (List.mem_append_right _ hp))))) hne ⟨by (repeat (first | refine keep_put (by decide) ?_ | exact keep_base | refine keep_in (by decide) ?_)); done, .mk⟩
  · clear F4 N4 R4 K4
    rintro u nx h tk ⟨⟩ F N
    (k_steps; (repeat' (refine hid_ap (by with_reducible assumption) ?_; (try dsimp only); k_steps)))
    refine ⟨?_⟩
    k_dflt (refine (con_compared _ _).use B F X N T rfl (by decide) (by decide) (H.at_ N fun _ h => h) ?_)
    rintro _ h4 tk4 F4 N4 - rfl
    (k_steps; (repeat' (refine hid_ap (by with_reducible assumption) ?_; (try dsimp only); k_steps)))

end
end Mine

theorem PySem.Challenge.cw_il0129_01_holds : PySem.Challenge.rw_il0129_01.Holds :=
  Mine.holds
