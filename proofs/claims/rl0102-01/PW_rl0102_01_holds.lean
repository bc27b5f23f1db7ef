import PyProof.Rows.All
import Wide.All
import OpenK.AllK
import Wide.FinOn
import PySem.Challenge.RW_rl0102_01
open PySem PySem.W PyProof.Rows
set_option Elab.async false
set_option linter.unusedVariables false
namespace Mine
theorem freshAtKk : True := by
  (try (walk1; fail))
  w_top off
  trivial
end Mine
section
open PySem PySem.W PyProof.Rows
namespace Mine
set_option maxRecDepth 100000
set_option maxHeartbeats 8000000
abbrev prg : Program := PySem.Challenge.rw_rl0102_01.row.prog
/-- the def at place i of the text, or the j-th (from 1) of the class there -/
noncomputable def dSt (i j : Nat) : Stmt := match j with
  | 0 => prg.main.body.getD i (.Pass ⟨0, 0, 0, 0⟩)
  | j + 1 => match prg.main.body.getD i (.Pass ⟨0, 0, 0, 0⟩) with
    | .ClassDef _ _ _ b _ _ _ _ _ _ _ => b.getD j (.Pass ⟨0, 0, 0, 0⟩)
    | st => st
noncomputable def fnO (i j : Nat) (name qual : Str) (dV kV pm cd : Value) : FuncData := match dSt i j with
  | .FunctionDef _ a b _ _ _ s _ _ _ => { name := name, qualname := qual, params := a, body := .stmts b, scope := s, globals := 3, closure := [], defaults := dV, kwdefaults := kV, pyModule := pm, code := cd }
  | _ => { name := name, qualname := qual, params := { posonlyargs := [], args := [], vararg := none, kwonlyargs := [], kw_defaults := [], kwarg := none, defaults := [] }, body := .stmts [],
           scope := { kind := .function, names := [], isGenerator := false, isCoroutine := false }, globals := 3, closure := [], defaults := dV, kwdefaults := kV, pyModule := pm, code := cd }
noncomputable def ob_2 (P : Params) : Obj :=
  { cls := Value.none, data := Data.dict #[{ hash := PyData.keyHash P (Str.ofString "type.__subclasses__.Exception.0"), key := Value.str (Str.ofString "type.__subclasses__.Exception.0") 357, val := Value.int 124 0 }, { hash := PyData.keyHash P (Str.ofString "type.__subclasses__.Exception.n"), key := Value.str (Str.ofString "type.__subclasses__.Exception.n") 358, val := Value.int 1 0 }] 2 }
noncomputable def ob_3 (P : Params) : Obj :=
  { cls := Value.type "dict", data := Data.dict #[{ hash := PyData.keyHash P (Str.ofString "__name__"), key := Value.str (Str.ofString "__name__") 165, val := Value.str (Str.ofString "law_rl0102_01") 388 }, { hash := PyData.keyHash P (Str.ofString "__doc__"), key := Value.str (Str.ofString "__doc__") 166, val := Value.none }, { hash := PyData.keyHash P (Str.ofString "__package__"), key := Value.str (Str.ofString "__package__") 167, val := Value.none }, { hash := PyData.keyHash P (Str.ofString "__loader__"), key := Value.str (Str.ofString "__loader__") 168, val := Value.builtin "__main__.__loader__#opaque" }, { hash := PyData.keyHash P (Str.ofString "__spec__"), key := Value.str (Str.ofString "__spec__") 169, val := Value.none }, { hash := PyData.keyHash P (Str.ofString "__annotations__"), key := Value.str (Str.ofString "__annotations__") 170, val := Value.ref 6 }, { hash := PyData.keyHash P (Str.ofString "__builtins__"), key := Value.str (Str.ofString "__builtins__") 171, val := Value.ref 4 }, { hash := PyData.keyHash P (Str.ofString "__file__"), key := Value.str (Str.ofString "__file__") 173, val := Value.str (Str.ofString "/claim/cut.py") 172 }, { hash := PyData.keyHash P (Str.ofString "__cached__"), key := Value.str (Str.ofString "__cached__") 174, val := Value.none }, { hash := PyData.keyHash P (Str.ofString "_wall"), key := Value.str (Str.ofString "_wall") 193, val := Value.ref 21 }, { hash := PyData.keyHash P (Str.ofString "Whitespace"), key := Value.str (Str.ofString "Whitespace") 295, val := Value.ref 83 }, { hash := PyData.keyHash P (Str.ofString "insort_right"), key := Value.str (Str.ofString "insort_right") 310, val := Value.ref 96 }, { hash := PyData.keyHash P (Str.ofString "bisect_right"), key := Value.str (Str.ofString "bisect_right") 324, val := Value.ref 105 }, { hash := PyData.keyHash P (Str.ofString "bisect_left"), key := Value.str (Str.ofString "bisect_left") 338, val := Value.ref 114 }, { hash := PyData.keyHash P (Str.ofString "Error"), key := Value.str (Str.ofString "Error") 360, val := Value.ref 124 }, { hash := PyData.keyHash P (Str.ofString "error_reply"), key := Value.str (Str.ofString "error_reply") 376, val := Value.ref 137 }, { hash := PyData.keyHash P (Str.ofString "parse257"), key := Value.str (Str.ofString "parse257") 387, val := Value.ref 146 }, { hash := PyData.keyHash P (Str.ofString "_law_runs"), key := Value.str (Str.ofString "_law_runs") 397, val := Value.ref 153 }, { hash := PyData.keyHash P (Str.ofString "_law_left"), key := Value.str (Str.ofString "_law_left") 406, val := Value.ref 160 }, { hash := PyData.keyHash P (Str.ofString "_law_column"), key := Value.str (Str.ofString "_law_column") 418, val := Value.ref 167 }, { hash := PyData.keyHash P (Str.ofString "law"), key := Value.str (Str.ofString "law") 424, val := Value.ref 172 }] 21 }
noncomputable def ob_37 (P : Params) : Obj :=
  { cls := Value.type "code", data := Data.fields #[Value.str (Str.ofString "__init__") 213, Value.str (Str.ofString "Whitespace.__init__") 214, Value.str (Str.ofString "/claim/cut.py") 215, Value.int 8 0, Value.int 2 0, Value.int 0 0, Value.int 0 0, Value.int 3 0, Value.ref 32, Value.bool true, Value.int 181 0, Value.ref 33, Value.none, Value.ref 34, Value.ref 35, Value.ref 36, Value.int 225 0, Value.int 8 0, Value.str (Str.ofString "/claim/cut.py") 226] }
noncomputable def ob_38 (P : Params) : Obj :=
  { cls := Value.type "function", data := Data.func (fnO 2 2 (Str.ofString "__init__") (Str.ofString "Whitespace.__init__") (Value.none) (Value.none) (Value.str (Str.ofString "cpy313.tabnanny") 194) (Value.ref 37)) }
noncomputable def ob_44 (P : Params) : Obj :=
  { cls := Value.type "code", data := Data.fields #[Value.str (Str.ofString "longest_run_of_spaces") 228, Value.str (Str.ofString "Whitespace.longest_run_of_spaces") 229, Value.str (Str.ofString "/claim/cut.py") 230, Value.int 31 0, Value.int 1 0, Value.int 0 0, Value.int 0 0, Value.int 3 0, Value.ref 39, Value.bool true, Value.int 181 0, Value.ref 40, Value.none, Value.ref 41, Value.ref 42, Value.ref 43, Value.int 234 0, Value.int 31 0, Value.str (Str.ofString "/claim/cut.py") 235] }
noncomputable def ob_45 (P : Params) : Obj :=
  { cls := Value.type "function", data := Data.func (fnO 2 3 (Str.ofString "longest_run_of_spaces") (Str.ofString "Whitespace.longest_run_of_spaces") (Value.none) (Value.none) (Value.str (Str.ofString "cpy313.tabnanny") 194) (Value.ref 44)) }
noncomputable def ob_51 (P : Params) : Obj :=
  { cls := Value.type "code", data := Data.fields #[Value.str (Str.ofString "indent_level") 237, Value.str (Str.ofString "Whitespace.indent_level") 238, Value.str (Str.ofString "/claim/cut.py") 239, Value.int 35 0, Value.int 2 0, Value.int 0 0, Value.int 0 0, Value.int 3 0, Value.ref 46, Value.bool true, Value.int 181 0, Value.ref 47, Value.none, Value.ref 48, Value.ref 49, Value.ref 50, Value.int 246 0, Value.int 35 0, Value.str (Str.ofString "/claim/cut.py") 247] }
noncomputable def ob_52 (P : Params) : Obj :=
  { cls := Value.type "function", data := Data.func (fnO 2 4 (Str.ofString "indent_level") (Str.ofString "Whitespace.indent_level") (Value.none) (Value.none) (Value.str (Str.ofString "cpy313.tabnanny") 194) (Value.ref 51)) }
noncomputable def ob_58 (P : Params) : Obj :=
  { cls := Value.type "code", data := Data.fields #[Value.str (Str.ofString "equal") 249, Value.str (Str.ofString "Whitespace.equal") 250, Value.str (Str.ofString "/claim/cut.py") 251, Value.int 42 0, Value.int 2 0, Value.int 0 0, Value.int 0 0, Value.int 3 0, Value.ref 53, Value.bool true, Value.int 181 0, Value.ref 54, Value.none, Value.ref 55, Value.ref 56, Value.ref 57, Value.int 254 0, Value.int 42 0, Value.str (Str.ofString "/claim/cut.py") 255] }
noncomputable def ob_59 (P : Params) : Obj :=
  { cls := Value.type "function", data := Data.func (fnO 2 5 (Str.ofString "equal") (Str.ofString "Whitespace.equal") (Value.none) (Value.none) (Value.str (Str.ofString "cpy313.tabnanny") 194) (Value.ref 58)) }
noncomputable def ob_72 (P : Params) : Obj :=
  { cls := Value.type "code", data := Data.fields #[Value.str (Str.ofString "less") 265, Value.str (Str.ofString "Whitespace.less") 266, Value.str (Str.ofString "/claim/cut.py") 267, Value.int 48 0, Value.int 2 0, Value.int 0 0, Value.int 0 0, Value.int 3 0, Value.ref 67, Value.bool true, Value.int 181 0, Value.ref 68, Value.none, Value.ref 69, Value.ref 70, Value.ref 71, Value.int 272 0, Value.int 48 0, Value.str (Str.ofString "/claim/cut.py") 273] }
noncomputable def ob_73 (P : Params) : Obj :=
  { cls := Value.type "function", data := Data.func (fnO 2 7 (Str.ofString "less") (Str.ofString "Whitespace.less") (Value.none) (Value.none) (Value.str (Str.ofString "cpy313.tabnanny") 194) (Value.ref 72)) }
noncomputable def ob_81 (P : Params) : Obj :=
  { cls := Value.type "tuple", data := Data.seq #[Value.str (Str.ofString "is_simple") 283, Value.str (Str.ofString "n") 284, Value.str (Str.ofString "norm") 285, Value.str (Str.ofString "nt") 286, Value.str (Str.ofString "raw") 287] }
noncomputable def ob_82 (P : Params) : Obj :=
  { cls := Value.type "dict", data := Data.dict #[{ hash := PyData.keyHash P (Str.ofString "__module__"), key := Value.str (Str.ofString "__module__") 203, val := Value.str (Str.ofString "cpy313.tabnanny") 194 }, { hash := PyData.keyHash P (Str.ofString "__firstlineno__"), key := Value.str (Str.ofString "__firstlineno__") 207, val := Value.int 5 206 }, { hash := PyData.keyHash P (Str.ofString "S"), key := Value.str (Str.ofString "S") 211, val := Value.str (Str.ofString " ") 209 }, { hash := PyData.keyHash P (Str.ofString "T"), key := Value.str (Str.ofString "T") 212, val := Value.str (Str.ofString "\t") 210 }, { hash := PyData.keyHash P (Str.ofString "__init__"), key := Value.str (Str.ofString "__init__") 227, val := Value.ref 38 }, { hash := PyData.keyHash P (Str.ofString "longest_run_of_spaces"), key := Value.str (Str.ofString "longest_run_of_spaces") 236, val := Value.ref 45 }, { hash := PyData.keyHash P (Str.ofString "indent_level"), key := Value.str (Str.ofString "indent_level") 248, val := Value.ref 52 }, { hash := PyData.keyHash P (Str.ofString "equal"), key := Value.str (Str.ofString "equal") 256, val := Value.ref 59 }, { hash := PyData.keyHash P (Str.ofString "not_equal_witness"), key := Value.str (Str.ofString "not_equal_witness") 264, val := Value.ref 66 }, { hash := PyData.keyHash P (Str.ofString "less"), key := Value.str (Str.ofString "less") 274, val := Value.ref 73 }, { hash := PyData.keyHash P (Str.ofString "not_less_witness"), key := Value.str (Str.ofString "not_less_witness") 282, val := Value.ref 80 }, { hash := PyData.keyHash P (Str.ofString "__static_attributes__"), key := Value.str (Str.ofString "__static_attributes__") 288, val := Value.ref 81 }, { hash := PyData.keyHash P (Str.ofString "__dict__"), key := Value.str (Str.ofString "__dict__") 290, val := Value.ref 84 }, { hash := PyData.keyHash P (Str.ofString "__weakref__"), key := Value.str (Str.ofString "__weakref__") 292, val := Value.ref 85 }, { hash := PyData.keyHash P (Str.ofString "__doc__"), key := Value.str (Str.ofString "__doc__") 293, val := Value.none }] 4 }
noncomputable def ob_83 (P : Params) : Obj :=
  { cls := Value.type "type", data := Data.cls { name := Str.ofString "Whitespace", bases := [Value.type "object"], mro := [Value.ref 83, Value.type "object"], ns := 82, qualname := Str.ofString "Whitespace" }, slots := #[none, none, some (Value.str (Str.ofString "Whitespace") 196), some (Value.str (Str.ofString "Whitespace") 204), some (Value.builtin "object.__new__"), some (Value.bool true)] }
noncomputable def ob_84 (P : Params) : Obj :=
  { cls := Value.type "getset_descriptor", data := Data.fields #[Value.str (Str.ofString "__dict__") 289, Value.ref 83, Value.builtin "function.__dict__", Value.builtin "function.__dict__#set"] }
noncomputable def ob_85 (P : Params) : Obj :=
  { cls := Value.type "getset_descriptor", data := Data.fields #[Value.str (Str.ofString "__weakref__") 291, Value.ref 83, Value.builtin "ExceptionGroup.__weakref__", Value.none] }
noncomputable def ob_88 (P : Params) : Obj :=
  { cls := Value.type "tuple", data := Data.seq #[Value.int 0 298, Value.none] }
noncomputable def ob_89 (P : Params) : Obj :=
  { cls := Value.type "dict", data := Data.dict #[{ hash := PyData.keyHash P (Str.ofString "key"), key := Value.str (Str.ofString "key") 299, val := Value.none }] 1 }
noncomputable def ob_95 (P : Params) : Obj :=
  { cls := Value.type "code", data := Data.fields #[Value.str (Str.ofString "insort_right") 300, Value.str (Str.ofString "insort_right") 301, Value.str (Str.ofString "/claim/cut.py") 302, Value.int 62 0, Value.int 4 0, Value.int 0 0, Value.int 1 0, Value.int 3 0, Value.ref 90, Value.bool true, Value.int 181 0, Value.ref 91, Value.none, Value.ref 92, Value.ref 93, Value.ref 94, Value.int 308 0, Value.int 62 0, Value.str (Str.ofString "/claim/cut.py") 309] }
noncomputable def ob_96 (P : Params) : Obj :=
  { cls := Value.type "function", data := Data.func (fnO 4 0 (Str.ofString "insort_right") (Str.ofString "insort_right") (Value.ref 88) (Value.ref 89) (Value.str (Str.ofString "cpy313.bisect") 296) (Value.ref 95)) }
noncomputable def ob_97 (P : Params) : Obj :=
  { cls := Value.type "tuple", data := Data.seq #[Value.int 0 311, Value.none] }
noncomputable def ob_98 (P : Params) : Obj :=
  { cls := Value.type "dict", data := Data.dict #[{ hash := PyData.keyHash P (Str.ofString "key"), key := Value.str (Str.ofString "key") 312, val := Value.none }] 1 }
noncomputable def ob_104 (P : Params) : Obj :=
  { cls := Value.type "code", data := Data.fields #[Value.str (Str.ofString "bisect_right") 313, Value.str (Str.ofString "bisect_right") 314, Value.str (Str.ofString "/claim/cut.py") 315, Value.int 68 0, Value.int 4 0, Value.int 0 0, Value.int 1 0, Value.int 3 0, Value.ref 99, Value.bool true, Value.int 181 0, Value.ref 100, Value.none, Value.ref 101, Value.ref 102, Value.ref 103, Value.int 322 0, Value.int 68 0, Value.str (Str.ofString "/claim/cut.py") 323] }
noncomputable def ob_105 (P : Params) : Obj :=
  { cls := Value.type "function", data := Data.func (fnO 5 0 (Str.ofString "bisect_right") (Str.ofString "bisect_right") (Value.ref 97) (Value.ref 98) (Value.str (Str.ofString "cpy313.bisect") 296) (Value.ref 104)) }
noncomputable def ob_106 (P : Params) : Obj :=
  { cls := Value.type "tuple", data := Data.seq #[Value.int 0 325, Value.none] }
noncomputable def ob_107 (P : Params) : Obj :=
  { cls := Value.type "dict", data := Data.dict #[{ hash := PyData.keyHash P (Str.ofString "key"), key := Value.str (Str.ofString "key") 326, val := Value.none }] 1 }
noncomputable def ob_113 (P : Params) : Obj :=
  { cls := Value.type "code", data := Data.fields #[Value.str (Str.ofString "bisect_left") 327, Value.str (Str.ofString "bisect_left") 328, Value.str (Str.ofString "/claim/cut.py") 329, Value.int 88 0, Value.int 4 0, Value.int 0 0, Value.int 1 0, Value.int 3 0, Value.ref 108, Value.bool true, Value.int 181 0, Value.ref 109, Value.none, Value.ref 110, Value.ref 111, Value.ref 112, Value.int 336 0, Value.int 88 0, Value.str (Str.ofString "/claim/cut.py") 337] }
noncomputable def ob_114 (P : Params) : Obj :=
  { cls := Value.type "function", data := Data.func (fnO 6 0 (Str.ofString "bisect_left") (Str.ofString "bisect_left") (Value.ref 106) (Value.ref 107) (Value.str (Str.ofString "cpy313.bisect") 296) (Value.ref 113)) }
noncomputable def ob_115 (P : Params) : Obj :=
  { cls := Value.type "tuple", data := Data.seq #[Value.type "Exception"] }
noncomputable def ob_122 (P : Params) : Obj :=
  { cls := Value.type "tuple", data := Data.seq #[] }
noncomputable def ob_123 (P : Params) : Obj :=
  { cls := Value.type "dict", data := Data.dict #[{ hash := PyData.keyHash P (Str.ofString "__module__"), key := Value.str (Str.ofString "__module__") 348, val := Value.str (Str.ofString "cpy313.ftplib") 339 }, { hash := PyData.keyHash P (Str.ofString "__firstlineno__"), key := Value.str (Str.ofString "__firstlineno__") 352, val := Value.int 109 351 }, { hash := PyData.keyHash P (Str.ofString "__static_attributes__"), key := Value.str (Str.ofString "__static_attributes__") 353, val := Value.ref 122 }, { hash := PyData.keyHash P (Str.ofString "__weakref__"), key := Value.str (Str.ofString "__weakref__") 355, val := Value.ref 125 }, { hash := PyData.keyHash P (Str.ofString "__doc__"), key := Value.str (Str.ofString "__doc__") 356, val := Value.none }] 3 }
noncomputable def ob_124 (P : Params) : Obj :=
  { cls := Value.type "type", data := Data.cls { name := Str.ofString "Error", bases := [Value.type "Exception"], mro := [Value.ref 124, Value.type "Exception", Value.type "BaseException", Value.type "object"], ns := 123, qualname := Str.ofString "Error", subclasses := [Value.ref 137] }, slots := #[some (Value.ref 115), none, some (Value.str (Str.ofString "Error") 341), some (Value.str (Str.ofString "Error") 349), some (Value.builtin "Exception.__new__"), some (Value.bool true)] }
noncomputable def ob_125 (P : Params) : Obj :=
  { cls := Value.type "getset_descriptor", data := Data.fields #[Value.str (Str.ofString "__weakref__") 354, Value.ref 124, Value.builtin "ExceptionGroup.__weakref__", Value.none] }
noncomputable def ob_128 (P : Params) : Obj :=
  { cls := Value.type "tuple", data := Data.seq #[Value.ref 124] }
noncomputable def ob_135 (P : Params) : Obj :=
  { cls := Value.type "tuple", data := Data.seq #[] }
noncomputable def ob_136 (P : Params) : Obj :=
  { cls := Value.type "dict", data := Data.dict #[{ hash := PyData.keyHash P (Str.ofString "__module__"), key := Value.str (Str.ofString "__module__") 368, val := Value.str (Str.ofString "cpy313.ftplib") 339 }, { hash := PyData.keyHash P (Str.ofString "__firstlineno__"), key := Value.str (Str.ofString "__firstlineno__") 372, val := Value.int 111 371 }, { hash := PyData.keyHash P (Str.ofString "__static_attributes__"), key := Value.str (Str.ofString "__static_attributes__") 373, val := Value.ref 135 }, { hash := PyData.keyHash P (Str.ofString "__doc__"), key := Value.str (Str.ofString "__doc__") 374, val := Value.none }] 2 }
noncomputable def ob_137 (P : Params) : Obj :=
  { cls := Value.type "type", data := Data.cls { name := Str.ofString "error_reply", bases := [Value.ref 124], mro := [Value.ref 137, Value.ref 124, Value.type "Exception", Value.type "BaseException", Value.type "object"], ns := 136, qualname := Str.ofString "error_reply" }, slots := #[some (Value.ref 128), none, some (Value.str (Str.ofString "error_reply") 361), some (Value.str (Str.ofString "error_reply") 369), some (Value.builtin "Exception.__new__"), some (Value.bool true)] }
noncomputable def ob_145 (P : Params) : Obj :=
  { cls := Value.type "code", data := Data.fields #[Value.str (Str.ofString "parse257") 377, Value.str (Str.ofString "parse257") 378, Value.str (Str.ofString "/claim/cut.py") 379, Value.int 113 0, Value.int 1 0, Value.int 0 0, Value.int 0 0, Value.int 3 0, Value.ref 140, Value.bool true, Value.int 181 0, Value.ref 141, Value.none, Value.ref 142, Value.ref 143, Value.ref 144, Value.int 385 0, Value.int 113 0, Value.str (Str.ofString "/claim/cut.py") 386] }
noncomputable def ob_146 (P : Params) : Obj :=
  { cls := Value.type "function", data := Data.func (fnO 10 0 (Str.ofString "parse257") (Str.ofString "parse257") (Value.none) (Value.none) (Value.str (Str.ofString "cpy313.ftplib") 339) (Value.ref 145)) }
noncomputable def ob_152 (P : Params) : Obj :=
  { cls := Value.type "code", data := Data.fields #[Value.str (Str.ofString "_law_runs") 390, Value.str (Str.ofString "_law_runs") 391, Value.str (Str.ofString "/claim/cut.py") 392, Value.int 131 0, Value.int 1 0, Value.int 0 0, Value.int 0 0, Value.int 3 0, Value.ref 147, Value.bool true, Value.int 181 0, Value.ref 148, Value.none, Value.ref 149, Value.ref 150, Value.ref 151, Value.int 395 0, Value.int 131 0, Value.str (Str.ofString "/claim/cut.py") 396] }
noncomputable def ob_153 (P : Params) : Obj :=
  { cls := Value.type "function", data := Data.func (fnO 12 0 (Str.ofString "_law_runs") (Str.ofString "_law_runs") (Value.none) (Value.none) (Value.str (Str.ofString "law_rl0102_01") 388) (Value.ref 152)) }
noncomputable def ob_159 (P : Params) : Obj :=
  { cls := Value.type "code", data := Data.fields #[Value.str (Str.ofString "_law_left") 398, Value.str (Str.ofString "_law_left") 399, Value.str (Str.ofString "/claim/cut.py") 400, Value.int 134 0, Value.int 2 0, Value.int 0 0, Value.int 0 0, Value.int 3 0, Value.ref 154, Value.bool true, Value.int 181 0, Value.ref 155, Value.none, Value.ref 156, Value.ref 157, Value.ref 158, Value.int 404 0, Value.int 134 0, Value.str (Str.ofString "/claim/cut.py") 405] }
noncomputable def ob_160 (P : Params) : Obj :=
  { cls := Value.type "function", data := Data.func (fnO 13 0 (Str.ofString "_law_left") (Str.ofString "_law_left") (Value.none) (Value.none) (Value.str (Str.ofString "law_rl0102_01") 388) (Value.ref 159)) }
noncomputable def ob_166 (P : Params) : Obj :=
  { cls := Value.type "code", data := Data.fields #[Value.str (Str.ofString "_law_column") 407, Value.str (Str.ofString "_law_column") 408, Value.str (Str.ofString "/claim/cut.py") 409, Value.int 139 0, Value.int 3 0, Value.int 0 0, Value.int 0 0, Value.int 3 0, Value.ref 161, Value.bool true, Value.int 181 0, Value.ref 162, Value.none, Value.ref 163, Value.ref 164, Value.ref 165, Value.int 416 0, Value.int 139 0, Value.str (Str.ofString "/claim/cut.py") 417] }
noncomputable def ob_167 (P : Params) : Obj :=
  { cls := Value.type "function", data := Data.func (fnO 14 0 (Str.ofString "_law_column") (Str.ofString "_law_column") (Value.none) (Value.none) (Value.str (Str.ofString "law_rl0102_01") 388) (Value.ref 166)) }
noncomputable def ob_171 (P : Params) : Obj :=
  { cls := Value.type "code", data := Data.fields #[Value.str (Str.ofString "law") 419, Value.str (Str.ofString "law") 420, Value.str (Str.ofString "/claim/cut.py") 421, Value.int 145 0, Value.int 1 0, Value.int 0 0, Value.int 0 0, Value.int 3 0, Value.ref 168, Value.bool true, Value.int 181 0, Value.ref 169, Value.none, Value.none, Value.none, Value.ref 170, Value.int 422 0, Value.int 145 0, Value.str (Str.ofString "/claim/cut.py") 423] }
noncomputable def ob_172 (P : Params) : Obj :=
  { cls := Value.type "function", data := Data.func (fnO 15 0 (Str.ofString "law") (Str.ofString "law") (Value.none) (Value.none) (Value.str (Str.ofString "law_rl0102_01") 388) (Value.ref 171)) }
/-- the part of the heap behind the text that the walk looks at -/
noncomputable def KK : Params → Frag := fun P => (nat_lit 2, ob_2 P) :: (nat_lit 3, ob_3 P) :: (nat_lit 37, ob_37 P) :: (nat_lit 38, ob_38 P) :: (nat_lit 44, ob_44 P) :: (nat_lit 45, ob_45 P) :: (nat_lit 51, ob_51 P) :: (nat_lit 52, ob_52 P) :: (nat_lit 58, ob_58 P) :: (nat_lit 59, ob_59 P) :: (nat_lit 72, ob_72 P) :: (nat_lit 73, ob_73 P) :: (nat_lit 81, ob_81 P) :: (nat_lit 82, ob_82 P) :: (nat_lit 83, ob_83 P) :: (nat_lit 84, ob_84 P) :: (nat_lit 85, ob_85 P) :: (nat_lit 88, ob_88 P) :: (nat_lit 89, ob_89 P) :: (nat_lit 95, ob_95 P) :: (nat_lit 96, ob_96 P) :: (nat_lit 97, ob_97 P) :: (nat_lit 98, ob_98 P) :: (nat_lit 104, ob_104 P) :: (nat_lit 105, ob_105 P) :: (nat_lit 106, ob_106 P) :: (nat_lit 107, ob_107 P) :: (nat_lit 113, ob_113 P) :: (nat_lit 114, ob_114 P) :: (nat_lit 115, ob_115 P) :: (nat_lit 122, ob_122 P) :: (nat_lit 123, ob_123 P) :: (nat_lit 124, ob_124 P) :: (nat_lit 125, ob_125 P) :: (nat_lit 128, ob_128 P) :: (nat_lit 135, ob_135 P) :: (nat_lit 136, ob_136 P) :: (nat_lit 137, ob_137 P) :: (nat_lit 145, ob_145 P) :: (nat_lit 146, ob_146 P) :: (nat_lit 152, ob_152 P) :: (nat_lit 153, ob_153 P) :: (nat_lit 159, ob_159 P) :: (nat_lit 160, ob_160 P) :: (nat_lit 166, ob_166 P) :: (nat_lit 167, ob_167 P) :: (nat_lit 171, ob_171 P) :: (nat_lit 172, ob_172 P) :: []
abbrev KKas : List Addr := nat_lit 2 :: nat_lit 3 :: nat_lit 37 :: nat_lit 38 :: nat_lit 44 :: nat_lit 45 :: nat_lit 51 :: nat_lit 52 :: nat_lit 58 :: nat_lit 59 :: nat_lit 72 :: nat_lit 73 :: nat_lit 81 :: nat_lit 82 :: nat_lit 83 :: nat_lit 84 :: nat_lit 85 :: nat_lit 88 :: nat_lit 89 :: nat_lit 95 :: nat_lit 96 :: nat_lit 97 :: nat_lit 98 :: nat_lit 104 :: nat_lit 105 :: nat_lit 106 :: nat_lit 107 :: nat_lit 113 :: nat_lit 114 :: nat_lit 115 :: nat_lit 122 :: nat_lit 123 :: nat_lit 124 :: nat_lit 125 :: nat_lit 128 :: nat_lit 135 :: nat_lit 136 :: nat_lit 137 :: nat_lit 145 :: nat_lit 146 :: nat_lit 152 :: nat_lit 153 :: nat_lit 159 :: nat_lit 160 :: nat_lit 166 :: nat_lit 167 :: nat_lit 171 :: nat_lit 172 :: []
end Mine
end
namespace Mine
theorem freshAtHd1 : True := by
  (try (walk1; fail))
  w_top off
  trivial
end Mine
section
open PySem PySem.W PyProof.Rows
namespace Mine
set_option maxRecDepth 100000
set_option maxHeartbeats 8000000
noncomputable def view : Program := { prg with main := { prg.main with body := [prg.main.body.getD 0 (.Pass ⟨0, 0, 0, 0⟩), prg.main.body.getD 2 (.Pass ⟨0, 0, 0, 0⟩), prg.main.body.getD 8 (.Pass ⟨0, 0, 0, 0⟩), prg.main.body.getD 9 (.Pass ⟨0, 0, 0, 0⟩), prg.main.body.getD 10 (.Pass ⟨0, 0, 0, 0⟩),
  prg.main.body.getD 12 (.Pass ⟨0, 0, 0, 0⟩), prg.main.body.getD 13 (.Pass ⟨0, 0, 0, 0⟩), prg.main.body.getD 14 (.Pass ⟨0, 0, 0, 0⟩), prg.main.body.getD 15 (.Pass ⟨0, 0, 0, 0⟩)] } }
theorem KK_as : ∀ P, KKas = (KK P).map (·.1) := fun _ => by kernel_rfl
abbrev lse : List Str := [Str.ofString "Whitespace", Str.ofString "insort_right", Str.ofString "bisect_right", Str.ofString "bisect_left"]
noncomputable abbrev hkK : Hook := kmHook KK KKas KK_as [169]
noncomputable abbrev Xt1 (s : Shared) : Bool := xlAt view [] s && recOk (RowW.records PySem.Challenge.rw_rl0102_01.row.toRowW) s
noncomputable abbrev seeK (s : Shared) := (openSeen view lse (importedModules prg.main.body) Xt1 true s, hkK.obs s)
theorem fence1 : ∀ s, fenceModules? prg s = some s := fun s => by kernel_rfl
theorem opens1 : opening prg = plainProg prg.main.scope.names := by kernel_rfl
noncomputable abbrev s0K (w : World) (os : OsState) : Shared := ⟨boot_heap w.params, Array.mk [], boot_drawn, boot_toks, os⟩
abbrev TopAt (w : World) : Prop := ∀ os, (topFrom treeTable prg w 2610 (s0K w os)).map seeK = some (openGood view lse, hkK.val w)
theorem top_f (w : World) : TopAt (w.withFollow "special-get-raises" false) := fun os => by
  unfold topFrom
  rw [PySem.W.Fast.te14082659384304107361, PySem.W.Fast.te14364793385576792824]
  unfold seeK
  rw [PySem.W.Fast.te4187177175401517315]
  kernel_rfl!
theorem top_t (w : World) : TopAt (w.withFollow "special-get-raises" true) := fun os => by
  unfold topFrom
  rw [PySem.W.Fast.te14082659384304107361, PySem.W.Fast.te14364793385576792824]
  unfold seeK
  rw [PySem.W.Fast.te4187177175401517315]
  kernel_rfl!
theorem left1 : LeftO prg view lse Xt1 hkK.obs hkK.val 2610 := fun w => by
  have hb := boot_open (p := prg) (N := 2610) opens1 (by decide) fence1 w
  obtain ⟨s, hs, hv⟩ := Option.map_eq_some_iff.mp hb
  obtain ⟨h, g, d, t, os⟩ := s
  simp only [Prod.mk.injEq] at hv
  obtain ⟨rfl, rfl, rfl, rfl⟩ := hv
  unfold openEnds
  rw [hs]
  exact byRow2 "special-get-raises" (P := TopAt) top_f top_t w os
end Mine
end
namespace Mine
theorem freshAtBase : True := by
  (try (walk1; fail))
  w_top off
  trivial
end Mine
section
open PySem PySem.W PySem.Calls PyProof.Rows
namespace Mine
set_option maxRecDepth 100000
set_option maxHeartbeats 8000000
theorem fillOfBase : PySem.Challenge.rw_rl0102_01 = PySem.Challenge.rw_rl0102_01 ∧ KK = KK := by
  k_fill
  exact ⟨rfl, rfl⟩


abbrev mkA (dp un : Nat) (fr : Option (List Env)) (gd : Option (List Code)) : Around := { handled := none, depth := dp, frames := fr, guards := gd, units := un }

section
variable {prog : Program} {w : World} {A : Around} {s : Shared} {h₀ : Heap} {L : Addr} {m : Str → Option Value} {news need : List (Addr × Obj)} {K : Frag}
  {R : Result → Shared → Prop} {name qual : Str} {params : Arguments} {body : List Stmt} {scope : Scope} {dV kV doc pm cdv ct oc : Value} {an od : Option Addr} {osl : Array (Option Value)} {f : Addr} {args : Args} {binds : List (Str × Value)}
  {p : Program} {loose : List Str} {mean : ExcName → Option Value} {mg mb : Str → Option Value}

/-- what a def's return must show: the needed objects stand; then the caller's whole ledger stands too -/
def Back (h₀ : Heap) (L : Addr) (need news : List (Addr × Obj)) (R : Result → Shared → Prop) (r : Result) (s' : Shared) : Prop :=
  (∀ p ∈ need, s'.heap.get? p.1 = some p.2) ∧ (News h₀ L s'.heap news → R r s')

/-- a def of the text is entered with the needed part of the ledger alone; no way of it raises -/
theorem enter1 (need : List (Addr × Obj)) (hneed : ∀ p ∈ need, p ∈ news) (F : Fr h₀ L s.heap m) (N : News h₀ L s.heap news) (X₀ : K.In h₀) (T : Top p loose mean mg mb h₀)
    (ho : K.lookup f = some ⟨oc, od, .func (fnOf name qual params body scope dV kV doc pm an cdv ct), osl⟩) (hcd : codeIn K cdv qual = true) (hroom : A.depth < recursionLimit)
    (hbind : BindsTo s (fnOf name qual params body scope dV kV doc pm an cdv ct) args binds) (hloc : ∀ y ∈ binds, scope.names.lookup y.1 = some .local)
    (h : ∀ g L' h₁, Fr g L' h₁ (fun y => binds.reverse.lookup y) → News g L' h₁ need → K.In g → Top p loose mean mg mb g → (∀ p ∈ need, p.1 < L') → (∀ p ∈ news, p.1 < L') → (∀ b o, s.heap.get? b = some o → b ∉ need.map (·.1) → g.get? b = some o) →
      wpAny (model prog w) (A.deeper (envOf qual scope L' f cdv)) (execs body (envOf qual scope L' f cdv))
        (fun fl s' => LeaveK h₀ L m g (Back h₀ L need news R) (match fl with | .ret v => v | _ => .none) s') (fun _ _ => False)
        { s with heap := h₁, toks := s.toks + binds.length })
    (hco : scope.isCoroutine = false) (hgen : scope.isGenerator = false) (hk : scope.kind = .function)
    (hcell : ∀ x ∈ scope.names, x.2 ≠ .cell) : codeAny (model prog w) A (.call (.ref f) args) R s := by
  have Nn : News h₀ L s.heap need := fun p hp => N p (hneed p hp)
  have nm : ∀ b o, h₀.get? b = some o → b ∉ need.map (·.1) := fun b o e q => by
    obtain ⟨p, hp, rfl⟩ := List.mem_map.mp q
    rw [(Nn p hp).2.2] at e; cases e
  have st : h₀.StaysIn (hideAll s.heap (need.map (·.1))) := fun b o e => hideAll_get _ (F.keep b o e) (nm b o e)
  obtain ⟨oL, es, ep, hL, hLd, hLk, hLf⟩ := F.ns
  have nL : L ∉ need.map (·.1) := fun q => by
    obtain ⟨p, hp, e⟩ := List.mem_map.mp q
    exact (Nn p hp).2.1 e
  have hLg := hideAll_get (need.map (·.1)) hL nL
  refine codeAny_call_def (fd := fnOf name qual params body scope dV kV doc pm an cdv ct) (body := body) (binds := binds) hroom ((X₀.keeps F.keep) _ _ ho) rfl (T.nolimit.keeps F.keep) (codeRec_of (X₀.keeps F.keep) hcd) rfl hbind hcell hloc (fun h₁ hns hk₁ => ?_) hco hgen hk
  refine wpAny_mono (h _ s.heap.objs.size h₁ ⟨hns, fun b o e => hk₁ b o (of_hideAll _ e), Nat.le_of_eq (hideAll_size _ _)⟩
    (fun p hp => ⟨hk₁ _ _ (Nn p hp).1, Nat.ne_of_lt (Heap.lt_size (Nn p hp).1), hideAll_none _ (List.mem_map_of_mem hp)⟩) (X₀.keeps st) (T.keeps st) (fun p hp => Heap.lt_size (Nn p hp).1) (fun p hp => Heap.lt_size (N p hp).1) (fun b o e hb => hideAll_get _ e hb)) (fun fl s' hl => ?_) fun _ _ y => y.elim
  obtain ⟨L', m', news', F', N', k⟩ := hl
  have kk := k ⟨⟨oL, es, ep, F'.keep L oL hLg, hLd, hLk, hLf⟩, fun b o e => F'.keep b o (st b o e), F.above⟩ (by
    intro p hp
    refine ⟨(N' p hp).1, fun q => ?_, ?_⟩
    · have := (N' p hp).2.2; rw [q, hLg] at this; cases this
    · cases q : h₀.get? p.1 with
      | none => rfl
      | some o => have := (N' p hp).2.2; rw [st _ _ q] at this; cases this)
  refine kk.2 fun p hp => ⟨?_, (N p hp).2⟩
  by_cases hq : p.1 ∈ need.map (·.1)
  · obtain ⟨q, hqn, e⟩ := List.mem_map.mp hq
    have e1 := kk.1 q hqn
    have e2 := (Nn q hqn).1
    have e3 := (N p hp).1
    rw [← e, e2] at e3
    rw [← e, e1]; exact e3
  · exact F'.keep _ _ (hideAll_get _ (N p hp).1 hq)

/-- the same, the needed part may change; the rest (elsewhere) comes back -/
theorem enter2 (need rest : List (Addr × Obj)) (hneed : ∀ p ∈ need, p ∈ news) (hrest : ∀ p ∈ rest, p ∈ news) (hoff : ∀ p ∈ rest, p.1 ∉ need.map (·.1)) (F : Fr h₀ L s.heap m) (N : News h₀ L s.heap news) (X₀ : K.In h₀) (T : Top p loose mean mg mb h₀)
    (ho : K.lookup f = some ⟨oc, od, .func (fnOf name qual params body scope dV kV doc pm an cdv ct), osl⟩) (hcd : codeIn K cdv qual = true) (hroom : A.depth < recursionLimit)
    (hbind : BindsTo s (fnOf name qual params body scope dV kV doc pm an cdv ct) args binds) (hloc : ∀ y ∈ binds, scope.names.lookup y.1 = some .local)
    (h : ∀ g L' h₁, Fr g L' h₁ (fun y => binds.reverse.lookup y) → News g L' h₁ need → K.In g → Top p loose mean mg mb g → (∀ p ∈ need, p.1 < L') → (∀ p ∈ news, p.1 < L') → (∀ b o, s.heap.get? b = some o → b ∉ need.map (·.1) → g.get? b = some o) →
      wpAny (model prog w) (A.deeper (envOf qual scope L' f cdv)) (execs body (envOf qual scope L' f cdv))
        (fun fl s' => LeaveK h₀ L m g (fun r s' => News h₀ L s'.heap rest → R r s') (match fl with | .ret v => v | _ => .none) s') (fun _ _ => False)
        { s with heap := h₁, toks := s.toks + binds.length })
    (hco : scope.isCoroutine = false) (hgen : scope.isGenerator = false) (hk : scope.kind = .function)
    (hcell : ∀ x ∈ scope.names, x.2 ≠ .cell) : codeAny (model prog w) A (.call (.ref f) args) R s := by
  have Nn : News h₀ L s.heap need := fun p hp => N p (hneed p hp)
  have nm : ∀ b o, h₀.get? b = some o → b ∉ need.map (·.1) := fun b o e q => by
    obtain ⟨p, hp, rfl⟩ := List.mem_map.mp q
    rw [(Nn p hp).2.2] at e; cases e
  have st : h₀.StaysIn (hideAll s.heap (need.map (·.1))) := fun b o e => hideAll_get _ (F.keep b o e) (nm b o e)
  obtain ⟨oL, es, ep, hL, hLd, hLk, hLf⟩ := F.ns
  have nL : L ∉ need.map (·.1) := fun q => by
    obtain ⟨p, hp, e⟩ := List.mem_map.mp q
    exact (Nn p hp).2.1 e
  have hLg := hideAll_get (need.map (·.1)) hL nL
  refine codeAny_call_def (fd := fnOf name qual params body scope dV kV doc pm an cdv ct) (body := body) (binds := binds) hroom ((X₀.keeps F.keep) _ _ ho) rfl (T.nolimit.keeps F.keep) (codeRec_of (X₀.keeps F.keep) hcd) rfl hbind hcell hloc (fun h₁ hns hk₁ => ?_) hco hgen hk
  refine wpAny_mono (h _ s.heap.objs.size h₁ ⟨hns, fun b o e => hk₁ b o (of_hideAll _ e), Nat.le_of_eq (hideAll_size _ _)⟩
    (fun p hp => ⟨hk₁ _ _ (Nn p hp).1, Nat.ne_of_lt (Heap.lt_size (Nn p hp).1), hideAll_none _ (List.mem_map_of_mem hp)⟩) (X₀.keeps st) (T.keeps st) (fun p hp => Heap.lt_size (Nn p hp).1) (fun p hp => Heap.lt_size (N p hp).1) (fun b o e hb => hideAll_get _ e hb)) (fun fl s' hl => ?_) fun _ _ y => y.elim
  obtain ⟨L', m', news', F', N', k⟩ := hl
  have kk := k ⟨⟨oL, es, ep, F'.keep L oL hLg, hLd, hLk, hLf⟩, fun b o e => F'.keep b o (st b o e), F.above⟩ (by
    intro p hp
    refine ⟨(N' p hp).1, fun q => ?_, ?_⟩
    · have := (N' p hp).2.2; rw [q, hLg] at this; cases this
    · cases q : h₀.get? p.1 with
      | none => rfl
      | some o => have := (N' p hp).2.2; rw [st _ _ q] at this; cases this)
  exact kk fun p hp => ⟨F'.keep _ _ (hideAll_get _ (N p (hrest p hp)).1 (hoff p hp)), (N p (hrest p hp)).2⟩
end

/-- a goal that the walk leaves for the hand -/
def Hold (P : Prop) : Prop := P
theorem hold {P : Prop} (h : Hold P) : P := h
theorem map_pin {m : Str → Option Value} {x : Str} {v : Value} (h : m x = some v) : m = fun y => if y = x then some v else m y := by
  funext y
  by_cases e : y = x
  · rw [if_pos e, e, h]
  · rw [if_neg e]
theorem back_intro {h₀ : Heap} {L : Addr} {need news : List (Addr × Obj)} {R : Result → Shared → Prop} {r : Result} {s' : Shared} (a : ∀ p ∈ need, s'.heap.get? p.1 = some p.2) (b : News h₀ L s'.heap news → R r s') : Back h₀ L need news R r s' := ⟨a, b⟩
theorem back_sub {h₀ h : Heap} {L : Addr} {need all : List (Addr × Obj)} (N : News h₀ L h all) (hs : ∀ p ∈ need, p ∈ all) : ∀ p ∈ need, h.get? p.1 = some p.2 := fun p hp => (N p (hs p hp)).1
/-- what the callee makes lies off the caller's whole ledger -/
theorem off_new {g h : Heap} {L' a : Addr} {o : Obj} {need news news' : List (Addr × Obj)} (hgk : ∀ b o, h.get? b = some o → b ∉ need.map (·.1) → g.get? b = some o) (N : ∀ q ∈ news, h.get? q.1 = some q.2) {h' : Heap} (N' : News g L' h' news') (hm : (a, o) ∈ news')
    (hn : ∀ p ∈ need, p.1 ≠ a) : ∀ q ∈ news, q.1 ≠ a := fun q hq e => by
  by_cases hb : q.1 ∈ need.map (·.1)
  · obtain ⟨p, hp, e'⟩ := List.mem_map.mp hb
    exact hn p hp (e'.trans e)
  · have h1 := hgk _ _ (N q hq) hb
    have h2 : g.get? a = none := (N' _ hm).2.2
    rw [e, h2] at h1; cases h1
theorem ltN {a b : Nat} (h : a < b) : a < b := h
theorem neN {a b : Nat} (h : a ≠ b) : a ≠ b := h
theorem news_app {h₀ h : Heap} {L : Addr} {l l' : List (Addr × Obj)} (N : News h₀ L h l) (N' : News h₀ L h l') : News h₀ L h (l ++ l') := fun p hp => (List.mem_append.mp hp).elim (N p) (N' p)
theorem news_cons {h₀ h : Heap} {L : Addr} {l l' : List (Addr × Obj)} {q : Addr × Obj} (N : News h₀ L h l) (hq : q ∈ l) (N' : News h₀ L h l') : News h₀ L h (q :: l') := fun p hp => (List.mem_cons.mp hp).elim (fun e => e ▸ N q hq) (N' p)
end Mine
end
namespace Mine
theorem freshAtCut : True := by
  (try (walk1; fail))
  w_top off
  trivial
end Mine
section
open PySem PySem.W PySem.Calls PyProof.Rows
set_option autoImplicit false
namespace Mine
/-- a continuation kept behind a name -/
def Go (K : Flow → Shared → Prop) (f : Flow) (s : Shared) : Prop := K f s
section
variable {prog : Program} {w : World} {A : Around} {env : Env} {st : Stmt} {rest : List Stmt} {Q : Flow → Shared → Prop} {E : Value → Shared → Prop} {h : Heap} {g : Array GenState} {d : Drawn} {t : Nat} {o : OsState}
/-- a statement walked with what follows behind a name -/
theorem cut_cons (H : ∀ K : Flow → Shared → Prop, (∀ h' t', wpAny (model prog w) A (execs rest env) Q E ⟨h', g, d, t', o⟩ → Go K .next ⟨h', g, d, t', o⟩) → (∀ v h' t', Q (.ret v) ⟨h', g, d, t', o⟩ → Go K (.ret v) ⟨h', g, d, t', o⟩) →
      (∀ h' t', Q .brk ⟨h', g, d, t', o⟩ → Go K .brk ⟨h', g, d, t', o⟩) → (∀ h' t', Q .cont ⟨h', g, d, t', o⟩ → Go K .cont ⟨h', g, d, t', o⟩) → wpAny (model prog w) A (exec st env) (Go K) E ⟨h, g, d, t, o⟩) :
    wpAny (model prog w) A (execs (st :: rest) env) Q E ⟨h, g, d, t, o⟩ :=
  wpAny_execs_cons (H (fun f s' => match f with | .next => wpAny (model prog w) A (execs rest env) Q E s' | f => Q f s') (fun _ _ x => x) (fun _ _ _ x => x) (fun _ _ x => x) (fun _ _ x => x))
/-- the count of tokens does not matter -/
theorem any_toks {body : List Stmt} (H : ∀ t', wpAny (model prog w) A (execs body env) Q E ⟨h, g, d, t', o⟩) : wpAny (model prog w) A (execs body env) Q E ⟨h, g, d, t, o⟩ := H t
end
end Mine
end
namespace Mine
theorem freshAtLoops : True := by
  (try (walk1; fail))
  w_top off
  trivial
end Mine
section
open PySem PySem.W PySem.Calls PyProof.Rows
namespace Mine
set_option maxRecDepth 100000
set_option maxHeartbeats 8000000
section
variable {prog : Program} {w : World} {A : Around} {E : Value → Shared → Prop} {s : Shared} {env : Env} {h₀ : Heap} {x : Str} {body : List Stmt} {Q : Flow → Shared → Prop}

/-- a turn's end under a loop whose iterator I is one object -/
def Step1 (h₀ : Heap) (L I : Addr) (o : Obj) (Jn : (Str → Option Value) → List (Addr × Obj) → Prop) (s₁ : Shared) (Q : Flow → Shared → Prop) (f : Flow) (s₂ : Shared) : Prop :=
  match f with
  | .ret v => Q (.ret v) s₂
  | .brk => Q .next s₂
  | _ => ∃ h' tk m' news', s₂ = { s₁ with heap := h', toks := tk } ∧ Fr h₀ L h' m' ∧ News h₀ L h' ((I, o) :: news') ∧ (∀ p ∈ news', p.1 ≠ I) ∧ Jn m' news'

theorem loop1 {I : Addr} {n : Nat} {P : Nat → Value → Prop} {St : Nat → Heap → Prop} {m₀ : Str → Option Value} {news : List (Addr × Obj)} (J : Nat → (Str → Option Value) → List (Addr × Obj) → Prop)
    (W : Walks prog w A I [I] [I] n P St) (hSt : ∀ i h, St i h → ∃ o, h.get? I = some o) (hL : env.locals ≠ I) (hI0 : h₀.get? I = none) (hoff : ∀ p ∈ news, p.1 ≠ I) (hst : St 0 s.heap)
    (F : Fr h₀ env.locals s.heap m₀) (N : News h₀ env.locals s.heap news) (hJ : J 0 m₀ news)
    (turn : ∀ i v m₁ news₁ h tk o, i < n → P i v → J i m₁ news₁ → (∀ p ∈ news₁, p.1 ≠ I) → Fr h₀ env.locals h (fun y => if y = x then some v else m₁ y) → News h₀ env.locals h ((I, o) :: news₁) →
      wpAny (model prog w) A (execs body env) (Step1 h₀ env.locals I o (J (i + 1)) { s with heap := h, toks := tk } Q) E { s with heap := h, toks := tk })
    (done : ∀ m₁ news₁ h tk, J n m₁ news₁ → Fr h₀ env.locals h m₁ → News h₀ env.locals h news₁ → Q .next { s with heap := h, toks := tk }) :
    LoopAtV prog w A h₀ env x body Q E (.ref I) s := by
  refine ⟨I, [I], [I], n, P, St, m₀, news, J, rfl, W, ?_, ?_, ?_, hst, F, N, hJ, ?_, ?_⟩
  · exact fun h => hL (List.mem_singleton.mp h)
  · exact fun b hb => (List.mem_singleton.mp hb) ▸ hI0
  · exact fun p hp hI => hoff p hp (List.mem_singleton.mp hI)
  · rintro i v m₁ news₁ s₁ own ⟨h, tk, rfl⟩ hi hP hJ₁ hoff₁ hown1 hown2 hown3 hst₁ F₁ N₁
    obtain ⟨o, ho⟩ := hSt _ _ hst₁
    have ho' : h.get? I = some o := ho
    have hin : (I, o) ∈ own := hown3 I (List.mem_singleton.mpr rfl) hI0 o ho'
    have off₁ : ∀ p ∈ news₁, p.1 ≠ I := fun p hp e => hoff₁ p hp (by rw [e]; exact List.mem_singleton.mpr rfl)
    have N₂ : News h₀ env.locals h ((I, o) :: news₁) := fun p hp => by
      rcases List.mem_cons.mp hp with rfl | hp
      · exact N₁ _ (List.mem_append_left _ hin)
      · exact N₁ _ (List.mem_append_right _ hp)
    refine wpAny_mono (turn i v m₁ news₁ h tk o hi hP hJ₁ off₁ F₁ N₂) (fun f s₂ hf => ?_) fun _ _ e => e
    have fin : (∃ h' tk' m' news', s₂ = { ({ s with heap := h, toks := tk } : Shared) with heap := h', toks := tk' } ∧ Fr h₀ env.locals h' m' ∧ News h₀ env.locals h' ((I, o) :: news') ∧ (∀ p ∈ news', p.1 ≠ I) ∧ J (i + 1) m' news') →
        LoopStepU h₀ env.locals [I] own (J (i + 1)) { s with heap := h, toks := tk } .next s₂ := by
      rintro ⟨h', tk', m', news', e, F', N', off', J'⟩
      refine ⟨rfl, h', tk', m', news', e, F', fun p hp => ?_, fun p hp hI => off' p hp (List.mem_singleton.mp hI), J'⟩
      rcases List.mem_append.mp hp with hp | hp
      · have e1 : p.1 = I := List.mem_singleton.mp (hown1 p hp)
        have e2 := hown2 p hp
        rw [e1] at e2
        have e3 : p.2 = o := Option.some.inj (e2.symm.trans ho')
        have : p = (I, o) := by cases p; simp_all
        rw [this]; exact N' _ (.head _)
      · exact N' p (.tail _ hp)
    cases f with
    | ret v => exact hf
    | brk => exact hf
    | next => exact fin hf
    | cont => exact fin hf
  · rintro h' tk m' news' F' N' _ hJ'
    exact done m' news' h' tk hJ' F' N'

/-- a loop over a text -/
theorem str_loop {xt : Str} {tx : Tok} {m₀ : Str → Option Value} {news : List (Addr × Obj)} (J : Nat → (Str → Option Value) → List (Addr × Obj) → Prop)
    (hh : A.handled = none) (F : Fr h₀ env.locals s.heap m₀) (N : News h₀ env.locals s.heap news) (hJ : J 0 m₀ news)
    (turn : ∀ I i c t m₁ news₁ h tk o, (∀ p ∈ news, p.1 < I) → i < xt.cps.size → xt.cps[i]? = some c → J i m₁ news₁ → (∀ p ∈ news₁, p.1 ≠ I) → Fr h₀ env.locals h (fun y => if y = x then some (.str ⟨#[c]⟩ t) else m₁ y) → News h₀ env.locals h ((I, o) :: news₁) →
      wpAny (model prog w) A (execs body env) (Step1 h₀ env.locals I o (J (i + 1)) { s with heap := h, toks := tk } Q) E { s with heap := h, toks := tk })
    (done : ∀ m₁ news₁ h tk, J xt.cps.size m₁ news₁ → Fr h₀ env.locals h m₁ → News h₀ env.locals h news₁ → Q .next { s with heap := h, toks := tk }) :
    wpAny (model prog w) A (pyIter (.str xt tx)) (fun it s₂ => LoopAtV prog w A h₀ env x body Q E it s₂) E s := by
  have lt : ∀ p ∈ news, p.1 < s.heap.objs.size := fun p hp => Heap.lt_size (N p hp).1
  have key : ∀ (o : Obj) (St : Nat → Heap → Prop), Walks prog w A s.heap.objs.size [s.heap.objs.size] [s.heap.objs.size] xt.cps.size (SignAt xt) St → (∀ i h, St i h → ∃ o, h.get? s.heap.objs.size = some o) → St 0 (s.heap.push o) →
      LoopAtV prog w A h₀ env x body Q E (.ref s.heap.objs.size) { s with heap := s.heap.push o } := by
    intro o St W hS hst
    refine loop1 (s := { s with heap := s.heap.push o }) J W hS (Nat.ne_of_lt F.ns.lt) (next_is_new F) (fun p hp => Nat.ne_of_lt (lt p hp)) hst (F.push _) (fun p hp => ⟨Heap.get?_push_of_some _ (N p hp).1, (N p hp).2⟩) hJ ?_ ?_
    · rintro i v m₁ news₁ h tk o' hi ⟨c, u, hc, rfl⟩ hJ₁ off₁ F₁ N₁
      exact turn _ i c u m₁ news₁ h tk o' lt hi hc hJ₁ off₁ F₁ N₁
    · exact done
  cases ha : xt.cps.all (· < 128)
  · exact wpAny_pyIter_wide ha (key _ _ (Walks.strWide hh _ xt tx) (fun i h st => let ⟨o, ho, _⟩ := st; ⟨o, ho⟩) ⟨_, Heap.get?_push_size _ rfl, rfl, rfl⟩)
  · exact wpAny_pyIter_ascii ha (key _ _ (Walks.strAscii hh _ xt tx) (fun i h st => let ⟨o, ho, _⟩ := st; ⟨o, ho⟩) ⟨_, Heap.get?_push_size _ rfl, rfl, rfl⟩)

/-- a loop over a range by ones -/
theorem range_loop {r : Addr} {a₀ b₀ : Int} {t₀ u₀ v₀ : Tok} {n : Nat} {m₀ : Str → Option Value} {news : List (Addr × Obj)} (J : Nat → (Str → Option Value) → List (Addr × Obj) → Prop)
    (hh : A.handled = none) (hr : IsRange s.heap r a₀ b₀ 1 t₀ u₀ v₀) (hsmall : Builtin.Range.small a₀ b₀ 1 = true) (hn : Builtin.Range.rangeSize a₀ b₀ 1 = (n : Int)) (F : Fr h₀ env.locals s.heap m₀) (N : News h₀ env.locals s.heap news) (hJ : J 0 m₀ news)
    (turn : ∀ I i t m₁ news₁ h tk o, (∀ p ∈ news, p.1 < I) → i < n → J i m₁ news₁ → (∀ p ∈ news₁, p.1 ≠ I) → Fr h₀ env.locals h (fun y => if y = x then some (.int (a₀ + (i : Nat)) t) else m₁ y) → News h₀ env.locals h ((I, o) :: news₁) →
      wpAny (model prog w) A (execs body env) (Step1 h₀ env.locals I o (J (i + 1)) { s with heap := h, toks := tk } Q) E { s with heap := h, toks := tk })
    (done : ∀ m₁ news₁ h tk, J n m₁ news₁ → Fr h₀ env.locals h m₁ → News h₀ env.locals h news₁ → Q .next { s with heap := h, toks := tk }) :
    wpAny (model prog w) A (pyIter (.ref r)) (fun it s₂ => LoopAtV prog w A h₀ env x body Q E it s₂) E s := by
  have lt : ∀ p ∈ news, p.1 < s.heap.objs.size := fun p hp => Heap.lt_size (N p hp).1
  refine wpAny_pyIter_range hr hsmall ?_
  have W : Walks prog w A s.heap.objs.size [s.heap.objs.size] [s.heap.objs.size] n (fun i v => i < n ∧ ∃ t, v = .int (a₀ + i * 1) t)
      (fun i h => IsRangeIter h s.heap.objs.size (a₀ + (i : Nat) * 1) ((n : Int) - (i : Nat)) 1) := (Walks.range hh _ a₀ 1 n).bound
  refine loop1 (s := { s with heap := s.heap.push _ }) J W (fun i h st => ⟨_, st⟩) (Nat.ne_of_lt F.ns.lt) (next_is_new F) (fun p hp => Nat.ne_of_lt (lt p hp)) (by show IsRangeIter _ _ _ _ _; rw [hn]; simpa using Heap.get?_push_size _ rfl) (F.push _) (fun p hp => ⟨Heap.get?_push_of_some _ (N p hp).1, (N p hp).2⟩) hJ ?_ ?_
  · rintro i v m₁ news₁ h tk o hi ⟨_, t, rfl⟩ hJ₁ off₁ F₁ N₁
    rw [Int.mul_one] at F₁
    exact turn _ i t m₁ news₁ h tk o lt hi hJ₁ off₁ F₁ N₁
  · exact done
end
end Mine
end
namespace Mine
theorem freshAtC1 : True := by
  (try (walk1; fail))
  w_top off
  trivial
end Mine
section
open PySem PySem.W PySem.Calls PyProof.Rows
namespace Mine
set_option maxRecDepth 100000
set_option maxHeartbeats 8000000
theorem fillOfC1 : PySem.Challenge.rw_rl0102_01 = PySem.Challenge.rw_rl0102_01 ∧ KK = KK := by
  k_fill
  exact ⟨rfl, rfl⟩
variable {w : World} {dp un : Nat} {fr : Option (List Env)} {gd : Option (List Code)} {s : Shared} {h₀ : Heap} {L : Addr} {m : Str → Option Value} {news : List (Addr × Obj)} {R : Result → Shared → Prop} {p : Program} {loose : List Str} {mean : ExcName → Option Value} {mg mb : Str → Option Value}

def run0 (x : Int) : Int := [0, 4, 8, 2, 6, 5, 3].getD (x.fmod 7).toNat 0
def run1 (x : Int) : Int := [0, 4, 8, 2, 6, 5, 3].getD ((x.fdiv 7).fmod 7).toNat 0
def run2 (x : Int) : Int := [0, 4, 8, 2, 6, 5, 3].getD ((x.fdiv 49).fmod 7).toNat 0

theorem c_runs (F : Fr h₀ L s.heap m) (N : News h₀ L s.heap news) (X : (KK w.params).In h₀) (T : Top p loose mean mg mb h₀) (hdep : dp + 4 < recursionLimit) (hun : un + 40 < cLine)
    {x : Int} {tk : Tok}
    (ret : ∀ a' t0 t1 t2 h' tk', Fr h₀ L h' m → News h₀ L h' ((a', W.listOf #[.int (run0 x) t0, .int (run1 x) t1, .int (run2 x) t2] 0) :: news) → (∀ p ∈ news, p.1 ≠ a') → R (.ok (.ret (.ref a'))) { s with heap := h', toks := tk' }) :
    codeAny (model prg w) (mkA dp un fr gd) (.call (.ref 153) ⟨[.int x tk], []⟩) R s := by
  refine' enter1 (K := KK w.params) [] ?kn F N X T ?k6 ?k7 ?kr ?k9 ?kB ?_ ?c2 ?c3 ?c4 ?c5
  case kn => exact List.forall_mem_nil _
  case k6 => k_is
  case k7 => k_is
  case kr => (show dp < recursionLimit; omega)
  case k9 => exact BindsTo.of_eq rfl
  case c5 => decide
  case kB => exact locs rfl
  case c2 => exact rfl
  case c3 => exact rfl
  case c4 => exact rfl
  k_whole
  intro g' L' h' F' N' X' T' hlt hltA hgk
  have hlt' := allLt_of hlt
  simp only [AllLt] at hlt'
  have N₀ : ∀ q ∈ news, s.heap.get? q.1 = some q.2 := fun q hq => (N q hq).1
  clear hlt F N X T
  (try dsimp only)
  (try k_fold)
  k_steps
  have q9 := off_new hgk N₀ (by k_asm) (.head _) (List.forall_mem_nil _)
  refine leaveK_ (by k_asm) (by k_asm) fun kF kN => back_intro (List.forall_mem_nil _) fun NN => ?_
  exact ret _ _ _ _ _ _ kF (news_cons kN (.head _) NN) q9


end Mine
end
namespace Mine
theorem freshAtC2 : True := by
  (try (walk1; fail))
  w_top off
  trivial
end Mine
section
open PySem PySem.W PySem.Calls PyProof.Rows
namespace Mine
set_option maxRecDepth 100000
set_option maxHeartbeats 8000000
theorem fillOfC2 : PySem.Challenge.rw_rl0102_01 = PySem.Challenge.rw_rl0102_01 ∧ KK = KK := by
  k_fill
  exact ⟨rfl, rfl⟩
variable {w : World} {dp un : Nat} {fr : Option (List Env)} {gd : Option (List Code)} {s : Shared} {h₀ : Heap} {L : Addr} {m : Str → Option Value} {news : List (Addr × Obj)} {R : Result → Shared → Prop} {p : Program} {loose : List Str} {mean : ExcName → Option Value} {mg mb : Str → Option Value}

def leftF (r0 r1 r2 p : Int) : List Int := if Int.fmod r0 p ≠ 0 then [r0] else if Int.fmod r1 p ≠ 0 then [r0, r1] else [r0, r1, r2]

theorem c_left (F : Fr h₀ L s.heap m) (N : News h₀ L s.heap news) (X : (KK w.params).In h₀) (T : Top p loose mean mg mb h₀) (hdep : dp + 4 < recursionLimit) (hun : un + 40 < cLine)
    {ra : Addr} {r0 r1 r2 : Int} {t0 t1 t2 : Tok} {c : Nat} {pw : Int} {tp : Tok} (hr : (ra, W.listOf #[.int r0 t0, .int r1 t1, .int r2 t2] c) ∈ news) (hp : pw = 1 ∨ pw = 2 ∨ pw = 4)
    (ret : ∀ a' vs c' ex h' tk', Fr h₀ L h' m → News h₀ L h' (ex ++ news) → (∀ p ∈ ex, ∀ q ∈ news, q.1 ≠ p.1) → (a', W.listOf (List.toArray vs) c') ∈ ex ++ [(ra, W.listOf #[.int r0 t0, .int r1 t1, .int r2 t2] c)] → IntsAre vs (leftF r0 r1 r2 pw) → R (.ok (.ret (.ref a'))) { s with heap := h', toks := tk' }) :
    codeAny (model prg w) (mkA dp un fr gd) (.call (.ref 160) ⟨[.ref ra, .int pw tp], []⟩) R s := by
  refine' enter1 (K := KK w.params) [(ra, W.listOf #[.int r0 t0, .int r1 t1, .int r2 t2] c)] ?kn F N X T ?k6 ?k7 ?kr ?k9 ?kB ?_ ?c2 ?c3 ?c4 ?c5
  case kn => exact List.forall_mem_cons.mpr ⟨hr, List.forall_mem_nil _⟩
  case k6 => k_is
  case k7 => k_is
  case kr => (show dp < recursionLimit; omega)
  case k9 => exact BindsTo.of_eq rfl
  case c5 => decide
  case kB => exact locs rfl
  case c2 => exact rfl
  case c3 => exact rfl
  case c4 => exact rfl
  k_whole
  intro g' L' h' F' N' X' T' hlt hltA hgk
  have hlt' := allLt_of hlt
  simp only [AllLt] at hlt'
  have N₀ : ∀ q ∈ news, s.heap.get? q.1 = some q.2 := fun q hq => (N q hq).1
  clear hlt F N X T
  (try dsimp only)
  (try k_fold)
  k_steps
  all_goals (try dsimp only)
  all_goals (try (have q9 := off_new hgk N₀ (by k_asm) (.head _) (by intro p9 hp9; rw [List.mem_singleton.mp hp9]; exact neN (by omega))))
  all_goals (refine leaveK_ (by k_asm) (by k_asm) fun kF kN => back_intro (back_sub kN (by intro p9 hp9; simp only [List.mem_cons, List.not_mem_nil, or_false] at hp9 ⊢; simp only [hp9, true_or, or_true])) fun NN => ?_)
  all_goals first
    | (refine ret _ _ _ [_] _ _ kF (news_cons kN (.head _) NN) (fun p9 hp9 => ?_) (.head _) ?_; (rw [List.mem_singleton.mp hp9]; exact q9))
    | refine ret ra _ c [] _ _ kF NN (List.forall_mem_nil _) (.head _) ?_
  all_goals first
    | (unfold leftF; rw [if_pos (show Int.fmod r0 pw ≠ 0 by assumption)]; exact .cons _ _ .nil)
    | (unfold leftF; rw [if_neg (show ¬ Int.fmod r0 pw ≠ 0 from fun h => h (by assumption)), if_pos (show Int.fmod r1 pw ≠ 0 by assumption)]; exact .cons _ _ (.cons _ _ .nil))
    | (unfold leftF; rw [if_neg (show ¬ Int.fmod r0 pw ≠ 0 from fun h => h (by assumption)), if_neg (show ¬ Int.fmod r1 pw ≠ 0 from fun h => h (by assumption))]; exact .cons _ _ (.cons _ _ (.cons _ _ .nil)))


end Mine
end
namespace Mine
theorem freshAtC3 : True := by
  (try (walk1; fail))
  w_top off
  trivial
end Mine
section
open PySem PySem.W PySem.Calls PyProof.Rows
namespace Mine
set_option maxRecDepth 100000
set_option maxHeartbeats 8000000
theorem fillOfC3 : PySem.Challenge.rw_rl0102_01 = PySem.Challenge.rw_rl0102_01 ∧ KK = KK := by
  k_fill
  exact ⟨rfl, rfl⟩
variable {w : World} {dp un : Nat} {fr : Option (List Env)} {gd : Option (List Code)} {s : Shared} {h₀ : Heap} {L : Addr} {m : Str → Option Value} {news : List (Addr × Obj)} {R : Result → Shared → Prop} {p : Program} {loose : List Str} {mean : ExcName → Option Value} {mg mb : Str → Option Value}
local macro_rules | `(tactic| walk_at "exec For Name Subscript cons nil") => `(tactic| (k_here; (rename Fr _ _ _ _ => lF'); (with_unfolding_all refine' For_invVF lF' ?k1 ?k2 ?_; (case k1 => exact rfl); (case k2 => exact rfl); k_whole); l_hasStore))

def colF (ns : List Int) (p z : Int) : Int := Int.fdiv (ns.dropLast.foldl (fun a n => a + (Int.fdiv n (z * p) + 1) * (z * p)) 0 + ns.getLastD 0) p

theorem c_col1 (F : Fr h₀ L s.heap m) (N : News h₀ L s.heap news) (X : (KK w.params).In h₀) (T : Top p loose mean mg mb h₀) (hdep : dp + 4 < recursionLimit) (hun : un + 40 < cLine)
    {ra : Addr} {r0 : Int} {t0 : Tok} {c : Nat} {pw sz : Int} {tp tz : Tok} (hr : (ra, W.listOf #[.int r0 t0] c) ∈ news) (hp : 1 ≤ pw ∧ pw ≤ 4) (hz : 1 ≤ sz ∧ sz ≤ 9) (hW : 1 ≤ sz * pw ∧ sz * pw ≤ 36) (h0 : 0 ≤ r0 ∧ r0 ≤ 8)
    (ret : ∀ t' h' tk', Fr h₀ L h' m → News h₀ L h' news → R (.ok (.ret (.int (colF [r0] pw sz) t'))) { s with heap := h', toks := tk' }) :
    codeAny (model prg w) (mkA dp un fr gd) (.call (.ref 167) ⟨[.ref ra, .int pw tp, .int sz tz], []⟩) R s := by
  refine' enter1 (K := KK w.params) [(ra, W.listOf #[.int r0 t0] c)] ?kn F N X T ?k6 ?k7 ?kr ?k9 ?kB ?_ ?c2 ?c3 ?c4 ?c5
  case kn => exact List.forall_mem_cons.mpr ⟨hr, List.forall_mem_nil _⟩
  case k6 => k_is
  case k7 => k_is
  case kr => (show dp < recursionLimit; omega)
  case k9 => exact BindsTo.of_eq rfl
  case c5 => decide
  case kB => exact locs rfl
  case c2 => exact rfl
  case c3 => exact rfl
  case c4 => exact rfl
  k_whole
  intro g' L' h' F' N' X' T' hlt hltA hgk
  have hlt' := allLt_of hlt
  simp only [AllLt] at hlt'
  clear hlt F N X T
  (try dsimp only)
  (try k_fold)
  k_steps
  all_goals (try dsimp only)
  all_goals (refine leaveK_ (by k_asm) (by k_asm) fun kF kN => back_intro (back_sub kN (by intro p9 hp9; simp only [List.mem_cons, List.not_mem_nil, or_false] at hp9 ⊢; simp only [hp9, true_or, or_true])) fun NN => ?_)
  exact ret _ _ _ kF NN


theorem c_col2 (F : Fr h₀ L s.heap m) (N : News h₀ L s.heap news) (X : (KK w.params).In h₀) (T : Top p loose mean mg mb h₀) (hdep : dp + 4 < recursionLimit) (hun : un + 40 < cLine)
    {ra : Addr} {r0 r1 : Int} {t0 t1 : Tok} {c : Nat} {pw sz : Int} {tp tz : Tok} (hr : (ra, W.listOf #[.int r0 t0, .int r1 t1] c) ∈ news) (hp : 1 ≤ pw ∧ pw ≤ 4) (hz : 1 ≤ sz ∧ sz ≤ 9) (hW : 1 ≤ sz * pw ∧ sz * pw ≤ 36) (h0 : 0 ≤ r0 ∧ r0 ≤ 8) (h1 : 0 ≤ r1 ∧ r1 ≤ 8)
    (ret : ∀ t' h' tk', Fr h₀ L h' m → News h₀ L h' news → R (.ok (.ret (.int (colF [r0, r1] pw sz) t'))) { s with heap := h', toks := tk' }) :
    codeAny (model prg w) (mkA dp un fr gd) (.call (.ref 167) ⟨[.ref ra, .int pw tp, .int sz tz], []⟩) R s := by
  refine' enter1 (K := KK w.params) [(ra, W.listOf #[.int r0 t0, .int r1 t1] c)] ?kn F N X T ?k6 ?k7 ?kr ?k9 ?kB ?_ ?c2 ?c3 ?c4 ?c5
  case kn => exact List.forall_mem_cons.mpr ⟨hr, List.forall_mem_nil _⟩
  case k6 => k_is
  case k7 => k_is
  case kr => (show dp < recursionLimit; omega)
  case k9 => exact BindsTo.of_eq rfl
  case c5 => decide
  case kB => exact locs rfl
  case c2 => exact rfl
  case c3 => exact rfl
  case c4 => exact rfl
  k_whole
  intro g' L' h' F' N' X' T' hlt hltA hgk
  have hlt' := allLt_of hlt
  simp only [AllLt] at hlt'
  clear hlt F N X T
  (try dsimp only)
  (try k_fold)
  k_steps
  all_goals (try dsimp only)
  all_goals (refine leaveK_ (by k_asm) (by k_asm) fun kF kN => back_intro (back_sub kN (by intro p9 hp9; simp only [List.mem_cons, List.not_mem_nil, or_false] at hp9 ⊢; simp only [hp9, true_or, or_true])) fun NN => ?_)
  exact ret _ _ _ kF NN


theorem c_col3 (F : Fr h₀ L s.heap m) (N : News h₀ L s.heap news) (X : (KK w.params).In h₀) (T : Top p loose mean mg mb h₀) (hdep : dp + 4 < recursionLimit) (hun : un + 40 < cLine)
    {ra : Addr} {r0 r1 r2 : Int} {t0 t1 t2 : Tok} {c : Nat} {pw sz : Int} {tp tz : Tok} (hr : (ra, W.listOf #[.int r0 t0, .int r1 t1, .int r2 t2] c) ∈ news) (hp : 1 ≤ pw ∧ pw ≤ 4) (hz : 1 ≤ sz ∧ sz ≤ 9) (hW : 1 ≤ sz * pw ∧ sz * pw ≤ 36) (h0 : 0 ≤ r0 ∧ r0 ≤ 8) (h1 : 0 ≤ r1 ∧ r1 ≤ 8) (h2 : 0 ≤ r2 ∧ r2 ≤ 8)
    (ret : ∀ t' h' tk', Fr h₀ L h' m → News h₀ L h' news → R (.ok (.ret (.int (colF [r0, r1, r2] pw sz) t'))) { s with heap := h', toks := tk' }) :
    codeAny (model prg w) (mkA dp un fr gd) (.call (.ref 167) ⟨[.ref ra, .int pw tp, .int sz tz], []⟩) R s := by
  refine' enter1 (K := KK w.params) [(ra, W.listOf #[.int r0 t0, .int r1 t1, .int r2 t2] c)] ?kn F N X T ?k6 ?k7 ?kr ?k9 ?kB ?_ ?c2 ?c3 ?c4 ?c5
  case kn => exact List.forall_mem_cons.mpr ⟨hr, List.forall_mem_nil _⟩
  case k6 => k_is
  case k7 => k_is
  case kr => (show dp < recursionLimit; omega)
  case k9 => exact BindsTo.of_eq rfl
  case c5 => decide
  case kB => exact locs rfl
  case c2 => exact rfl
  case c3 => exact rfl
  case c4 => exact rfl
  k_whole
  intro g' L' h' F' N' X' T' hlt hltA hgk
  have hlt' := allLt_of hlt
  simp only [AllLt] at hlt'
  clear hlt F N X T
  (try dsimp only)
  (try k_fold)
  k_steps
  all_goals (try dsimp only)
  all_goals (refine leaveK_ (by k_asm) (by k_asm) fun kF kN => back_intro (back_sub kN (by intro p9 hp9; simp only [List.mem_cons, List.not_mem_nil, or_false] at hp9 ⊢; simp only [hp9, true_or, or_true])) fun NN => ?_)
  exact ret _ _ _ kF NN


end Mine
end
namespace Mine
theorem freshAtC4 : True := by
  (try (walk1; fail))
  w_top off
  trivial
end Mine
section
open PySem PySem.W PySem.Calls PyProof.Rows
namespace Mine
set_option maxRecDepth 100000
set_option maxHeartbeats 8000000
theorem fillOfC4 : PySem.Challenge.rw_rl0102_01 = PySem.Challenge.rw_rl0102_01 ∧ KK = KK := by
  k_fill
  exact ⟨rfl, rfl⟩
variable {w : World} {dp un : Nat} {fr : Option (List Env)} {gd : Option (List Code)} {s : Shared} {h₀ : Heap} {L : Addr} {m : Str → Option Value} {news : List (Addr × Obj)} {R : Result → Shared → Prop} {p : Program} {loose : List Str} {mean : ExcName → Option Value} {mg mb : Str → Option Value}

def parseL : List Nat → List Nat
  | [] => []
  | [c] => if c = 34 then [] else [c]
  | c :: d :: r => if c = 34 then (if d = 34 then 34 :: parseL r else []) else c :: parseL (d :: r)
theorem parseL_ne {c : Nat} {r : List Nat} (h : c ≠ 34) : parseL (c :: r) = c :: parseL r := by
  cases r with
  | nil => simp [parseL, h]
  | cons d r => simp [parseL, h]
theorem pl_item {x : Str} {i : Nat} (h : i < x.length) : ∃ c, x.cps.toList.drop i = c :: x.cps.toList.drop (i + 1) ∧ (Txt.item x (i : Int)).cps.toList = [c] ∧ ((Txt.item x (i : Int) == Str.ofString "\"") = true ↔ c = 34) := by
  have hs : i < x.cps.size := h
  refine ⟨x.cps[i], ?_, ?_, ?_⟩
  · rw [List.drop_eq_getElem_cons (by simpa using hs)]
    simp
  · rw [item_at (n := i) (by omega) (by exact_mod_cast h) (by simp)]
    simp [Array.getD, hs]
  · rw [item_at (n := i) (by omega) (by exact_mod_cast h) (by simp)]
    have e : Str.ofString "\"" = ⟨#[34]⟩ := by decide +kernel
    rw [e, beq_iff_eq]
    simp [Array.getD, hs]
theorem pl_brk1 {x d : Str} {i n : Nat} (hx : x.length = n) (hi : (i : Int) < n) (h1 : (n : Int) ≤ (i : Int) + 1) (hc : (Txt.item x (i : Int) == Str.ofString "\"") = true)
    (hI : d.cps.toList ++ parseL (x.cps.toList.drop i) = parseL (x.cps.toList.drop 5)) : d.cps.toList = parseL (x.cps.toList.drop 5) := by
  obtain ⟨c, e, _, k⟩ := pl_item (x := x) (i := i) (by omega)
  have h2 : x.cps.toList.drop (i + 1) = [] := List.drop_eq_nil_of_le (by
    have : x.cps.toList.length = x.length := Array.length_toList
    omega)
  rw [← hI, e, h2, k.mp hc]
  simp [parseL]
theorem pl_brk2 {x d : Str} {i n : Nat} (hx : x.length = n) (hi : (i : Int) < n) (h1 : ¬ (n : Int) ≤ (i : Int) + 1) (hc : (Txt.item x (i : Int) == Str.ofString "\"") = true) (hc' : (Txt.item x ((i : Int) + 1) != Str.ofString "\"") = true)
    (hI : d.cps.toList ++ parseL (x.cps.toList.drop i) = parseL (x.cps.toList.drop 5)) : d.cps.toList = parseL (x.cps.toList.drop 5) := by
  obtain ⟨c, e, _, k⟩ := pl_item (x := x) (i := i) (by omega)
  obtain ⟨c', e', _, k'⟩ := pl_item (x := x) (i := i + 1) (by omega)
  have n34 : c' ≠ 34 := fun q => by
    have := k'.mpr q
    rw [show ((i + 1 : Nat) : Int) = (i : Int) + 1 by omega] at this
    simp only [bne, this, Bool.not_true, Bool.false_eq_true] at hc'
  rw [← hI, e, e', k.mp hc]
  simp [parseL, n34]
theorem pl_next2 {x d : Str} {i n : Nat} (hx : x.length = n) (hi : (i : Int) < n) (h1 : ¬ (n : Int) ≤ (i : Int) + 1) (hc : (Txt.item x (i : Int) == Str.ofString "\"") = true) (hc' : (Txt.item x ((i : Int) + 1) != Str.ofString "\"") = false)
    (hI : d.cps.toList ++ parseL (x.cps.toList.drop i) = parseL (x.cps.toList.drop 5)) : (d ++ Txt.item x (i : Int)).cps.toList ++ parseL (x.cps.toList.drop (i + 2)) = parseL (x.cps.toList.drop 5) := by
  obtain ⟨c, e, q, k⟩ := pl_item (x := x) (i := i) (by omega)
  obtain ⟨c', e', _, k'⟩ := pl_item (x := x) (i := i + 1) (by omega)
  have n34 : c' = 34 := k'.mp (by
    rw [show ((i + 1 : Nat) : Int) = (i : Int) + 1 by omega]
    simpa [bne] using hc')
  rw [← hI, e, e', k.mp hc, n34, Str.cps_append, Array.toList_append, q, k.mp hc]
  simp [parseL]
theorem pl_next1 {x d : Str} {i n : Nat} (hx : x.length = n) (hi : (i : Int) < n) (hc : (Txt.item x (i : Int) == Str.ofString "\"") = false)
    (hI : d.cps.toList ++ parseL (x.cps.toList.drop i) = parseL (x.cps.toList.drop 5)) : (d ++ Txt.item x (i : Int)).cps.toList ++ parseL (x.cps.toList.drop (i + 1)) = parseL (x.cps.toList.drop 5) := by
  obtain ⟨c, e, q, k⟩ := pl_item (x := x) (i := i) (by omega)
  have n34 : c ≠ 34 := fun h => by rw [k.mpr h] at hc; cases hc
  rw [← hI, e, parseL_ne n34, Str.cps_append, Array.toList_append, q]
  simp
theorem pl_end {x d : Str} {i n : Nat} (hx : x.length = n) (hi : ¬ (i : Int) < n) (hI : d.cps.toList ++ parseL (x.cps.toList.drop i) = parseL (x.cps.toList.drop 5)) : d.cps.toList = parseL (x.cps.toList.drop 5) := by
  have h2 : x.cps.toList.drop i = [] := List.drop_eq_nil_of_le (by
    have : x.cps.toList.length = x.length := Array.length_toList
    omega)
  rw [← hI, h2]
  simp [parseL]
/-- the loop's word -/
def JP (resp : Str) (tk : Tok) (N : Nat) (n : Nat) (m₁ : Str → Option Value) (news₁ : List (Addr × Obj)) : Prop :=
  news₁ = [] ∧ ∃ (i : Nat) (d : Str) (ti td tn : Tok), m₁ (Str.ofString "i") = some (.int i ti) ∧ m₁ (Str.ofString "dirname") = some (.str d td) ∧ m₁ (Str.ofString "n") = some (.int N tn) ∧ m₁ (Str.ofString "resp") = some (.str resp tk) ∧
    5 ≤ i ∧ i ≤ N ∧ n = N - i ∧ d.length ≤ i ∧ d.cps.toList ++ parseL (resp.cps.toList.drop i) = parseL (resp.cps.toList.drop 5)
section
local macro_rules | `(tactic| walk_at "exec While Compare") => `(tactic| (refine hold ?_))
local macro_rules | `(tactic| walk_at "subscriptTail Name Name str int") => `(tactic| (k_here; (with_reducible show wpAny _ _ (subscriptTail _ _ (Value.str _ _) (Value.int _ _)) _ _ _); (refine KXi.item (by assumption) (by omega) (by omega) (by omega) ?_); intro kxiE))

theorem c_parse (F : Fr h₀ L s.heap m) (N : News h₀ L s.heap news) (X : (KK w.params).In h₀) (T : Top p loose mean mg mb h₀) (hdep : dp + 4 < recursionLimit) (hun : un + 40 < cLine)
    {resp : Str} {tr : Tok} {nn : Nat} (hlen : resp.length = nn) (hN : 5 ≤ nn ∧ nn ≤ 100) (h3 : Txt.slice resp none (some 3) = Str.ofString "257") (h5 : Txt.slice resp (some 3) (some 5) = Str.ofString " \"")
    (ret : ∀ d t' h' tk', Fr h₀ L h' m → News h₀ L h' news → d.cps.toList = parseL (resp.cps.toList.drop 5) → R (.ok (.ret (.str d t'))) { s with heap := h', toks := tk' }) :
    codeAny (model prg w) (mkA dp un fr gd) (.call (.ref 146) ⟨[.str resp tr], []⟩) R s := by
  refine' enter1 (K := KK w.params) [] ?kn F N X T ?k6 ?k7 ?kr ?k9 ?kB ?_ ?c2 ?c3 ?c4 ?c5
  case kn => exact List.forall_mem_nil _
  case k6 => k_is
  case k7 => k_is
  case kr => (show dp < recursionLimit; omega)
  case k9 => exact BindsTo.of_eq rfl
  case c5 => decide
  case kB => exact locs rfl
  case c2 => exact rfl
  case c3 => exact rfl
  case c4 => exact rfl
  k_whole
  intro g' L' h' F' N' X' T' hlt hltA hgk
  have hlt' := allLt_of hlt
  simp only [AllLt] at hlt'
  clear hlt F N X T
  (try dsimp only)
  (try k_fold)
  k_steps
  · exfalso
    have hc : (Txt.slice resp (some 3) (some 5) != Str.ofString " \"") = true := by assumption
    rw [h5] at hc
    exact absurd hc (by decide)
  unfold Hold
  refine While_inv2 (J := JP resp tr nn) (n₀ := nn - 5) (by k_asm) (by k_asm) ?_ ?_ PassesOwn.never
  · exact ⟨rfl, 5, Str.ofString "", _, _, _, by with_unfolding_all rfl, by with_unfolding_all rfl, by rw [← hlen]; with_unfolding_all rfl, by with_unfolding_all rfl, by omega, by omega, rfl, by decide, by simp [show (Str.ofString "").cps.toList = [] by decide]⟩
  intro n m₁ news₁ h₁ tk₁ F₁ N₁ J₁
  obtain ⟨rfl, i, d, ti, td, tn, e1, e2, e3, e4, i1, i2, i3, i4, i5⟩ := J₁
  rw [map_pin e1, map_pin e2, map_pin e3, map_pin e4] at F₁
  k_steps
  · dsimp only [WhileStep2]
    k_steps
    dsimp only
    exact leaveK_ (by k_asm) (by k_asm) fun kF kN => back_intro (fun _ hp => nomatch hp) fun NN => ret _ _ _ _ kF NN (pl_brk1 hlen (by assumption) (by assumption) (by assumption) i5)
  · dsimp only [WhileStep2]
    k_steps
    dsimp only
    exact leaveK_ (by k_asm) (by k_asm) fun kF kN => back_intro (fun _ hp => nomatch hp) fun NN => ret _ _ _ _ kF NN (pl_brk2 hlen (by assumption) (by assumption) (by assumption) (by assumption) i5)
  · refine ⟨_, _, _, _, nn - (i + 2), rfl, by k_asm, by k_asm, by omega, rfl, i + 2, _, _, _, _, by with_unfolding_all rfl, by with_unfolding_all rfl, by with_unfolding_all rfl, by with_unfolding_all rfl, by omega, by omega, rfl, by omega, pl_next2 hlen (by assumption) (by assumption) (by assumption) (by assumption) i5⟩
  · refine ⟨_, _, _, _, nn - (i + 1), rfl, by k_asm, by k_asm, by omega, rfl, i + 1, _, _, _, _, by with_unfolding_all rfl, by with_unfolding_all rfl, by with_unfolding_all rfl, by with_unfolding_all rfl, by omega, by omega, rfl, by omega, pl_next1 hlen (by assumption) (by assumption) i5⟩
  · dsimp only
    exact leaveK_ (by k_asm) (by k_asm) fun kF kN => back_intro (fun _ hp => nomatch hp) fun NN => ret _ _ _ _ kF NN (pl_end hlen (by assumption) i5)
end


end Mine
end
namespace Mine
theorem freshAtC5 : True := by
  (try (walk1; fail))
  w_top off
  trivial
end Mine
section
open PySem PySem.W PySem.Calls PyProof.Rows
namespace Mine
set_option maxRecDepth 100000
set_option maxHeartbeats 8000000
theorem fillOfC5 : PySem.Challenge.rw_rl0102_01 = PySem.Challenge.rw_rl0102_01 ∧ KK = KK := by
  k_fill
  exact ⟨rfl, rfl⟩
variable {w : World} {dp un : Nat} {fr : Option (List Env)} {gd : Option (List Code)} {s : Shared} {h₀ : Heap} {L : Addr} {m : Str → Option Value} {news : List (Addr × Obj)} {R : Result → Shared → Prop} {p : Program} {loose : List Str} {mean : ExcName → Option Value} {mg mb : Str → Option Value}

theorem news_drop2 {h₀ h : Heap} {L : Addr} {a b c d : Addr × Obj} (N : News h₀ L h [a, b, c, d]) : News h₀ L h [a, c, d] := fun p hp => N p (by
  simp only [List.mem_cons, List.not_mem_nil, or_false] at hp ⊢
  rcases hp with e | e | e <;> simp [e])
def wsStep (q : List Int × Int × Int × Int) (c : Nat) : List Int × Int × Int × Int :=
  if c = 32 then (q.1, q.2.1 + 1, q.2.2.1 + 1, q.2.2.2)
  else
    let l := if (q.1.length : Int) ≤ q.2.1 then q.1 ++ (List.replicate (q.2.1 - q.1.length + 1).toNat [0]).flatten else q.1
    (l.set q.2.1.toNat (l.getD q.2.1.toNat 0 + 1), 0, q.2.2.1 + 1, q.2.2.2 + 1)
def wsF (cs : List Nat) : List Int × Int × Int × Int := cs.foldl wsStep ([], 0, 0, 0)
theorem ws_next {t : Str} {i c : Nat} {q : List Int × Int × Int × Int} (hc : t.cps[i]? = some c) (h : wsF (t.cps.toList.take i) = q) : wsF (t.cps.toList.take (i + 1)) = wsStep q c := by
  have : t.cps.toList[i]? = some c := by simpa using hc
  rw [List.take_add_one, this]
  unfold wsF at h ⊢
  rw [List.foldl_append, h]
  rfl
theorem c32 {c : Nat} (h : (({ cps := #[c] } : Str) == Str.ofString " ") = true) : c = 32 := by
  have e : Str.ofString " " = ⟨#[32]⟩ := by decide +kernel
  rw [e, beq_iff_eq] at h
  simpa using h
theorem c32n {c : Nat} (h : (({ cps := #[c] } : Str) == Str.ofString " ") = false) : c ≠ 32 := by
  intro hc
  subst hc
  exact absurd h (by decide +kernel)
theorem c9n {c : Nat} (h : (({ cps := #[c] } : Str) == Str.ofString "	") = false) : c ≠ 9 := by
  intro hc
  subst hc
  exact absurd h (by decide +kernel)
theorem news_sub {h₀ h : Heap} {L : Addr} {l l' : List (Addr × Obj)} (N : News h₀ L h l) (hs : ∀ p ∈ l', p ∈ l) : News h₀ L h l' := fun p hp => N p (hs p hp)
theorem pick7 {h₀ h : Heap} {L : Addr} {a b c d e f g : Addr × Obj} (N : News h₀ L h [a, b, c, d, e, f, g]) : News h₀ L h [d, a, f, g] := news_sub N (by
  intro p hp
  simp only [List.mem_cons, List.not_mem_nil, or_false] at hp ⊢
  rcases hp with q | q | q | q <;> simp [q])
theorem ws_len (cnt : List Int) (b : Int) : (cnt ++ (List.replicate (b - cnt.length + 1).toNat [(0 : Int)]).flatten).length = cnt.length + (b - cnt.length + 1).toNat := by
  rw [List.length_append, KM.len_rep]; simp
abbrev wsDict (e0 e1 e2 e3 e4 : Int) (k0 k1 k2 k3 k4 : Tok) (raw : Value) (n nt : Int) (tn tnt : Tok) (nm : Addr) (sb : Bool) : Obj :=
  dictOf [⟨e0, .str (Str.ofString "raw") k0, raw⟩, ⟨e1, .str (Str.ofString "n") k1, .int n tn⟩, ⟨e2, .str (Str.ofString "nt") k2, .int nt tnt⟩, ⟨e3, .str (Str.ofString "norm") k3, .ref nm⟩, ⟨e4, .str (Str.ofString "is_simple") k4, .bool sb⟩] 5
abbrev tupOf (vs : Array Value) (c : Nat) : Obj := { cls := .type "tuple", data := .seq vs c }
theorem pick5 {h₀ h : Heap} {L : Addr} {a b c d e : Addr × Obj} (N : News h₀ L h [a, b, c, d, e]) : News h₀ L h [d, e, a, b] := news_sub N (by
  intro p hp
  simp only [List.mem_cons, List.not_mem_nil, or_false] at hp ⊢
  rcases hp with q | q | q | q <;> simp [q])
def JW (x dx : Addr) (t : Str) (tr : Tok) (i : Nat) (m₁ : Str → Option Value) (news₁ : List (Addr × Obj)) : Prop :=
  ∃ (cl : Addr) (vs : List Value) (c : Nat) (tb tn tnt : Tok) (tS tT k0 : Tok) (e0 : Int) (cnt : List Int) (b n nt : Int), news₁ = [(cl, W.listOf (List.toArray vs) c), (x, instObj 83 dx), (dx, dictOf [⟨e0, .str (Str.ofString "raw") k0, .str t tr⟩] 1)] ∧
    m₁ (Str.ofString "count") = some (.ref cl) ∧ m₁ (Str.ofString "b") = some (.int b tb) ∧ m₁ (Str.ofString "n") = some (.int n tn) ∧
    m₁ (Str.ofString "nt") = some (.int nt tnt) ∧ m₁ (Str.ofString "S") = some (.str (Str.ofString " ") tS) ∧ m₁ (Str.ofString "T") = some (.str (Str.ofString "	") tT) ∧ m₁ (Str.ofString "self") = some (.ref x) ∧
    IntsAre vs cnt ∧ @LT.lt Nat _ x cl ∧ @LT.lt Nat _ dx cl ∧ cnt.length ≤ 61 ∧ 0 ≤ b ∧ b ≤ 60 ∧ b ≤ i ∧ wsF (t.cps.toList.take i) = (cnt, b, n, nt)
section
local macro_rules | `(tactic| walk_at "exec For Name Attribute cons nil") => `(tactic| (k_here; (rename Fr _ _ _ _ => lF'); (with_unfolding_all refine' For_invVF lF' ?k1 ?k2 ?_; (case k1 => exact rfl); (case k2 => exact rfl); k_whole); l_hasStore))
local macro_rules | `(tactic| walk_at "call type:tuple") => `(tactic| (k_here; (with_reducible show wpAny _ _ (call (Value.type _) [Value.ref _]) _ _ _); k_dflt (refine' kde_tupleOf ?k1 ?k2 ?k3 ?k4 ?k5 ?_; (case k1 => k_asm); (case k2 => k_asm); (case k3 => exact News.isList (by k_asm) (by k_mem)); (case k4 => (simp only [List.size_toArray]; omega)); (case k5 => exact rfl); k_whole); intro D' h' F' N' l1; (try k_lt l1)))
local macro_rules | `(tactic| walk_at "pyIter str") => `(tactic| (refine hold ?_))

local macro_rules | `(tactic| walk_at "execs cons") => `(tactic| ((try dsimp only); refine cut_cons ?_; intro K hN hR hB hC))
local macro_rules | `(tactic| walk_at "Go next") => `(tactic| ((with_reducible rename ∀ _ _, _ → Go _ Flow.next _ => hN); refine hN _ _ ?_; clear hN; (try (refine any_toks ?_; intro t'))))
local macro_rules | `(tactic| walk_at "Go ret") => `(tactic| ((with_reducible rename ∀ _ _ _, _ → Go _ (Flow.ret _) _ => hR); refine hR _ _ _ ?_; clear hR))
local macro_rules | `(tactic| walk_at "Go brk") => `(tactic| ((with_reducible rename ∀ _ _, _ → Go _ Flow.brk _ => hB); refine hB _ _ ?_; clear hB))
local macro_rules | `(tactic| walk_at "Go cont") => `(tactic| ((with_reducible rename ∀ _ _, _ → Go _ Flow.cont _ => hC); refine hC _ _ ?_; clear hC))

theorem c_init (F : Fr h₀ L s.heap m) (N : News h₀ L s.heap news) (X : (KK w.params).In h₀) (T : Top p loose mean mg mb h₀) (hdep : dp + 4 < recursionLimit) (hun : un + 40 < cLine)
    {x dx : Addr} {rest : List (Addr × Obj)} {t : Str} {tr : Tok} (hx : (x, instObj 83 dx) ∈ news) (hdx : (dx, dictOf [] 0) ∈ news) (hxd : dx < x) (hrest : ∀ p ∈ rest, p ∈ news) (hlt : ∀ p ∈ rest, p.1 < dx) (ht : t.length ≤ 60) (hcs : ∀ c ∈ t.cps.toList, c = 32 ∨ c = 9)
    (ret : ∀ nm ct vs e0 e1 e2 e3 e4 k0 k1 k2 k3 k4 tn tnt tb sb cnt b n nt h' tk', Fr h₀ L h' m → News h₀ L h' ([(x, instObj 83 dx), (dx, wsDict e0 e1 e2 e3 e4 k0 k1 k2 k3 k4 (.str t tr) n nt tn tnt nm sb), (nm, tupOf #[.ref ct, .int b tb] 0), (ct, tupOf (List.toArray vs) 0)] ++ rest) →
      x < ct → ct < nm → (∀ q ∈ rest, q.1 ≠ nm ∧ q.1 ≠ ct) → IntsAre vs cnt → wsF t.cps.toList = (cnt, b, n, nt) → sb = decide ((cnt.length : Int) ≤ 1) → R (.ok (.ret .none)) { s with heap := h', toks := tk' }) :
    codeAny (model prg w) (mkA dp un fr gd) (.call (.ref 38) ⟨[.ref x, .str t tr], []⟩) R s := by
  refine' enter2 (K := KK w.params) [(x, instObj 83 dx), (dx, dictOf [] 0)] rest ?kn ?kn2 ?kn3 F N X T ?k6 ?k7 ?kr ?k9 ?kB ?_ ?c2 ?c3 ?c4 ?c5
  case kn => exact List.forall_mem_cons.mpr ⟨hx, List.forall_mem_cons.mpr ⟨hdx, List.forall_mem_nil _⟩⟩
  case kn2 => exact hrest
  case kn3 => (intro p9 hp9 hm9; simp only [List.map_cons, List.map_nil, List.mem_cons, List.not_mem_nil, or_false] at hm9; have q9 := ltN (hlt p9 hp9); have q8 := ltN hxd; rcases hm9 with e | e <;> (rw [e] at q9; omega))
  case k6 => k_is
  case k7 => k_is
  case kr => (show dp < recursionLimit; omega)
  case k9 => exact BindsTo.of_eq rfl
  case c5 => decide
  case kB => exact locs rfl
  case c2 => exact rfl
  case c3 => exact rfl
  case c4 => exact rfl
  k_whole
  intro g' L' h' F' N' X' T' hlt hltA hgk
  have hlt' := allLt_of hlt
  simp only [AllLt] at hlt'
  have N₀ : ∀ q ∈ rest, s.heap.get? q.1 = some q.2 := fun q hq => (N q (hrest q hq)).1
  clear hlt F N X T
  (try dsimp only)
  (try k_fold)
  replace hxd := ltN hxd
  k_steps
  unfold Hold
  refine str_loop (J := JW x dx t tr) rfl (by k_asm) (news_drop2 (by k_asm)) ?_ ?_ ?_
  · refine ⟨_, [], 0, _, _, _, _, _, _, _, [], 0, 0, 0, rfl, by with_unfolding_all rfl, by with_unfolding_all rfl, by with_unfolding_all rfl, by with_unfolding_all rfl, by with_unfolding_all rfl, by with_unfolding_all rfl, by with_unfolding_all rfl, .nil, by omega, by omega, by decide, by decide, by decide, by decide, rfl⟩
  · intro I i c tc m₁ news₁ h tk o hltI hi hc hJ hoff F₁ N₁
    obtain ⟨cl, vs, c0, tb, tn, tnt, tS, tT, k0, e0, cnt, b, n, nt, rfl, e1, e2, e3, e4, e5, e6, e7, hI, l1, l2, l3, l4, l5, l6, l7⟩ := hJ
    have o1 := neN (hoff _ (.head _))
    have o2 := neN (hoff _ (.tail _ (.head _)))
    have o3 := neN (hoff _ (.tail _ (.tail _ (.head _))))
    dsimp only at o1 o2 o3
    have hlc := hI.length
    rw [map_pin e1, map_pin e2, map_pin e3, map_pin e4, map_pin e5, map_pin e6, map_pin e7] at F₁
    have hsz : t.cps.size = t.length := rfl
    k_steps
    · refine ⟨_, _, _, _, rfl, by k_asm, by k_asm, hoff, cl, vs, c0, _, _, _, tS, tT, k0, e0, cnt, b + 1, n + 1, nt, rfl, by with_unfolding_all rfl, by with_unfolding_all rfl, by with_unfolding_all rfl, by with_unfolding_all rfl, by with_unfolding_all rfl, by with_unfolding_all rfl, by with_unfolding_all rfl, hI, l1, l2, l3, by omega, by omega, by omega, ?_⟩
      rw [ws_next hc l7]
      unfold wsStep
      rw [if_pos (c32 (by assumption))]
    · refine ⟨_, _, _, _, rfl, by k_asm, pick7 (by k_asm), ?_, ?_⟩
      rotate_left
      refine ⟨_, _, _, _, _, _, tS, tT, k0, e0, _, 0, n + 1, nt + 1, rfl, by with_unfolding_all rfl, by with_unfolding_all rfl, by with_unfolding_all rfl, by with_unfolding_all rfl, by with_unfolding_all rfl, by with_unfolding_all rfl, by with_unfolding_all rfl, by assumption, by omega, by omega, ?_, by omega, by omega, by omega, ?_⟩
      · rw [List.length_set, ws_len]; omega
      · rw [ws_next hc l7]
        unfold wsStep
        rw [if_neg (c32n (by assumption))]
        dsimp only
        rw [if_pos (by assumption)]
      · intro p9 hp9
        simp only [List.mem_cons, List.not_mem_nil, or_false] at hp9
        rcases hp9 with e | e | e <;> (rw [e]; (try dsimp only); exact neN (by omega))
    · refine ⟨_, _, _, [(cl, _), _, _], rfl, by k_asm, by k_asm, ?_, ?_⟩
      rotate_left
      refine ⟨cl, _, c0, _, _, _, tS, tT, k0, e0, _, 0, n + 1, nt + 1, rfl, by with_unfolding_all rfl, by with_unfolding_all rfl, by with_unfolding_all rfl, by with_unfolding_all rfl, by with_unfolding_all rfl, by with_unfolding_all rfl, by with_unfolding_all rfl, by assumption, l1, l2, ?_, by omega, by omega, by omega, ?_⟩
      · rw [List.length_set]; exact l3
      · rw [ws_next hc l7]
        unfold wsStep
        rw [if_neg (c32n (by assumption))]
        dsimp only
        rw [if_neg (by omega)]
      · intro p9 hp9
        simp only [List.mem_cons, List.not_mem_nil, or_false] at hp9
        rcases hp9 with e | e | e <;> (rw [e]; (try dsimp only); exact neN (by omega))
    · exfalso
      have hm : c ∈ t.cps.toList := by
        have : t.cps.toList[i]? = some c := by simpa using hc
        exact List.mem_of_getElem? this
      rcases hcs c hm with e | e
      · exact c32n (by assumption) e
      · exact c9n (by assumption) e
  · intro m₁ news₁ h tk hJ F₁ N₁
    obtain ⟨cl, vs, c0, tb, tn, tnt, tS, tT, k0, e0, cnt, b, n, nt, rfl, e1, e2, e3, e4, e5, e6, e7, hI, l1, l2, l3, l4, l5, l6, l7⟩ := hJ
    rw [map_pin e1, map_pin e2, map_pin e3, map_pin e4, map_pin e5, map_pin e6, map_pin e7] at F₁
    have hlc := hI.length
    dsimp only
    k_steps
    dsimp only
    have q8 := pick5 (L := _) (h₀ := g') (by k_asm)
    have q7 := off_new hgk N₀ q8 (.tail _ (.tail _ (.head _))) (List.forall_mem_cons.mpr ⟨neN (by omega), List.forall_mem_cons.mpr ⟨neN (by omega), List.forall_mem_nil _⟩⟩)
    have q6 := off_new hgk N₀ q8 (.tail _ (.tail _ (.tail _ (.head _)))) (List.forall_mem_cons.mpr ⟨neN (by omega), List.forall_mem_cons.mpr ⟨neN (by omega), List.forall_mem_nil _⟩⟩)
    refine leaveK_ (by k_asm) (by k_asm) fun kF kN => fun NN => ?_
    refine ret _ _ _ _ _ _ _ _ _ _ _ _ _ _ _ _ _ cnt b n nt _ _ kF (news_app kN NN) (ltN (by omega)) (ltN (by omega)) (fun q hq => ⟨q7 q hq, q6 q hq⟩) hI ?_ ?_
    · rw [← l7, List.take_of_length_le (by rw [Array.length_toList]; exact Nat.le_refl _)]
    · rw [← hlc]
end


end Mine
end
namespace Mine
theorem freshAtC7 : True := by
  (try (walk1; fail))
  w_top off
  trivial
end Mine
section
open PySem PySem.W PySem.Calls PyProof.Rows
namespace Mine
set_option maxRecDepth 100000
set_option maxHeartbeats 8000000
theorem fillOfC7 : PySem.Challenge.rw_rl0102_01 = PySem.Challenge.rw_rl0102_01 ∧ KK = KK := by
  k_fill
  exact ⟨rfl, rfl⟩
variable {w : World} {dp un : Nat} {fr : Option (List Env)} {gd : Option (List Code)} {s : Shared} {h₀ : Heap} {L : Addr} {m : Str → Option Value} {news : List (Addr × Obj)} {R : Result → Shared → Prop} {p : Program} {loose : List Str} {mean : ExcName → Option Value} {mg mb : Str → Option Value}

def indF (ns : List Int) (b nt ts : Int) : Int := b + ts * ((rangeKs ts ((ns.length : Int) - ts).toNat).foldl (fun a k => a + Int.fdiv k ts * ns.getD k.toNat 0) 0 + nt)
theorem getD_bd {ns : List Int} (h : ∀ c ∈ ns, 0 ≤ c ∧ c ≤ 60) (i : Nat) : 0 ≤ ns.getD i 0 ∧ ns.getD i 0 ≤ 60 := by
  rw [List.getD_eq_getElem?_getD]
  cases q : ns[i]? with
  | none => simp
  | some v => simpa using h v (List.mem_of_getElem? q)
theorem fdiv_bd {k ts : Int} (h0 : 0 ≤ k) (h1 : 1 ≤ ts) : 0 ≤ Int.fdiv k ts ∧ Int.fdiv k ts ≤ k := by
  rw [Int.fdiv_eq_ediv_of_nonneg _ (by omega)]
  exact ⟨Int.ediv_nonneg h0 (by omega), Int.ediv_le_self _ h0⟩
theorem range_size {a : Int} {n : Nat} : Builtin.Range.rangeSize a n 1 = ((((n : Int) - a).toNat : Nat) : Int) := by
  rw [rangeSize_one]
  split <;> omega
theorem range_small {a : Int} {n : Nat} (h1 : 1 ≤ a) (h2 : a ≤ 10) (h3 : n ≤ 61) : Builtin.Range.small a n 1 = true := by
  exact small_one (by omega) (by omega) (by omega) (by omega)
section
local macro_rules | `(tactic| walk_at "call builtin:len") => `(tactic| (k_here; (with_reducible show wpAny _ _ (call (Value.builtin "len") [Value.ref _]) _ _ _); (refine PyProof.Rows.len_tuple (News.isTup (by k_asm) (by k_mem)) (by simp only [List.size_toArray]; omega) ?_); (try simp only [List.size_toArray, *])))
local macro_rules | `(tactic| walk_at "pyIter ref") => `(tactic| (refine hold ?_))

theorem c_indent (F : Fr h₀ L s.heap m) (N : News h₀ L s.heap news) (X : (KK w.params).In h₀) (T : Top p loose mean mg mb h₀) (hdep : dp + 4 < recursionLimit) (hun : un + 40 < cLine)
    {x dx nm ct : Addr} {e0 e1 e2 e3 e4 : Int} {k0 k1 k2 k3 k4 : Tok} {raw : Value} {n nt : Int} {tn tnt tb : Tok} {sb : Bool} {b : Int} {vs : List Value} {ns : List Int}
    (hx : (x, instObj 83 dx) ∈ news) (hdx : (dx, wsDict e0 e1 e2 e3 e4 k0 k1 k2 k3 k4 raw n nt tn tnt nm sb) ∈ news)
    (hnm : (nm, tupOf #[.ref ct, .int b tb] 0) ∈ news) (hct : (ct, tupOf (List.toArray vs) 0) ∈ news) (hvs : IntsAre vs ns) (hfit : ns.length ≤ 61) {ts : Int} {tt : Tok} (hts : 1 ≤ ts ∧ ts ≤ 10) (hbd : ∀ c ∈ ns, 0 ≤ c ∧ c ≤ 60)
    (ret : ∀ t' h' tk', Fr h₀ L h' m → News h₀ L h' news → R (.ok (.ret (.int (indF ns b nt ts) t'))) { s with heap := h', toks := tk' }) :
    codeAny (model prg w) (mkA dp un fr gd) (.call (.ref 52) ⟨[.ref x, .int ts tt], []⟩) R s := by
  refine' enter1 (K := KK w.params) [(x, instObj 83 dx), (dx, wsDict e0 e1 e2 e3 e4 k0 k1 k2 k3 k4 raw n nt tn tnt nm sb), (nm, tupOf #[.ref ct, .int b tb] 0), (ct, tupOf (List.toArray vs) 0)] ?kn F N X T ?k6 ?k7 ?kr ?k9 ?kB ?_ ?c2 ?c3 ?c4 ?c5
  case kn => exact List.forall_mem_cons.mpr ⟨hx, List.forall_mem_cons.mpr ⟨hdx, List.forall_mem_cons.mpr ⟨hnm, List.forall_mem_cons.mpr ⟨hct, List.forall_mem_nil _⟩⟩⟩⟩
  case k6 => k_is
  case k7 => k_is
  case kr => (show dp < recursionLimit; omega)
  case k9 => exact BindsTo.of_eq rfl
  case c5 => decide
  case kB => exact locs rfl
  case c2 => exact rfl
  case c3 => exact rfl
  case c4 => exact rfl
  k_whole
  intro g' L' h' F' N' X' T' hlt hltA hgk
  have hlt' := allLt_of hlt
  simp only [AllLt] at hlt'
  clear hlt F N X T
  (try dsimp only)
  (try k_fold)
  have hlv := hvs.length
  k_steps
  unfold Hold
  refine iterRange_acc1 (y := Str.ofString "il") (g := fun a k => a + Int.fdiv k ts * ns.getD k.toNat 0) (n := ((ns.length : Int) - ts).toNat) rfl (by assumption) ?_ ?_ (by k_asm) (by k_asm) (by with_unfolding_all rfl) ?_ ?_
  · exact range_small hts.1 hts.2 (by omega)
  · exact range_size
  · intro k t a ta h tk own q1 q2 hoff F₁ N₁
    have b1 := getD_bd hbd k.toNat
    have b2 := fdiv_bd (k := k) (ts := ts) (by omega) (by omega)
    k_steps
  · intro u t h tk F₁ N₁
    dsimp only
    k_steps
    dsimp only
    refine leaveK_ (by k_asm) (by k_asm) fun kF kN => back_intro (back_sub kN (fun p hp => hp)) fun NN => ?_
    exact ret _ _ _ kF NN
end


end Mine
end
namespace Mine
theorem freshAtC8 : True := by
  (try (walk1; fail))
  w_top off
  trivial
end Mine
section
open PySem PySem.W PySem.Calls PyProof.Rows
namespace Mine
set_option maxRecDepth 100000
set_option maxHeartbeats 8000000
theorem fillOfC8 : PySem.Challenge.rw_rl0102_01 = PySem.Challenge.rw_rl0102_01 ∧ KK = KK := by
  k_fill
  exact ⟨rfl, rfl⟩
variable {w : World} {dp un : Nat} {fr : Option (List Env)} {gd : Option (List Code)} {s : Shared} {h₀ : Heap} {L : Addr} {m : Str → Option Value} {news : List (Addr × Obj)} {R : Result → Shared → Prop} {p : Program} {loose : List Str} {mean : ExcName → Option Value} {mg mb : Str → Option Value}

theorem norm_reads {h₀ h : Heap} {L nm ct : Addr} {news : List (Addr × Obj)} {vs : List Value} {ns : List Int} {b : Int} {tb : Tok} (N : News h₀ L h news) (hnm : (nm, tupOf #[.ref ct, .int b tb] 0) ∈ news) (hct : (ct, tupOf (List.toArray vs) 0) ∈ news) (hvs : IntsAre vs ns) :
    Reads h (.ref nm) (.tuple [.tuple (ns.map PyData.int), .int b]) [] :=
  reads_tuple_at (as := []) (N.get hnm) rfl rfl (ReadsAll.cons (as := []) (bs := []) (reads_newDataT (News.isTup N hct) (ke_carried hvs)) (ReadsAll.cons (as := []) (bs := []) (Reads.int _ _) ReadsAll.nil))
theorem norm_shaped (ns : List Int) (b : Int) : SeqAt.shaped (.tuple [.tuple (ns.map PyData.int), .int b]) = true := by
  simp [SeqAt.shaped, PyData.canLay0, PyData.canLayAll0, PyData.depth, PyData.depthAll, ke_canLayAll0, ke_depthAll]
theorem norm_eqv (ns ns' : List Int) (b b' : Int) : PyData.eqv (.tuple [.tuple (ns.map PyData.int), .int b]) (.tuple [.tuple (ns'.map PyData.int), .int b']) = decide (ns = ns' ∧ b = b') := by
  simp only [PyData.eqv, PyData.eqvAll, ked_eqvAll]
  by_cases h : ns = ns' <;> by_cases h' : b = b' <;> simp [h, h']
section
local macro_rules | `(tactic| walk_at "compareOp Eq ref ref") => `(tactic| (refine hold ?_))

theorem c_equal (F : Fr h₀ L s.heap m) (N : News h₀ L s.heap news) (X : (KK w.params).In h₀) (T : Top p loose mean mg mb h₀) (hdep : dp + 4 < recursionLimit) (hun : un + 100 < cLine)
    {x dx nm ct : Addr} {e0 e1 e2 e3 e4 : Int} {k0 k1 k2 k3 k4 : Tok} {raw : Value} {n nt : Int} {tn tnt tb : Tok} {sb : Bool} {b : Int} {vs : List Value} {ns : List Int}
    (hx : (x, instObj 83 dx) ∈ news) (hdx : (dx, wsDict e0 e1 e2 e3 e4 k0 k1 k2 k3 k4 raw n nt tn tnt nm sb) ∈ news)
    (hnm : (nm, tupOf #[.ref ct, .int b tb] 0) ∈ news) (hct : (ct, tupOf (List.toArray vs) 0) ∈ news) (hvs : IntsAre vs ns) (hfit : ns.length ≤ 61){x' dx' nm' ct' : Addr} {e0' e1' e2' e3' e4' : Int} {k0' k1' k2' k3' k4' : Tok} {raw' : Value} {n' nt' : Int} {tn' tnt' tb' : Tok} {sb' : Bool} {b' : Int} {vs' : List Value} {ns' : List Int}
    (hx' : (x', instObj 83 dx') ∈ news) (hdx' : (dx', wsDict e0' e1' e2' e3' e4' k0' k1' k2' k3' k4' raw' n' nt' tn' tnt' nm' sb') ∈ news)
    (hnm' : (nm', tupOf #[.ref ct', .int b' tb'] 0) ∈ news) (hct' : (ct', tupOf (List.toArray vs') 0) ∈ news) (hvs' : IntsAre vs' ns') (hfit' : ns'.length ≤ 61)
    (ret : ∀ h' tk', Fr h₀ L h' m → News h₀ L h' news → R (.ok (.ret (.bool (decide (ns = ns' ∧ b = b'))))) { s with heap := h', toks := tk' }) :
    codeAny (model prg w) (mkA dp un fr gd) (.call (.ref 59) ⟨[.ref x, .ref x'], []⟩) R s := by
  refine' enter1 (K := KK w.params) [(x, instObj 83 dx), (dx, wsDict e0 e1 e2 e3 e4 k0 k1 k2 k3 k4 raw n nt tn tnt nm sb), (nm, tupOf #[.ref ct, .int b tb] 0), (ct, tupOf (List.toArray vs) 0), (x', instObj 83 dx'), (dx', wsDict e0' e1' e2' e3' e4' k0' k1' k2' k3' k4' raw' n' nt' tn' tnt' nm' sb'), (nm', tupOf #[.ref ct', .int b' tb'] 0), (ct', tupOf (List.toArray vs') 0)] ?kn F N X T ?k6 ?k7 ?kr ?k9 ?kB ?_ ?c2 ?c3 ?c4 ?c5
  case kn => exact List.forall_mem_cons.mpr ⟨hx, List.forall_mem_cons.mpr ⟨hdx, List.forall_mem_cons.mpr ⟨hnm, List.forall_mem_cons.mpr ⟨hct, List.forall_mem_cons.mpr ⟨hx', List.forall_mem_cons.mpr ⟨hdx', List.forall_mem_cons.mpr ⟨hnm', List.forall_mem_cons.mpr ⟨hct', List.forall_mem_nil _⟩⟩⟩⟩⟩⟩⟩⟩
  case k6 => k_is
  case k7 => k_is
  case kr => (show dp < recursionLimit; omega)
  case k9 => exact BindsTo.of_eq rfl
  case c5 => decide
  case kB => exact locs rfl
  case c2 => exact rfl
  case c3 => exact rfl
  case c4 => exact rfl
  k_whole
  intro g' L' h' F' N' X' T' hlt hltA hgk
  have hlt' := allLt_of hlt
  simp only [AllLt] at hlt'
  clear hlt F N X T
  (try dsimp only)
  (try k_fold)
  k_steps
  unfold Hold
  refine eq_dataH (norm_reads (ct := ct) (by k_asm) (by k_mem) (by k_mem) hvs) (norm_reads (ct := ct') (by k_asm) (by k_mem) (by k_mem) hvs') (norm_shaped _ _) (norm_shaped _ _) (by show un + 3 + 64 < cLine; omega) ?_
  rw [norm_eqv]
  dsimp only
  refine leaveK_ (by k_asm) (by k_asm) fun kF kN => back_intro (back_sub kN (fun p hp => hp)) fun NN => ?_
  exact ret _ _ kF NN
end


end Mine
end
namespace Mine
theorem freshAtC6 : True := by
  (try (walk1; fail))
  w_top off
  trivial
end Mine
section
open PySem PySem.W PySem.Calls PyProof.Rows
namespace Mine
set_option maxRecDepth 100000
set_option maxHeartbeats 8000000
theorem fillOfC6 : PySem.Challenge.rw_rl0102_01 = PySem.Challenge.rw_rl0102_01 ∧ KK = KK := by
  k_fill
  exact ⟨rfl, rfl⟩
variable {w : World} {dp un : Nat} {fr : Option (List Env)} {gd : Option (List Code)} {s : Shared} {h₀ : Heap} {L : Addr} {m : Str → Option Value} {news : List (Addr × Obj)} {R : Result → Shared → Prop} {p : Program} {loose : List Str} {mean : ExcName → Option Value} {mg mb : Str → Option Value}

def lrF (ns : List Int) (b : Int) : Int := if b > (ns.length : Int) - 1 then b else (ns.length : Int) - 1
theorem lrF_bd {ns : List Int} {b : Int} (h1 : ns.length ≤ 9) (h2 : 0 ≤ b ∧ b ≤ 8) : 0 ≤ lrF ns b ∧ lrF ns b ≤ 8 := by
  unfold lrF; split <;> omega
section
local macro_rules | `(tactic| walk_at "call builtin:len") => `(tactic| (k_here; (with_reducible show wpAny _ _ (call (Value.builtin "len") [Value.ref _]) _ _ _); (refine PyProof.Rows.len_tuple (News.isTup (by k_asm) (by k_mem)) (by simp only [List.size_toArray]; omega) ?_); (try simp only [List.size_toArray, *])))

theorem c_longest (F : Fr h₀ L s.heap m) (N : News h₀ L s.heap news) (X : (KK w.params).In h₀) (T : Top p loose mean mg mb h₀) (hdep : dp + 4 < recursionLimit) (hun : un + 40 < cLine)
    {x dx nm ct : Addr} {e0 e1 e2 e3 e4 : Int} {k0 k1 k2 k3 k4 : Tok} {raw : Value} {n nt : Int} {tn tnt tb : Tok} {sb : Bool} {b : Int} {vs : List Value} {ns : List Int}
    (hx : (x, instObj 83 dx) ∈ news) (hdx : (dx, wsDict e0 e1 e2 e3 e4 k0 k1 k2 k3 k4 raw n nt tn tnt nm sb) ∈ news)
    (hnm : (nm, tupOf #[.ref ct, .int b tb] 0) ∈ news) (hct : (ct, tupOf (List.toArray vs) 0) ∈ news) (hvs : IntsAre vs ns) (hfit : ns.length ≤ 61)
    (ret : ∀ t' h' tk', Fr h₀ L h' m → News h₀ L h' news → R (.ok (.ret (.int (lrF ns b) t'))) { s with heap := h', toks := tk' }) :
    codeAny (model prg w) (mkA dp un fr gd) (.call (.ref 45) ⟨[.ref x], []⟩) R s := by
  refine' enter1 (K := KK w.params) [(x, instObj 83 dx), (dx, wsDict e0 e1 e2 e3 e4 k0 k1 k2 k3 k4 raw n nt tn tnt nm sb), (nm, tupOf #[.ref ct, .int b tb] 0), (ct, tupOf (List.toArray vs) 0)] ?kn F N X T ?k6 ?k7 ?kr ?k9 ?kB ?_ ?c2 ?c3 ?c4 ?c5
  case kn => exact List.forall_mem_cons.mpr ⟨hx, List.forall_mem_cons.mpr ⟨hdx, List.forall_mem_cons.mpr ⟨hnm, List.forall_mem_cons.mpr ⟨hct, List.forall_mem_nil _⟩⟩⟩⟩
  case k6 => k_is
  case k7 => k_is
  case kr => (show dp < recursionLimit; omega)
  case k9 => exact BindsTo.of_eq rfl
  case c5 => decide
  case kB => exact locs rfl
  case c2 => exact rfl
  case c3 => exact rfl
  case c4 => exact rfl
  k_whole
  intro g' L' h' F' N' X' T' hlt hltA hgk
  have hlt' := allLt_of hlt
  simp only [AllLt] at hlt'
  clear hlt F N X T
  (try dsimp only)
  (try k_fold)
  have hlv := hvs.length
  k_steps
  dsimp only
  refine leaveK_ (by k_asm) (by k_asm) fun kF kN => back_intro (back_sub kN (fun p hp => hp)) fun NN => ?_
  have e : lrF ns b = if b > ((List.toArray vs).size : Int) - 1 then b else ((List.toArray vs).size : Int) - 1 := by simp only [lrF, List.size_toArray, hlv]
  first | exact ret _ _ _ kF NN | (rw [e] at ret; exact ret _ _ _ kF NN)
end


end Mine
end
namespace Mine
theorem freshAtC9 : True := by
  (try (walk1; fail))
  w_top off
  trivial
end Mine
section
open PySem PySem.W PySem.Calls PyProof.Rows
namespace Mine
set_option maxRecDepth 100000
set_option maxHeartbeats 8000000
theorem fillOfC9 : PySem.Challenge.rw_rl0102_01 = PySem.Challenge.rw_rl0102_01 ∧ KK = KK := by
  k_fill
  exact ⟨rfl, rfl⟩
variable {w : World} {dp un : Nat} {fr : Option (List Env)} {gd : Option (List Code)} {s : Shared} {h₀ : Heap} {L : Addr} {m : Str → Option Value} {news : List (Addr × Obj)} {R : Result → Shared → Prop} {p : Program} {loose : List Str} {mean : ExcName → Option Value} {mg mb : Str → Option Value}

def lessF (ns : List Int) (b n nt : Int) (sb : Bool) (ns' : List Int) (b' n' nt' : Int) (sb' : Bool) : Bool :=
  if n' ≤ n then false else if (sb && sb') = true then decide (nt ≤ nt') else
    (rangeKs 2 ((if lrF ns' b' > lrF ns b then lrF ns' b' else lrF ns b).toNat)).all fun k => decide (indF ns b nt k < indF ns' b' nt' k)
def JL (x x' : Addr) (news0 : List (Addr × Obj)) (P : Int → Prop) (i : Nat) (m₁ : Str → Option Value) (news₁ : List (Addr × Obj)) : Prop :=
  news₁ = news0 ∧ m₁ (Str.ofString "self") = some (.ref x) ∧ m₁ (Str.ofString "other") = some (.ref x') ∧ ∀ k : Nat, k < i → P (2 + (k : Int))
theorem range_size2 {M : Int} (h : 0 ≤ M) : Builtin.Range.rangeSize 2 (M + 1 + 1) 1 = ((M.toNat : Nat) : Int) := by
  rw [rangeSize_one]
  split <;> omega
section
variable {ns ns' : List Int} {b n nt b' n' nt' : Int} {sb sb' : Bool}
theorem less_1 (h : n' ≤ n) : lessF ns b n nt sb ns' b' n' nt' sb' = false := by unfold lessF; rw [if_pos h]
theorem less_2 (h : ¬ n' ≤ n) (h1 : sb = true) (h2 : sb' = true) : lessF ns b n nt sb ns' b' n' nt' sb' = decide (nt ≤ nt') := by
  unfold lessF; rw [if_neg h, if_pos (by rw [h1, h2]; rfl)]
theorem less_3 {k : Nat} (h : ¬ n' ≤ n) (hs : (sb && sb') = false) (hk : k < (if lrF ns' b' > lrF ns b then lrF ns' b' else lrF ns b).toNat) (hge : indF ns' b' nt' (2 + (k : Int)) ≤ indF ns b nt (2 + (k : Int))) :
    lessF ns b n nt sb ns' b' n' nt' sb' = false := by
  unfold lessF
  rw [if_neg h, if_neg (by rw [hs]; exact Bool.false_ne_true)]
  refine List.all_eq_false.mpr ⟨2 + (k : Int), List.mem_map.mpr ⟨k, List.mem_range.mpr hk, rfl⟩, ?_⟩
  simp only [decide_eq_true_eq]
  omega
theorem less_4 (h : ¬ n' ≤ n) (hs : (sb && sb') = false) (hP : ∀ k : Nat, k < (if lrF ns' b' > lrF ns b then lrF ns' b' else lrF ns b).toNat → indF ns b nt (2 + (k : Int)) < indF ns' b' nt' (2 + (k : Int))) :
    lessF ns b n nt sb ns' b' n' nt' sb' = true := by
  unfold lessF
  rw [if_neg h, if_neg (by rw [hs]; exact Bool.false_ne_true)]
  refine List.all_eq_true.mpr fun q hq => ?_
  obtain ⟨k, hk, rfl⟩ := List.mem_map.mp hq
  exact decide_eq_true (hP k (List.mem_range.mp hk))
end
section
local macro_rules | `(tactic| walk_at "pyIter ref") => `(tactic| (refine hold ?_))
local macro_rules | `(tactic| walk_at "call ref") => `(tactic| (k_here; (with_reducible show wpAny _ _ (call (Value.ref 45) _) _ _ _); (refine' wpAny_call (c_longest (by k_asm) (by k_asm) (by k_asm) (by k_asm) ?kd ?ku ?k1 ?k2 ?k3 ?k4 ?k5 ?k6 ?_)); (case kd => (dsimp only [mkA, Around.deeper]; omega)); (case ku => (dsimp only [mkA, Around.deeper]; omega)); (case k1 => k_mem); (case k2 => k_mem); (case k3 => k_mem); (case k4 => k_mem); (case k5 => assumption); (case k6 => omega); (intro t' h' tk' F' N'); (try dsimp only)))
local macro_rules | `(tactic| walk_at "call ref") => `(tactic| (k_here; (with_reducible show wpAny _ _ (call (Value.ref 52) _) _ _ _); (refine' wpAny_call (c_indent (by k_asm) (by k_asm) (by k_asm) (by k_asm) ?kd ?ku ?k1 ?k2 ?k3 ?k4 ?k5 ?k6 ?k7 ?k8 ?_)); (case kd => (dsimp only [mkA, Around.deeper]; omega)); (case ku => (dsimp only [mkA, Around.deeper]; omega)); (case k1 => k_mem); (case k2 => k_mem); (case k3 => k_mem); (case k4 => k_mem); (case k5 => assumption); (case k6 => omega); (case k7 => omega); (case k8 => assumption); (intro t' h' tk' F' N'); (try dsimp only)))

theorem c_less (F : Fr h₀ L s.heap m) (N : News h₀ L s.heap news) (X : (KK w.params).In h₀) (T : Top p loose mean mg mb h₀) (hdep : dp + 8 < recursionLimit) (hun : un + 60 < cLine)
    {x dx nm ct : Addr} {e0 e1 e2 e3 e4 : Int} {k0 k1 k2 k3 k4 : Tok} {raw : Value} {n nt : Int} {tn tnt tb : Tok} {sb : Bool} {b : Int} {vs : List Value} {ns : List Int}
    (hx : (x, instObj 83 dx) ∈ news) (hdx : (dx, wsDict e0 e1 e2 e3 e4 k0 k1 k2 k3 k4 raw n nt tn tnt nm sb) ∈ news)
    (hnm : (nm, tupOf #[.ref ct, .int b tb] 0) ∈ news) (hct : (ct, tupOf (List.toArray vs) 0) ∈ news) (hvs : IntsAre vs ns) (hfit : ns.length ≤ 61){x' dx' nm' ct' : Addr} {e0' e1' e2' e3' e4' : Int} {k0' k1' k2' k3' k4' : Tok} {raw' : Value} {n' nt' : Int} {tn' tnt' tb' : Tok} {sb' : Bool} {b' : Int} {vs' : List Value} {ns' : List Int}
    (hx' : (x', instObj 83 dx') ∈ news) (hdx' : (dx', wsDict e0' e1' e2' e3' e4' k0' k1' k2' k3' k4' raw' n' nt' tn' tnt' nm' sb') ∈ news)
    (hnm' : (nm', tupOf #[.ref ct', .int b' tb'] 0) ∈ news) (hct' : (ct', tupOf (List.toArray vs') 0) ∈ news) (hvs' : IntsAre vs' ns') (hfit' : ns'.length ≤ 61) (hl : ns.length ≤ 9) (hl' : ns'.length ≤ 9) (hb : 0 ≤ b ∧ b ≤ 8) (hb' : 0 ≤ b' ∧ b' ≤ 8) (hbd : ∀ c ∈ ns, 0 ≤ c ∧ c ≤ 60) (hbd' : ∀ c ∈ ns', 0 ≤ c ∧ c ≤ 60)
    (ret : ∀ h' tk', Fr h₀ L h' m → News h₀ L h' news → R (.ok (.ret (.bool (lessF ns b n nt sb ns' b' n' nt' sb')))) { s with heap := h', toks := tk' }) :
    codeAny (model prg w) (mkA dp un fr gd) (.call (.ref 73) ⟨[.ref x, .ref x'], []⟩) R s := by
  refine' enter1 (K := KK w.params) [(x, instObj 83 dx), (dx, wsDict e0 e1 e2 e3 e4 k0 k1 k2 k3 k4 raw n nt tn tnt nm sb), (nm, tupOf #[.ref ct, .int b tb] 0), (ct, tupOf (List.toArray vs) 0), (x', instObj 83 dx'), (dx', wsDict e0' e1' e2' e3' e4' k0' k1' k2' k3' k4' raw' n' nt' tn' tnt' nm' sb'), (nm', tupOf #[.ref ct', .int b' tb'] 0), (ct', tupOf (List.toArray vs') 0)] ?kn F N X T ?k6 ?k7 ?kr ?k9 ?kB ?_ ?c2 ?c3 ?c4 ?c5
  case kn => exact List.forall_mem_cons.mpr ⟨hx, List.forall_mem_cons.mpr ⟨hdx, List.forall_mem_cons.mpr ⟨hnm, List.forall_mem_cons.mpr ⟨hct, List.forall_mem_cons.mpr ⟨hx', List.forall_mem_cons.mpr ⟨hdx', List.forall_mem_cons.mpr ⟨hnm', List.forall_mem_cons.mpr ⟨hct', List.forall_mem_nil _⟩⟩⟩⟩⟩⟩⟩⟩
  case k6 => k_is
  case k7 => k_is
  case kr => (show dp < recursionLimit; omega)
  case k9 => exact BindsTo.of_eq rfl
  case c5 => decide
  case kB => exact locs rfl
  case c2 => exact rfl
  case c3 => exact rfl
  case c4 => exact rfl
  k_whole
  intro g' L' h' F' N' X' T' hlt hltA hgk
  have hlt' := allLt_of hlt
  simp only [AllLt] at hlt'
  clear hlt F N X T
  (try dsimp only)
  (try k_fold)
  have r1 := lrF_bd hl hb
  have r2 := lrF_bd hl' hb'
  k_steps
  · dsimp only
    refine leaveK_ (by k_asm) (by k_asm) fun kF kN => back_intro (back_sub kN (fun p hp => hp)) fun NN => ?_
    rw [less_1 (by assumption)] at ret
    exact ret _ _ kF NN
  · dsimp only
    refine leaveK_ (by k_asm) (by k_asm) fun kF kN => back_intro (back_sub kN (fun p hp => hp)) fun NN => ?_
    rw [less_2 (by assumption) (by assumption) (by assumption)] at ret
    exact ret _ _ kF NN
  all_goals
    have hss : (sb && sb') = false := by simp only [*, Bool.and_false, Bool.false_and, Bool.and_true, Bool.true_and]
    unfold Hold
    obtain ⟨M, hM⟩ : ∃ M, M = (if lrF ns' b' > lrF ns b then lrF ns' b' else lrF ns b) := ⟨_, rfl⟩
    have hMb : 0 ≤ M ∧ M ≤ 8 := by rw [hM]; split <;> omega
    refine range_loop (n := M.toNat) (J := JL x x' [(x, instObj 83 dx), (dx, wsDict e0 e1 e2 e3 e4 k0 k1 k2 k3 k4 raw n nt tn tnt nm sb), (nm, tupOf #[.ref ct, .int b tb] 0), (ct, tupOf (List.toArray vs) 0), (x', instObj 83 dx'), (dx', wsDict e0' e1' e2' e3' e4' k0' k1' k2' k3' k4' raw' n' nt' tn' tnt' nm' sb'), (nm', tupOf #[.ref ct', .int b' tb'] 0), (ct', tupOf (List.toArray vs') 0)] (fun k => indF ns b nt k < indF ns' b' nt' k)) rfl (by assumption) ?_ ?_ (by k_asm) (by k_asm) ?_ ?_ ?_
    · rw [← hM]; exact small_one (by omega) (by omega) (by omega) (by omega)
    · rw [← hM]; exact range_size2 (by omega)
    · exact ⟨rfl, by with_unfolding_all rfl, by with_unfolding_all rfl, fun k hk => absurd hk (Nat.not_lt_zero _)⟩
    · intro I i t m₁ news₁ h tk o hltI hi hJ hoff F₁ N₁
      obtain ⟨rfl, e1, e2, hP⟩ := hJ
      rw [map_pin e1, map_pin e2] at F₁
      k_steps
      · dsimp only [Step1]
        refine leaveK_ (by k_asm) (by k_asm) fun kF kN => back_intro (back_sub kN (fun p hp => .tail _ hp)) fun NN => ?_
        rw [less_3 (by assumption) hss (by rw [← hM]; exact hi) (by assumption)] at ret
        exact ret _ _ kF NN
      · refine ⟨_, _, _, _, rfl, by k_asm, by k_asm, hoff, rfl, by with_unfolding_all rfl, by with_unfolding_all rfl, fun k hk => ?_⟩
        rcases Nat.lt_succ_iff_lt_or_eq.mp hk with q | q
        · exact hP k q
        · subst q; omega
    · intro m₁ news₁ h tk hJ F₁ N₁
      obtain ⟨rfl, e1, e2, hP⟩ := hJ
      dsimp only
      k_steps
      dsimp only
      refine leaveK_ (by k_asm) (by k_asm) fun kF kN => back_intro (back_sub kN (fun p hp => hp)) fun NN => ?_
      rw [less_4 (by assumption) hss (by rw [← hM]; exact hP)] at ret
      exact ret _ _ kF NN
end


end Mine
end
namespace Mine
theorem freshAtKeys : True := by
  (try (walk1; fail))
  w_top off
  trivial
end Mine
section
open PySem PySem.W PySem.Calls PyProof.Rows
namespace Mine
set_option maxRecDepth 100000
set_option maxHeartbeats 8000000
def Keeps (h h' : Heap) : Prop := ∀ b o, h.get? b = some o → h'.get? b = some o
theorem Keeps.refl (h : Heap) : Keeps h h := fun _ _ e => e
theorem Keeps.trans {a b c : Heap} (x : Keeps a b) (y : Keeps b c) : Keeps a c := fun p o e => y p o (x p o e)
def Has (P : Addr → Obj → Prop) (h : Heap) : Prop := ∀ b o, P b o → h.get? b = some o
theorem Has.keeps {P : Addr → Obj → Prop} {h h' : Heap} (x : Has P h) (k : Keeps h h') : Has P h' := fun b o e => k b o (x b o e)

section
variable {prog : Program} {w : World} {A : Around} {s : Shared} {B : Heap} {K : Frag} {need : List (Addr × Obj)}
  {R : Result → Shared → Prop} {name qual : Str} {params : Arguments} {body : List Stmt} {scope : Scope} {dV kV doc pm cdv ct oc : Value} {an od : Option Addr} {osl : Array (Option Value)} {f : Addr} {args : Args} {binds : List (Str × Value)}
  {p : Program} {loose : List Str} {mean : ExcName → Option Value} {mg mb : Str → Option Value}

/-- a def is entered; the needed objects are its ledger, all else lies in its base -/
theorem enterK (B : Heap) (need : List (Addr × Obj)) (hB : Keeps B s.heap) (X₀ : K.In B) (T : Top p loose mean mg mb B) (hn : ∀ p ∈ need, s.heap.get? p.1 = some p.2 ∧ B.get? p.1 = none)
    (ho : K.lookup f = some ⟨oc, od, .func (fnOf name qual params body scope dV kV doc pm an cdv ct), osl⟩) (hcd : codeIn K cdv qual = true) (hroom : A.depth < recursionLimit)
    (hbind : BindsTo s (fnOf name qual params body scope dV kV doc pm an cdv ct) args binds) (hloc : ∀ y ∈ binds, scope.names.lookup y.1 = some .local)
    (h : ∀ g L' h₁, Fr g L' h₁ (fun y => binds.reverse.lookup y) → News g L' h₁ need → K.In g → Top p loose mean mg mb g → (∀ p ∈ need, p.1 < L') → (∀ b o, s.heap.get? b = some o → b ∉ need.map (·.1) → g.get? b = some o) →
      wpAny (model prog w) (A.deeper (envOf qual scope L' f cdv)) (execs body (envOf qual scope L' f cdv))
        (fun fl s' => R (.ok (.ret (match fl with | .ret v => v | _ => .none))) s') (fun _ _ => False)
        { s with heap := h₁, toks := s.toks + binds.length })
    (hco : scope.isCoroutine = false) (hgen : scope.isGenerator = false) (hk : scope.kind = .function)
    (hcell : ∀ x ∈ scope.names, x.2 ≠ .cell) : codeAny (model prog w) A (.call (.ref f) args) R s := by
  have nm : ∀ b o, B.get? b = some o → b ∉ need.map (·.1) := fun b o e q => by
    obtain ⟨p, hp, rfl⟩ := List.mem_map.mp q
    rw [(hn p hp).2] at e; cases e
  have st : Keeps B (hideAll s.heap (need.map (·.1))) := fun b o e => hideAll_get _ (hB b o e) (nm b o e)
  refine codeAny_call_def (fd := fnOf name qual params body scope dV kV doc pm an cdv ct) (body := body) (binds := binds) hroom ((X₀.keeps hB) _ _ ho) rfl (T.nolimit.keeps hB) (codeRec_of (X₀.keeps hB) hcd) rfl hbind hcell hloc (fun h₁ hns hk₁ => ?_) hco hgen hk
  exact wpAny_mono (h _ s.heap.objs.size h₁ ⟨hns, fun b o e => hk₁ b o (of_hideAll _ e), Nat.le_of_eq (hideAll_size _ _)⟩
    (fun p hp => ⟨hk₁ _ _ (hn p hp).1, Nat.ne_of_lt (Heap.lt_size (hn p hp).1), hideAll_none _ (List.mem_map_of_mem hp)⟩) (X₀.keeps st) (T.keeps st) (fun p hp => Heap.lt_size (hn p hp).1) (fun b o e hb => hideAll_get _ e hb)) (fun _ _ x => x) fun _ _ y => y.elim
end

theorem keeps_of {h g h' : Heap} {L' : Addr} {m' : Str → Option Value} {need news' : List (Addr × Obj)} (hgk : ∀ b o, h.get? b = some o → b ∉ need.map (·.1) → g.get? b = some o) (hn : ∀ p ∈ need, h.get? p.1 = some p.2)
    (F' : Fr g L' h' m') (N' : News g L' h' news') (hs : ∀ p ∈ need, p ∈ news') : Keeps h h' := fun b o e => by
  by_cases q : b ∈ need.map (·.1)
  · obtain ⟨p, hp, rfl⟩ := List.mem_map.mp q
    have e1 := (N' p (hs p hp)).1
    rw [hn p hp] at e
    rw [e1]; exact e
  · exact F'.keep b o (hgk b o e q)

/-- a callable that answers f k for 0 ≤ k < 3 and only adds objects -/
def KeyOn (w : World) (P : Addr → Obj → Prop) (q : Addr) (f : Int → Int) : Prop :=
  ∀ (dp un : Nat) (fr : Option (List Env)) (gd : Option (List Code)) (s : Shared) (Q : Value → Shared → Prop) (E : Value → Shared → Prop) (k : Int) (tk : Tok), Has P s.heap → 0 ≤ k → k < 3 → dp + 10 < recursionLimit → un + 100 < cLine →
    (∀ t' h' tk', Keeps s.heap h' → Q (.int (f k) t') { s with heap := h', toks := tk' }) → wpAny (model prg w) (mkA dp un fr gd) (call (.ref q) [.int k tk]) Q E s
theorem KeyOn.useK {w : World} {P : Addr → Obj → Prop} {q : Addr} {f : Int → Int} {dp un : Nat} {fr : Option (List Env)} {gd : Option (List Code)} {s : Shared} {Q : Value → Shared → Prop} {E : Value → Shared → Prop} {k : Int} {tk : Tok} {g : Heap} {L : Addr} {m : Str → Option Value} {news : List (Addr × Obj)}
    (hq : KeyOn w P q f) (hP : Has P g) (F : Fr g L s.heap m) (N : News g L s.heap news) (h0 : 0 ≤ k) (h3 : k < 3) (hd : dp + 10 < recursionLimit) (hu : un + 100 < cLine)
    (ret : ∀ t' h' tk', Fr g L h' m → News g L h' news → Q (.int (f k) t') { s with heap := h', toks := tk' }) : wpAny (model prg w) (mkA dp un fr gd) (call (.ref q) [.int k tk]) Q E s :=
  hq dp un fr gd s Q E k tk (hP.keeps F.keep) h0 h3 hd hu fun t' h' tk' kp => ret t' h' tk' (F.keeps kp) fun p hp => ⟨kp _ _ (N p hp).1, (N p hp).2⟩
end Mine
end
namespace Mine
theorem freshAtB1 : True := by
  (try (walk1; fail))
  w_top off
  trivial
end Mine
section
open PySem PySem.W PySem.Calls PyProof.Rows
namespace Mine
set_option maxRecDepth 100000
set_option maxHeartbeats 8000000
theorem fillOfB1 : PySem.Challenge.rw_rl0102_01 = PySem.Challenge.rw_rl0102_01 ∧ KK = KK := by
  k_fill
  exact ⟨rfl, rfl⟩
variable {w : World} {dp un : Nat} {fr : Option (List Env)} {gd : Option (List Code)} {s : Shared} {B : Heap} {R : Result → Shared → Prop} {p : Program} {loose : List Str} {mean : ExcName → Option Value} {mg mb : Str → Option Value}
theorem ret_int {R : Result → Shared → Prop} {s : Shared} {v v' : Int} {t : Tok} {h₁ : Heap} {k : Nat} (h : ∀ t' h' tk', Keeps s.heap h' → R (.ok (.ret (.int v t'))) { s with heap := h', toks := tk' }) (e : v' = v) (kp : Keeps s.heap h₁) : R (.ok (.ret (.int v' t))) { s with heap := h₁, toks := k } := by
  subst e
  exact h t h₁ k kp
theorem fnAt_keep {g h : Heap} {L q : Addr} {m : Str → Option Value} (x : FnAt q g) (F : Fr g L h m) : FnAt q h := let ⟨a, b, c, d, e⟩ := x; ⟨a, b, c, d, F.keep _ _ e⟩
section
local macro_rules | `(tactic| walk_at "callWith ref") => `(tactic| (k_here; (with_reducible show wpAny _ _ (callWith _ (Value.ref _) [] _ []) _ _ _); k_dflt (refine' callWith_F ?k1 ?_; (case k1 => exact fnAt_keep (by assumption) (by k_asm)); k_whole)))
local macro_rules | `(tactic| walk_at "FnAt") => `(tactic| (exact fnAt_keep (by assumption) (by k_asm)))
local macro_rules | `(tactic| walk_at "call ref") => `(tactic| (k_here; (with_reducible show wpAny _ _ (call (Value.ref _) [Value.int _ _]) _ _ _); (refine' KeyOn.useK (by assumption) (by assumption) (by k_asm) (by k_asm) ?k1 ?k2 ?kd ?ku ?_); (case k1 => (with_unfolding_all assumption)); (case k2 => (with_unfolding_all assumption)); (case kd => (dsimp only [mkA, Around.deeper]; omega)); (case ku => (dsimp only [mkA, Around.deeper]; omega)); (intro t' h' tk' F' N'); (try dsimp only)))

theorem c_bisR3 (hB : Keeps B s.heap) (X : (KK w.params).In B) (T : Top p loose mean mg mb B) (hdep : dp + 14 < recursionLimit) (hun : un + 120 < cLine)
    {ra q : Addr} {c : Nat} {P : Addr → Obj → Prop} {f : Int → Int} {x : Int} {tx : Tok} {k0 k1 k2 : Int} {t0 t1 t2 : Tok}
    (hrow : s.heap.get? ra = some (W.listOf #[.int k0 t0, .int k1 t1, .int k2 t2] c)) (hra : B.get? ra = none) (hkey : KeyOn w P q f) (hP : Has P s.heap) (hPr : ∀ o, ¬ P ra o) (hqf : FnAt q s.heap) (hqr : q ≠ ra) (b0 : 0 ≤ k0) (d0 : k0 < 3) (b1 : 0 ≤ k1) (d1 : k1 < 3) (b2 : 0 ≤ k2) (d2 : k2 < 3)
    (ret : ∀ t' h' tk', Keeps s.heap h' → R (.ok (.ret (.int (if x < f k1 then (if x < f k0 then 0 else 1) else (if x < f k2 then 2 else 3)) t'))) { s with heap := h', toks := tk' }) :
    codeAny (model prg w) (mkA dp un fr gd) (.call (.ref 105) ⟨[.ref ra, .int x tx], [(Str.ofString "key", .ref q)]⟩) R s := by
  refine' enterK (K := KK w.params) B [(ra, W.listOf #[.int k0 t0, .int k1 t1, .int k2 t2] c)] hB X T ?kn ?k6 ?k7 ?kr ?k9 ?kB ?_ ?c2 ?c3 ?c4 ?c5
  case kn => exact List.forall_mem_cons.mpr ⟨⟨hrow, hra⟩, List.forall_mem_nil _⟩
  case k6 => k_is
  case k7 => k_is
  case kr => (show dp < recursionLimit; omega)
  case k9 => (have XS := X.keeps hB; first | exact BindsTo.of_eq rfl | exact binds_K XS rfl (by k_is) rfl rfl rfl)
  case c5 => decide
  case kB => exact locs rfl
  case c2 => exact rfl
  case c3 => exact rfl
  case c4 => exact rfl
  k_whole
  intro g' L' h' F' N' X' T' hlt hgk
  have hlt' := allLt_of hlt
  simp only [AllLt] at hlt'
  clear hlt X T
  have hPg : Has P g' := fun b o e => hgk b o (hP b o e) (fun hm => by simp only [List.map_cons, List.map_nil, List.mem_cons, List.not_mem_nil, or_false] at hm; subst hm; exact hPr o e)
  have hfn : FnAt q g' := by
    obtain ⟨oc, od, fd, sl, e⟩ := hqf
    exact ⟨oc, od, fd, sl, hgk _ _ e (fun hm => by simp only [List.map_cons, List.map_nil, List.mem_cons, List.not_mem_nil, or_false] at hm; exact hqr hm)⟩
  (try dsimp only)
  (try k_fold)
  k_steps
  all_goals
    (try dsimp only)
    refine ret_int ret ?_ (keeps_of hgk (List.forall_mem_cons.mpr ⟨hrow, List.forall_mem_nil _⟩) (by k_asm) (by k_asm) (fun p hp => hp))
    (repeat' split) <;> first | (with_unfolding_all rfl) | (exfalso; with_unfolding_all contradiction)


theorem c_bisL3 (hB : Keeps B s.heap) (X : (KK w.params).In B) (T : Top p loose mean mg mb B) (hdep : dp + 14 < recursionLimit) (hun : un + 120 < cLine)
    {ra q : Addr} {c : Nat} {P : Addr → Obj → Prop} {f : Int → Int} {x : Int} {tx : Tok} {k0 k1 k2 : Int} {t0 t1 t2 : Tok}
    (hrow : s.heap.get? ra = some (W.listOf #[.int k0 t0, .int k1 t1, .int k2 t2] c)) (hra : B.get? ra = none) (hkey : KeyOn w P q f) (hP : Has P s.heap) (hPr : ∀ o, ¬ P ra o) (hqf : FnAt q s.heap) (hqr : q ≠ ra) (b0 : 0 ≤ k0) (d0 : k0 < 3) (b1 : 0 ≤ k1) (d1 : k1 < 3) (b2 : 0 ≤ k2) (d2 : k2 < 3)
    (ret : ∀ t' h' tk', Keeps s.heap h' → R (.ok (.ret (.int (if f k1 < x then (if f k2 < x then 3 else 2) else (if f k0 < x then 1 else 0)) t'))) { s with heap := h', toks := tk' }) :
    codeAny (model prg w) (mkA dp un fr gd) (.call (.ref 114) ⟨[.ref ra, .int x tx], [(Str.ofString "key", .ref q)]⟩) R s := by
  refine' enterK (K := KK w.params) B [(ra, W.listOf #[.int k0 t0, .int k1 t1, .int k2 t2] c)] hB X T ?kn ?k6 ?k7 ?kr ?k9 ?kB ?_ ?c2 ?c3 ?c4 ?c5
  case kn => exact List.forall_mem_cons.mpr ⟨⟨hrow, hra⟩, List.forall_mem_nil _⟩
  case k6 => k_is
  case k7 => k_is
  case kr => (show dp < recursionLimit; omega)
  case k9 => (have XS := X.keeps hB; first | exact BindsTo.of_eq rfl | exact binds_K XS rfl (by k_is) rfl rfl rfl)
  case c5 => decide
  case kB => exact locs rfl
  case c2 => exact rfl
  case c3 => exact rfl
  case c4 => exact rfl
  k_whole
  intro g' L' h' F' N' X' T' hlt hgk
  have hlt' := allLt_of hlt
  simp only [AllLt] at hlt'
  clear hlt X T
  have hPg : Has P g' := fun b o e => hgk b o (hP b o e) (fun hm => by simp only [List.map_cons, List.map_nil, List.mem_cons, List.not_mem_nil, or_false] at hm; subst hm; exact hPr o e)
  have hfn : FnAt q g' := by
    obtain ⟨oc, od, fd, sl, e⟩ := hqf
    exact ⟨oc, od, fd, sl, hgk _ _ e (fun hm => by simp only [List.map_cons, List.map_nil, List.mem_cons, List.not_mem_nil, or_false] at hm; exact hqr hm)⟩
  (try dsimp only)
  (try k_fold)
  k_steps
  all_goals
    (try dsimp only)
    refine ret_int ret ?_ (keeps_of hgk (List.forall_mem_cons.mpr ⟨hrow, List.forall_mem_nil _⟩) (by k_asm) (by k_asm) (fun p hp => hp))
    (repeat' split) <;> first | (with_unfolding_all rfl) | (exfalso; with_unfolding_all contradiction)

end
end Mine
end
namespace Mine
theorem freshAtB2 : True := by
  (try (walk1; fail))
  w_top off
  trivial
end Mine
section
open PySem PySem.W PySem.Calls PyProof.Rows
namespace Mine
set_option maxRecDepth 100000
set_option maxHeartbeats 8000000
theorem fillOfB2 : PySem.Challenge.rw_rl0102_01 = PySem.Challenge.rw_rl0102_01 ∧ KK = KK := by
  k_fill
  exact ⟨rfl, rfl⟩
variable {w : World} {dp un : Nat} {fr : Option (List Env)} {gd : Option (List Code)} {s : Shared} {B : Heap} {R : Result → Shared → Prop} {p : Program} {loose : List Str} {mean : ExcName → Option Value} {mg mb : Str → Option Value}
section
local macro_rules | `(tactic| walk_at "callWith ref") => `(tactic| (k_here; (with_reducible show wpAny _ _ (callWith _ (Value.ref _) [] _ []) _ _ _); k_dflt (refine' callWith_F ?k1 ?_; (case k1 => exact fnAt_keep (by assumption) (by k_asm)); k_whole)))
local macro_rules | `(tactic| walk_at "FnAt") => `(tactic| (exact fnAt_keep (by assumption) (by k_asm)))
local macro_rules | `(tactic| walk_at "call ref") => `(tactic| (k_here; (with_reducible show wpAny _ _ (call (Value.ref _) [Value.int _ _]) _ _ _); (refine' KeyOn.useK (by assumption) (by assumption) (by k_asm) (by k_asm) ?k1 ?k2 ?kd ?ku ?_); (case k1 => (with_unfolding_all assumption)); (case k2 => (with_unfolding_all assumption)); (case kd => (dsimp only [mkA, Around.deeper]; omega)); (case ku => (dsimp only [mkA, Around.deeper]; omega)); (intro t' h' tk' F' N'); (try dsimp only)))

theorem c_bisP0 (hB : Keeps B s.heap) (X : (KK w.params).In B) (T : Top p loose mean mg mb B) (hdep : dp + 14 < recursionLimit) (hun : un + 120 < cLine)
    {ra q : Addr} {c : Nat} {P : Addr → Obj → Prop} {f : Int → Int} {x : Int} {tx tl : Tok}
    (hrow : s.heap.get? ra = some (W.listOf #[] c)) (hra : B.get? ra = none) (hkey : KeyOn w P q f) (hP : Has P s.heap) (hPr : ∀ o, ¬ P ra o) (hqf : FnAt q s.heap) (hqr : q ≠ ra)
    (ret : ∀ t' h' tk', Keeps s.heap h' → R (.ok (.ret (.int 0 t'))) { s with heap := h', toks := tk' }) :
    codeAny (model prg w) (mkA dp un fr gd) (.call (.ref 105) ⟨[.ref ra, .int x tx, .int 0 tl, .none], [(Str.ofString "key", .ref q)]⟩) R s := by
  refine' enterK (K := KK w.params) B [(ra, W.listOf #[] c)] hB X T ?kn ?k6 ?k7 ?kr ?k9 ?kB ?_ ?c2 ?c3 ?c4 ?c5
  case kn => exact List.forall_mem_cons.mpr ⟨⟨hrow, hra⟩, List.forall_mem_nil _⟩
  case k6 => k_is
  case k7 => k_is
  case kr => (show dp < recursionLimit; omega)
  case k9 => (have XS := X.keeps hB; first | exact BindsTo.of_eq rfl | exact binds_K XS rfl (by k_is) rfl rfl rfl)
  case c5 => decide
  case kB => exact locs rfl
  case c2 => exact rfl
  case c3 => exact rfl
  case c4 => exact rfl
  k_whole
  intro g' L' h' F' N' X' T' hlt hgk
  have hlt' := allLt_of hlt
  simp only [AllLt] at hlt'
  clear hlt X T
  have hPg : Has P g' := fun b o e => hgk b o (hP b o e) (fun hm => by simp only [List.map_cons, List.map_nil, List.mem_cons, List.not_mem_nil, or_false] at hm; subst hm; exact hPr o e)
  have hfn : FnAt q g' := by
    obtain ⟨oc, od, fd, sl, e⟩ := hqf
    exact ⟨oc, od, fd, sl, hgk _ _ e (fun hm => by simp only [List.map_cons, List.map_nil, List.mem_cons, List.not_mem_nil, or_false] at hm; exact hqr hm)⟩
  (try dsimp only)
  (try k_fold)
  k_steps
  all_goals
    (try dsimp only)
    refine ret_int ret ?_ (keeps_of hgk (List.forall_mem_cons.mpr ⟨hrow, List.forall_mem_nil _⟩) (by k_asm) (by k_asm) (fun p hp => hp))
    (repeat' split) <;> first | (with_unfolding_all rfl) | (exfalso; with_unfolding_all contradiction)


theorem c_bisP1 (hB : Keeps B s.heap) (X : (KK w.params).In B) (T : Top p loose mean mg mb B) (hdep : dp + 14 < recursionLimit) (hun : un + 120 < cLine)
    {ra q : Addr} {c : Nat} {P : Addr → Obj → Prop} {f : Int → Int} {x : Int} {tx tl : Tok} {k0 : Int} {t0 : Tok}
    (hrow : s.heap.get? ra = some (W.listOf #[.int k0 t0] c)) (hra : B.get? ra = none) (hkey : KeyOn w P q f) (hP : Has P s.heap) (hPr : ∀ o, ¬ P ra o) (hqf : FnAt q s.heap) (hqr : q ≠ ra) (b0 : 0 ≤ k0) (d0 : k0 < 3)
    (ret : ∀ t' h' tk', Keeps s.heap h' → R (.ok (.ret (.int (if x < f k0 then 0 else 1) t'))) { s with heap := h', toks := tk' }) :
    codeAny (model prg w) (mkA dp un fr gd) (.call (.ref 105) ⟨[.ref ra, .int x tx, .int 0 tl, .none], [(Str.ofString "key", .ref q)]⟩) R s := by
  refine' enterK (K := KK w.params) B [(ra, W.listOf #[.int k0 t0] c)] hB X T ?kn ?k6 ?k7 ?kr ?k9 ?kB ?_ ?c2 ?c3 ?c4 ?c5
  case kn => exact List.forall_mem_cons.mpr ⟨⟨hrow, hra⟩, List.forall_mem_nil _⟩
  case k6 => k_is
  case k7 => k_is
  case kr => (show dp < recursionLimit; omega)
  case k9 => (have XS := X.keeps hB; first | exact BindsTo.of_eq rfl | exact binds_K XS rfl (by k_is) rfl rfl rfl)
  case c5 => decide
  case kB => exact locs rfl
  case c2 => exact rfl
  case c3 => exact rfl
  case c4 => exact rfl
  k_whole
  intro g' L' h' F' N' X' T' hlt hgk
  have hlt' := allLt_of hlt
  simp only [AllLt] at hlt'
  clear hlt X T
  have hPg : Has P g' := fun b o e => hgk b o (hP b o e) (fun hm => by simp only [List.map_cons, List.map_nil, List.mem_cons, List.not_mem_nil, or_false] at hm; subst hm; exact hPr o e)
  have hfn : FnAt q g' := by
    obtain ⟨oc, od, fd, sl, e⟩ := hqf
    exact ⟨oc, od, fd, sl, hgk _ _ e (fun hm => by simp only [List.map_cons, List.map_nil, List.mem_cons, List.not_mem_nil, or_false] at hm; exact hqr hm)⟩
  (try dsimp only)
  (try k_fold)
  k_steps
  all_goals
    (try dsimp only)
    refine ret_int ret ?_ (keeps_of hgk (List.forall_mem_cons.mpr ⟨hrow, List.forall_mem_nil _⟩) (by k_asm) (by k_asm) (fun p hp => hp))
    (repeat' split) <;> first | (with_unfolding_all rfl) | (exfalso; with_unfolding_all contradiction)


theorem c_bisP2 (hB : Keeps B s.heap) (X : (KK w.params).In B) (T : Top p loose mean mg mb B) (hdep : dp + 14 < recursionLimit) (hun : un + 120 < cLine)
    {ra q : Addr} {c : Nat} {P : Addr → Obj → Prop} {f : Int → Int} {x : Int} {tx tl : Tok} {k0 k1 : Int} {t0 t1 : Tok}
    (hrow : s.heap.get? ra = some (W.listOf #[.int k0 t0, .int k1 t1] c)) (hra : B.get? ra = none) (hkey : KeyOn w P q f) (hP : Has P s.heap) (hPr : ∀ o, ¬ P ra o) (hqf : FnAt q s.heap) (hqr : q ≠ ra) (b0 : 0 ≤ k0) (d0 : k0 < 3) (b1 : 0 ≤ k1) (d1 : k1 < 3)
    (ret : ∀ t' h' tk', Keeps s.heap h' → R (.ok (.ret (.int (if x < f k1 then (if x < f k0 then 0 else 1) else 2) t'))) { s with heap := h', toks := tk' }) :
    codeAny (model prg w) (mkA dp un fr gd) (.call (.ref 105) ⟨[.ref ra, .int x tx, .int 0 tl, .none], [(Str.ofString "key", .ref q)]⟩) R s := by
  refine' enterK (K := KK w.params) B [(ra, W.listOf #[.int k0 t0, .int k1 t1] c)] hB X T ?kn ?k6 ?k7 ?kr ?k9 ?kB ?_ ?c2 ?c3 ?c4 ?c5
  case kn => exact List.forall_mem_cons.mpr ⟨⟨hrow, hra⟩, List.forall_mem_nil _⟩
  case k6 => k_is
  case k7 => k_is
  case kr => (show dp < recursionLimit; omega)
  case k9 => (have XS := X.keeps hB; first | exact BindsTo.of_eq rfl | exact binds_K XS rfl (by k_is) rfl rfl rfl)
  case c5 => decide
  case kB => exact locs rfl
  case c2 => exact rfl
  case c3 => exact rfl
  case c4 => exact rfl
  k_whole
  intro g' L' h' F' N' X' T' hlt hgk
  have hlt' := allLt_of hlt
  simp only [AllLt] at hlt'
  clear hlt X T
  have hPg : Has P g' := fun b o e => hgk b o (hP b o e) (fun hm => by simp only [List.map_cons, List.map_nil, List.mem_cons, List.not_mem_nil, or_false] at hm; subst hm; exact hPr o e)
  have hfn : FnAt q g' := by
    obtain ⟨oc, od, fd, sl, e⟩ := hqf
    exact ⟨oc, od, fd, sl, hgk _ _ e (fun hm => by simp only [List.map_cons, List.map_nil, List.mem_cons, List.not_mem_nil, or_false] at hm; exact hqr hm)⟩
  (try dsimp only)
  (try k_fold)
  k_steps
  all_goals
    (try dsimp only)
    refine ret_int ret ?_ (keeps_of hgk (List.forall_mem_cons.mpr ⟨hrow, List.forall_mem_nil _⟩) (by k_asm) (by k_asm) (fun p hp => hp))
    (repeat' split) <;> first | (with_unfolding_all rfl) | (exfalso; with_unfolding_all contradiction)


theorem k_bisP0 {g : Heap} {L : Addr} {m : Str → Option Value} {news : List (Addr × Obj)} {Q E : Value → Shared → Prop} {ra q : Addr} {c : Nat} {P : Addr → Obj → Prop} {f : Int → Int} {x : Int} {tx tl : Tok} 
    (F : Fr g L s.heap m) (N : News g L s.heap news) (X : (KK w.params).In g) (T : Top p loose mean mg mb g) (hdep : dp + 14 < recursionLimit) (hun : un + 120 < cLine)
    (hrow : (ra, W.listOf #[] c) ∈ news) (hkey : KeyOn w P q f) (hPg : Has P g) (hPr : ∀ o, ¬ P ra o) (hfn : FnAt q g) (hqr : q ≠ ra) 
    (ret : ∀ t' h' tk', Fr g L h' m → News g L h' news → Q (.int 0 t') { s with heap := h', toks := tk' }) :
    wpAny (model prg w) (mkA dp un fr gd) (call (.ref 105) [.ref ra, .int x tx, .int 0 tl, .none] [(Str.ofString "key", .ref q)]) Q E s := by
  refine wpAny_call (c_bisP0 F.keep X T hdep hun (N.get hrow) (N.fresh hrow) hkey (hPg.keeps F.keep) hPr (fnAt_keep hfn F) hqr  ?_)
  intro t' h' tk' kp
  exact ret t' h' tk' (F.keeps kp) fun p hp => ⟨kp _ _ (N p hp).1, (N p hp).2⟩

theorem k_bisP1 {g : Heap} {L : Addr} {m : Str → Option Value} {news : List (Addr × Obj)} {Q E : Value → Shared → Prop} {ra q : Addr} {c : Nat} {P : Addr → Obj → Prop} {f : Int → Int} {x : Int} {tx tl : Tok} {k0 : Int} {t0 : Tok}
    (F : Fr g L s.heap m) (N : News g L s.heap news) (X : (KK w.params).In g) (T : Top p loose mean mg mb g) (hdep : dp + 14 < recursionLimit) (hun : un + 120 < cLine)
    (hrow : (ra, W.listOf #[.int k0 t0] c) ∈ news) (hkey : KeyOn w P q f) (hPg : Has P g) (hPr : ∀ o, ¬ P ra o) (hfn : FnAt q g) (hqr : q ≠ ra) (b0 : 0 ≤ k0) (d0 : k0 < 3)
    (ret : ∀ t' h' tk', Fr g L h' m → News g L h' news → Q (.int (if x < f k0 then 0 else 1) t') { s with heap := h', toks := tk' }) :
    wpAny (model prg w) (mkA dp un fr gd) (call (.ref 105) [.ref ra, .int x tx, .int 0 tl, .none] [(Str.ofString "key", .ref q)]) Q E s := by
  refine wpAny_call (c_bisP1 F.keep X T hdep hun (N.get hrow) (N.fresh hrow) hkey (hPg.keeps F.keep) hPr (fnAt_keep hfn F) hqr b0 d0 ?_)
  intro t' h' tk' kp
  exact ret t' h' tk' (F.keeps kp) fun p hp => ⟨kp _ _ (N p hp).1, (N p hp).2⟩

theorem k_bisP2 {g : Heap} {L : Addr} {m : Str → Option Value} {news : List (Addr × Obj)} {Q E : Value → Shared → Prop} {ra q : Addr} {c : Nat} {P : Addr → Obj → Prop} {f : Int → Int} {x : Int} {tx tl : Tok} {k0 k1 : Int} {t0 t1 : Tok}
    (F : Fr g L s.heap m) (N : News g L s.heap news) (X : (KK w.params).In g) (T : Top p loose mean mg mb g) (hdep : dp + 14 < recursionLimit) (hun : un + 120 < cLine)
    (hrow : (ra, W.listOf #[.int k0 t0, .int k1 t1] c) ∈ news) (hkey : KeyOn w P q f) (hPg : Has P g) (hPr : ∀ o, ¬ P ra o) (hfn : FnAt q g) (hqr : q ≠ ra) (b0 : 0 ≤ k0) (d0 : k0 < 3) (b1 : 0 ≤ k1) (d1 : k1 < 3)
    (ret : ∀ t' h' tk', Fr g L h' m → News g L h' news → Q (.int (if x < f k1 then (if x < f k0 then 0 else 1) else 2) t') { s with heap := h', toks := tk' }) :
    wpAny (model prg w) (mkA dp un fr gd) (call (.ref 105) [.ref ra, .int x tx, .int 0 tl, .none] [(Str.ofString "key", .ref q)]) Q E s := by
  refine wpAny_call (c_bisP2 F.keep X T hdep hun (N.get hrow) (N.fresh hrow) hkey (hPg.keeps F.keep) hPr (fnAt_keep hfn F) hqr b0 d0 b1 d1 ?_)
  intro t' h' tk' kp
  exact ret t' h' tk' (F.keeps kp) fun p hp => ⟨kp _ _ (N p hp).1, (N p hp).2⟩

theorem k_bisR3 {g : Heap} {L : Addr} {m : Str → Option Value} {news : List (Addr × Obj)} {Q E : Value → Shared → Prop} {ra q : Addr} {c : Nat} {P : Addr → Obj → Prop} {f : Int → Int} {x : Int} {tx : Tok} {k0 k1 k2 : Int} {t0 t1 t2 : Tok}
    (F : Fr g L s.heap m) (N : News g L s.heap news) (X : (KK w.params).In g) (T : Top p loose mean mg mb g) (hdep : dp + 14 < recursionLimit) (hun : un + 120 < cLine)
    (hrow : (ra, W.listOf #[.int k0 t0, .int k1 t1, .int k2 t2] c) ∈ news) (hkey : KeyOn w P q f) (hPg : Has P g) (hPr : ∀ o, ¬ P ra o) (hfn : FnAt q g) (hqr : q ≠ ra) (b0 : 0 ≤ k0) (d0 : k0 < 3) (b1 : 0 ≤ k1) (d1 : k1 < 3) (b2 : 0 ≤ k2) (d2 : k2 < 3)
    (ret : ∀ t' h' tk', Fr g L h' m → News g L h' news → Q (.int (if x < f k1 then (if x < f k0 then 0 else 1) else (if x < f k2 then 2 else 3)) t') { s with heap := h', toks := tk' }) :
    wpAny (model prg w) (mkA dp un fr gd) (call (.ref 105) [.ref ra, .int x tx] [(Str.ofString "key", .ref q)]) Q E s := by
  refine wpAny_call (c_bisR3 F.keep X T hdep hun (N.get hrow) (N.fresh hrow) hkey (hPg.keeps F.keep) hPr (fnAt_keep hfn F) hqr b0 d0 b1 d1 b2 d2 ?_)
  intro t' h' tk' kp
  exact ret t' h' tk' (F.keeps kp) fun p hp => ⟨kp _ _ (N p hp).1, (N p hp).2⟩

theorem k_bisL3 {g : Heap} {L : Addr} {m : Str → Option Value} {news : List (Addr × Obj)} {Q E : Value → Shared → Prop} {ra q : Addr} {c : Nat} {P : Addr → Obj → Prop} {f : Int → Int} {x : Int} {tx : Tok} {k0 k1 k2 : Int} {t0 t1 t2 : Tok}
    (F : Fr g L s.heap m) (N : News g L s.heap news) (X : (KK w.params).In g) (T : Top p loose mean mg mb g) (hdep : dp + 14 < recursionLimit) (hun : un + 120 < cLine)
    (hrow : (ra, W.listOf #[.int k0 t0, .int k1 t1, .int k2 t2] c) ∈ news) (hkey : KeyOn w P q f) (hPg : Has P g) (hPr : ∀ o, ¬ P ra o) (hfn : FnAt q g) (hqr : q ≠ ra) (b0 : 0 ≤ k0) (d0 : k0 < 3) (b1 : 0 ≤ k1) (d1 : k1 < 3) (b2 : 0 ≤ k2) (d2 : k2 < 3)
    (ret : ∀ t' h' tk', Fr g L h' m → News g L h' news → Q (.int (if f k1 < x then (if f k2 < x then 3 else 2) else (if f k0 < x then 1 else 0)) t') { s with heap := h', toks := tk' }) :
    wpAny (model prg w) (mkA dp un fr gd) (call (.ref 114) [.ref ra, .int x tx] [(Str.ofString "key", .ref q)]) Q E s := by
  refine wpAny_call (c_bisL3 F.keep X T hdep hun (N.get hrow) (N.fresh hrow) hkey (hPg.keeps F.keep) hPr (fnAt_keep hfn F) hqr b0 d0 b1 d1 b2 d2 ?_)
  intro t' h' tk' kp
  exact ret t' h' tk' (F.keeps kp) fun p hp => ⟨kp _ _ (N p hp).1, (N p hp).2⟩
end
end Mine
end
namespace Mine
theorem freshAtComp : True := by
  (try (walk1; fail))
  w_top off
  trivial
end Mine
section
open PySem PySem.W PySem.Calls PyProof.Rows PyProof.Rows.LCg
namespace Mine
set_option maxRecDepth 100000
set_option maxHeartbeats 8000000
section
variable {prog : Program} {w : World} {A : Around} {s : Shared} {h₀ : Heap} {L : Addr} {m : Str → Option Value} {env : Env} {elt : Expr} {x : Str} {scope : Scope} {cl : List (Str × Addr)}

/-- an element's word: for the item v it answers a value y with new objects ex -/
def MElt (prog : Program) (w : World) (A : Around) (h₀ : Heap) (L : Addr) (m : Str → Option Value) (env : Env) (elt : Expr) (x : Str) (scope : Scope) (cl : List (Str × Addr)) (need : List (Addr × Obj)) (v : Value) (Pst : Value → List (Addr × Obj) → Prop) : Prop :=
  ∀ (C : Addr) (oC : Obj) (m₂ : Str → Option Value) (s : Shared) (Q E : Value → Shared → Prop) (news : List (Addr × Obj)), NsObj oC m₂ → m₂ x = some v → Fr h₀ L s.heap m → News h₀ L s.heap news → (C, oC) ∈ news → (∀ p ∈ need, p ∈ news) →
    (∀ y ex h' tk', Fr h₀ L h' m → News h₀ L h' (ex ++ news) → (∀ p ∈ ex, ∀ q ∈ news, q.1 ≠ p.1) → Pst y ex → Q y { s with heap := h', toks := tk' }) →
    wpAny (model prog w) A (eval elt (compEnvC scope cl C env)) Q E s

theorem off_ex {I C D : Addr} {oI oC oD : Obj} {ex news all : List (Addr × Obj)} (off : Off3 I C D news) (h : ∀ p ∈ ex, ∀ q ∈ (I, oI) :: (C, oC) :: (D, oD) :: all, q.1 ≠ p.1) : Off3 I C D (ex ++ news) := by
  refine Off3.of fun p hp => ?_
  rcases List.mem_append.mp hp with hp | hp
  · exact ⟨Ne.symm (h p hp _ (.head _)), Ne.symm (h p hp _ (.tail _ (.head _))), Ne.symm (h p hp _ (.tail _ (.tail _ (.head _))))⟩
  · exact off.mem p hp

/-- one turn by the element's word -/
theorem rest_turn {S : List (Addr × Obj) → Prop} {P : Nat → Value → Prop} {Fin : List Value → List (Addr × Obj) → Prop} {k i : Nat} {ys : List Value} {news need : List (Addr × Obj)} {Pst : Value → Value → List (Addr × Obj) → Prop}
    (hn : ∀ p ∈ need, p ∈ news) (hS : ∀ ex, S (ex ++ news)) (e : ∀ v, P i v → MElt prog w A h₀ L m env elt x scope cl need v (Pst v))
    (k' : ∀ v y ex, P i v → Pst v y ex → (∀ p ∈ ex, ∀ q ∈ news, q.1 ≠ p.1) → CompRest prog w A h₀ L m env elt x scope cl s S P Fin k (i + 1) (ys ++ [y]) (ex ++ news)) :
    CompRest prog w A h₀ L m env elt x scope cl s S P Fin (k + 1) i ys news := by
  refine CompRest.succ fun v I oI C oC D m₂ h tk E' hP hC hx F N off ne => ?_
  refine e v hP C oC m₂ _ _ _ _ hC hx F N (.tail _ (.head _)) (fun p hp => .tail _ (.tail _ (.tail _ (hn p hp)))) fun y ex h' tk' F' N' l ps => ?_
  refine CompEnd.intro F' N' (ex ++ news) ?_ (off_ex off l) (hS ex) (k' v y ex hP ps fun p hp q hq => l p hp q (.tail _ (.tail _ (.tail _ hq))))
  intro p hp
  rcases List.mem_cons.mp hp with rfl | hp
  · exact List.mem_append_right _ (.head _)
  · rcases List.mem_cons.mp hp with rfl | hp
    · exact List.mem_append_right _ (.tail _ (.head _))
    · rcases List.mem_cons.mp hp with rfl | hp
      · exact List.mem_append_right _ (.tail _ (.tail _ (.head _)))
      · rcases List.mem_append.mp hp with hp | hp
        · exact List.mem_append_left _ hp
        · exact List.mem_append_right _ (.tail _ (.tail _ (.tail _ hp)))

/-- three items out of a list of the ledger -/
theorem rest3 {ax : Addr} {c : Nat} {v0 v1 v2 : Value} {Fin : List Value → List (Addr × Obj) → Prop} {news need : List (Addr × Obj)} {P0 P1 P2 : Value → List (Addr × Obj) → Prop}
    (hn : ∀ p ∈ need, p ∈ news) (hax : (ax, W.listOf #[v0, v1, v2] c) ∈ news)
    (e0 : MElt prog w A h₀ L m env elt x scope cl need v0 P0) (e1 : MElt prog w A h₀ L m env elt x scope cl need v1 P1) (e2 : MElt prog w A h₀ L m env elt x scope cl need v2 P2)
    (fin : ∀ y0 x0 y1 x1 y2 x2, P0 y0 x0 → P1 y1 x1 → P2 y2 x2 → (∀ p ∈ x0, ∀ q ∈ news, q.1 ≠ p.1) → (∀ p ∈ x1, ∀ q ∈ x0 ++ news, q.1 ≠ p.1) → (∀ p ∈ x2, ∀ q ∈ x1 ++ (x0 ++ news), q.1 ≠ p.1) → Fin [y0, y1, y2] (x2 ++ (x1 ++ (x0 ++ news)))) :
    CompRest prog w A h₀ L m env elt x scope cl s (SrcAt h₀ ax #[v0, v1, v2]) (fun i v => #[v0, v1, v2][i]? = some v) Fin 3 0 [] news := by
  have src : ∀ ex, (ax, W.listOf #[v0, v1, v2] c) ∈ ex → SrcAt h₀ ax #[v0, v1, v2] ex := fun ex h => .inr ⟨_, h, rfl, _, rfl⟩
  have m0 : ∀ ex : List (Addr × Obj), (ax, W.listOf #[v0, v1, v2] c) ∈ ex ++ news := fun ex => List.mem_append_right _ hax
  refine rest_turn (Pst := fun _ => P0) hn (fun ex => src _ (m0 ex)) (fun v hv => ?_) fun v y0 x0 _ p0 l0 => ?_
  · have : v0 = v := Option.some.inj hv
    rw [← this]; exact e0
  have n1 : ∀ p ∈ need, p ∈ x0 ++ news := fun p hp => List.mem_append_right _ (hn p hp)
  refine rest_turn (Pst := fun _ => P1) n1 (fun ex => src _ (List.mem_append_right _ (m0 x0))) (fun v hv => ?_) fun v y1 x1 _ p1 l1 => ?_
  · have : v1 = v := Option.some.inj hv
    rw [← this]; exact e1
  have n2 : ∀ p ∈ need, p ∈ x1 ++ (x0 ++ news) := fun p hp => List.mem_append_right _ (n1 p hp)
  refine rest_turn (Pst := fun _ => P2) n2 (fun ex => src _ (List.mem_append_right _ (List.mem_append_right _ (m0 x0)))) (fun v hv => ?_) fun v y2 x2 _ p2 l2 => ?_
  · have : v2 = v := Option.some.inj hv
    rw [← this]; exact e2
  exact CompRest.zero (fin y0 x0 y1 x1 y2 x2 p0 p1 p2 l0 l1 l2)

/-- any number of items, the elements make no object: the answer's items stand in the relation -/
theorem restN {S : List (Addr × Obj) → Prop} {P : Nat → Value → Prop} {Fin : List Value → List (Addr × Obj) → Prop} {news need : List (Addr × Obj)} {V : Nat → Value → Prop}
    (hn : ∀ p ∈ need, p ∈ news) (hS : S news) : ∀ (k i : Nat) (ys : List Value),
    (∀ j v, i ≤ j → j < i + k → P j v → MElt prog w A h₀ L m env elt x scope cl need v (fun y ex => ex = [] ∧ V j y)) →
    (∀ zs : List Value, zs.length = k → (∀ j y, zs[j]? = some y → V (i + j) y) → Fin (ys ++ zs) news) →
    CompRest prog w A h₀ L m env elt x scope cl s S P Fin k i ys news
  | 0, i, ys, _, fin => CompRest.zero (by simpa using fin [] rfl (fun j y h => by simp at h))
  | k + 1, i, ys, e, fin => by
    refine CompRest.succ fun v I oI C oC D m₂ h tk E' hP hC hx F N off ne => ?_
    refine e i v (Nat.le_refl _) (by omega) hP C oC m₂ _ _ _ _ hC hx F N (.tail _ (.head _)) (fun p hp => .tail _ (.tail _ (.tail _ (hn p hp)))) fun y ex h' tk' F' N' l ps => ?_
    obtain ⟨rfl, hy⟩ := ps
    refine CompEnd.intro F' N' news (fun p hp => hp) off hS ?_
    refine restN hn hS k (i + 1) (ys ++ [y]) (fun j v' h1 h2 => e j v' (by omega) (by omega)) fun zs hl hz => ?_
    rw [List.append_assoc]
    refine fin (y :: zs) (by simp [hl]) fun j y' hj => ?_
    cases j with
    | zero => cases (Option.some.inj hj); exact hy
    | succ j =>
      have := hz j y' hj
      rw [show i + (j + 1) = i + 1 + j by omega]
      exact this
end
end Mine
end
namespace Mine
theorem freshAtCompT : True := by
  (try (walk1; fail))
  w_top off
  trivial
end Mine
section
open PySem PySem.W PySem.Calls PyProof.Rows PyProof.Rows.LCg
set_option autoImplicit false
namespace Mine
set_option maxRecDepth 100000
set_option maxHeartbeats 8000000
section
variable {prog : Program} {w : World} {A : Around} {h₀ : Heap} {L : Addr} {m : Str → Option Value}

/-- the block's own objects bear the value v -/
abbrev Vis := Value → List (Addr × Obj) → Prop
/-- an element's word, with the tokens that are out already -/
def ElT (prog : Program) (w : World) (A : Around) (h₀ : Heap) (L : Addr) (m : Str → Option Value) (cenv : Env) (elt : Expr) (V : Vis) (t₀ : Nat) (need : List (Addr × Obj)) (v : Value) (P : Value → List (Addr × Obj) → Prop) : Prop :=
  ∀ (os : List (Addr × Obj)) (s : Shared) (Q E : Value → Shared → Prop) (news : List (Addr × Obj)), V v os → Fr h₀ L s.heap m → News h₀ L s.heap news → (∀ p ∈ os, p ∈ news) → (∀ p ∈ need, p ∈ news) → t₀ ≤ s.toks →
    (∀ y ex h' tk', Fr h₀ L h' m → News h₀ L h' (ex ++ news) → (∀ p ∈ ex, ∀ q ∈ news, q.1 ≠ p.1) → P y ex → Q y { s with heap := h', toks := tk' }) →
    wpAny (model prog w) A (eval elt cenv) Q E s
/-- the block's name is stored -/
def AsT (prog : Program) (w : World) (A : Around) (h₀ : Heap) (L : Addr) (m : Str → Option Value) (cenv : Env) (target : Expr) (V : Vis) (Sh : List (Addr × Obj) → Prop) : Prop :=
  ∀ (v : Value) (os rest : List (Addr × Obj)) (s : Shared) (Q : Unit → Shared → Prop) (E : Value → Shared → Prop), Sh os → Fr h₀ L s.heap m → News h₀ L s.heap (os ++ rest) → (∀ p ∈ rest, ∀ q ∈ os, p.1 ≠ q.1) →
    (∀ os' h' tk', V v os' → Sh os' → os'.map (·.1) = os.map (·.1) → Fr h₀ L h' m → News h₀ L h' (os' ++ rest) → Q () { s with heap := h', toks := tk' }) →
    wpAny (model prog w) A (assign target cenv v) Q E s
def RemT (Fin : List Value → List (Addr × Obj) → Prop) : List (Value → List (Addr × Obj) → Prop) → List Value → List (Addr × Obj) → Prop
  | [], ys, news => Fin ys news
  | P :: r, ys, news => ∀ y ex, P y ex → (∀ p ∈ ex, ∀ q ∈ news, q.1 ≠ p.1) → RemT Fin r (ys ++ [y]) (ex ++ news)

/-- one address of the ledger changes -/
theorem news_at {h h' : Heap} {a : Addr} {o o' : Obj} {pre post : List (Addr × Obj)} (N : News h₀ L h (pre ++ (a, o) :: post)) (hs : ∀ b x, b ≠ a → h.get? b = some x → h'.get? b = some x) (ho : h'.get? a = some o')
    (h1 : ∀ p ∈ pre, p.1 ≠ a) (h2 : ∀ p ∈ post, p.1 ≠ a) : News h₀ L h' (pre ++ (a, o') :: post) := by
  intro p hp
  rcases List.mem_append.mp hp with hp | hp
  · exact ⟨hs _ _ (h1 p hp) (N p (List.mem_append_left _ hp)).1, (N p (List.mem_append_left _ hp)).2⟩
  · rcases List.mem_cons.mp hp with rfl | hp
    · exact ⟨ho, (N (a, o) (List.mem_append_right _ (.head _))).2⟩
    · exact ⟨hs _ _ (h2 p hp) (N p (List.mem_append_right _ (.tail _ hp))).1, (N p (List.mem_append_right _ (.tail _ hp))).2⟩
theorem fr_at {h h' : Heap} {a : Addr} (F : Fr h₀ L h m) (hs : ∀ b x, b ≠ a → h.get? b = some x → h'.get? b = some x) (hL : a ≠ L) (h0 : h₀.get? a = none) : Fr h₀ L h' m :=
  ⟨F.ns.at' fun o e => hs L o (Ne.symm hL) e, fun b o e => hs b o (fun q => by rw [q, h0] at e; cases e) (F.keep b o e), F.above⟩

theorem map_fst_ne {os os' : List (Addr × Obj)} (e : os'.map (·.1) = os.map (·.1)) {a : Addr} (h : ∀ q ∈ os, a ≠ q.1) : ∀ q ∈ os', a ≠ q.1 := fun q hq => by
  have : q.1 ∈ os'.map (·.1) := List.mem_map_of_mem hq
  rw [e] at this
  obtain ⟨r, hr, e'⟩ := List.mem_map.mp this
  exact e' ▸ h r hr

theorem own_loop {elt target iter : Expr} {scope : Scope} {pos : Pos} {cenv : Env} {V : Vis} {Sh : List (Addr × Obj) → Prop} {I D ax : Addr} {c : Nat} {its : Array Value} {R : Result → Shared → Prop} {s : Shared} {need : List (Addr × Obj)}
    (hh : A.handled = none) (hne : ax ≠ I) (hsz : its.size ≤ sizeLine) (as : AsT prog w A h₀ L m cenv target V Sh) (ht : ∀ v, letOwnedTupleGo target (.ref I) v = pure ()) {Fin : List Value → List (Addr × Obj) → Prop}
    (hR : ∀ ys os news h tk, s.toks ≤ tk → Sh os → Fin ys news → Fr h₀ L h m → News h₀ L h ((D, lst ys) :: (os ++ news)) → (∀ p ∈ news, p.1 ≠ D ∧ ∀ q ∈ os, p.1 ≠ q.1) → (∀ q ∈ os, q.1 ≠ D) → R (.ok .next) { s with heap := h, toks := tk }) :
    ∀ (k : Nat) (i : Nat) (Ps : List (Value → List (Addr × Obj) → Prop)) (ys : List Value) (os news : List (Addr × Obj)) (oI : Obj) (h : Heap) (tk : Nat), k = its.size - i → i ≤ its.size → Ps.length = its.size - i → ys.length = i →
    (∀ j v P, its[i + j]? = some v → Ps[j]? = some P → ElT prog w A h₀ L m cenv elt V s.toks need v P) → RemT Fin Ps ys news → s.toks ≤ tk → Sh os → (∀ p ∈ need, p ∈ news) → (ax, PySem.W.listOf its c) ∈ news →
    h.IsListIter I ax i → Fr h₀ L h m → News h₀ L h ((I, oI) :: (D, lst ys) :: (os ++ news)) → (∀ p ∈ news, p.1 ≠ I ∧ p.1 ≠ D ∧ ∀ q ∈ os, p.1 ≠ q.1) → (∀ q ∈ os, q.1 ≠ I ∧ q.1 ≠ D) → I ≠ D →
    codeAny (model prog w) A (.compLoop (.ListComp elt [⟨target, iter, [], 0⟩] scope pos) 0 (.ref I) (.ref D) cenv) R { s with heap := h, toks := tk } := by
  intro k i Ps ys os news oI h tk hk hi hPs hys hP hrem htk hSh hneed hax hit F N off off2 hID
  refine codeAny_compLoop_tests (fun n s' => ∃ i Ps ys os news oI h tk, n = its.size + 1 - i ∧ s' = { s with heap := h, toks := tk } ∧ i ≤ its.size ∧ Ps.length = its.size - i ∧ ys.length = i ∧
    (∀ j v P, its[i + j]? = some v → Ps[j]? = some P → ElT prog w A h₀ L m cenv elt V s.toks need v P) ∧ RemT Fin Ps ys news ∧ s.toks ≤ tk ∧ Sh os ∧ (∀ p ∈ need, p ∈ news) ∧ (ax, PySem.W.listOf its c) ∈ news ∧
    h.IsListIter I ax i ∧ Fr h₀ L h m ∧ News h₀ L h ((I, oI) :: (D, lst ys) :: (os ++ news)) ∧ (∀ p ∈ news, p.1 ≠ I ∧ p.1 ≠ D ∧ ∀ q ∈ os, p.1 ≠ q.1) ∧ (∀ q ∈ os, q.1 ≠ I ∧ q.1 ≠ D)) ?_ (its.size + 1 - i)
    ⟨i, Ps, ys, os, news, oI, h, tk, rfl, rfl, hi, hPs, hys, hP, hrem, htk, hSh, hneed, hax, hit, F, N, off, off2⟩ ht
  clear k i Ps ys os news oI h tk hk hi hPs hys hP hrem htk hSh hneed hax hit F N off off2
  rintro n s' ⟨i, Ps, ys, os, news, oI, h, tk, rfl, rfl, hi, hPs, hys, hP, hrem, htk, hSh, hneed, hax, hit, F, N, off, off2⟩
  have W := Walks.list (prog := prog) (w := w) hh I ax hne its
  have hl : h.IsList ax its := ⟨_, (N (ax, PySem.W.listOf its c) (.tail _ (.tail _ (List.mem_append_right _ hax)))).1, rfl, _, rfl⟩
  have nI := N (I, oI) (.head _)
  by_cases hlt : i < its.size
  · obtain ⟨P, Pr, rfl⟩ : ∃ P Pr, Ps = P :: Pr := by
      cases Ps with
      | nil => simp at hPs; omega
      | cons P Pr => exact ⟨P, Pr, rfl⟩
    refine wpAny_with_toks (n := s.toks) htk (W.item i _ _ _ hlt ⟨hit, hl⟩ fun v h₁ tk₁ hv st₁ hk₁ htk₁ => ?_)
    have hk₁' : ∀ b x, b ≠ I → h.get? b = some x → h₁.get? b = some x := fun b x hb e => hk₁ b x (by simpa using hb) e
    obtain ⟨o₁, ho₁, _⟩ := id st₁.1
    have F₁ := fr_at F hk₁' nI.2.1 nI.2.2
    have N₁ : News h₀ L h₁ ((I, o₁) :: (D, lst ys) :: (os ++ news)) := news_at (pre := []) N hk₁' ho₁ (fun _ q => nomatch q) fun p hp => by
      rcases List.mem_cons.mp hp with rfl | hp
      · exact Ne.symm hID
      · rcases List.mem_append.mp hp with hp | hp
        · exact (off2 p hp).1
        · exact (off p hp).1
    have N₁' : News h₀ L h₁ (os ++ ((I, o₁) :: (D, lst ys) :: news)) := news_sub N₁ fun p hp => by
      rcases List.mem_append.mp hp with hp | hp
      · exact .tail _ (.tail _ (List.mem_append_left _ hp))
      · rcases List.mem_cons.mp hp with rfl | hp
        · exact .head _
        · rcases List.mem_cons.mp hp with rfl | hp
          · exact .tail _ (.head _)
          · exact .tail _ (.tail _ (List.mem_append_right _ hp))
    refine wpAny_with_toks (n := s.toks) htk₁ (as v os ((I, o₁) :: (D, lst ys) :: news) _ _ _ hSh F₁ N₁' (fun p hp q hq => ?_) fun os' h₂ tk₂ hV hSh' e F₂ N₂ htk₂ => ?_)
    · rcases List.mem_cons.mp hp with rfl | hp
      · exact Ne.symm (off2 q hq).1
      · rcases List.mem_cons.mp hp with rfl | hp
        · exact Ne.symm (off2 q hq).2
        · exact (off p hp).2.2 q hq
    refine wpAny_tests_nil ?_
    simp only [if_true]
    have hPv : ElT prog w A h₀ L m cenv elt V s.toks need v P := hP 0 v P (by simpa using hv) rfl
    have off2' : ∀ q ∈ os', q.1 ≠ I ∧ q.1 ≠ D := fun q hq => ⟨Ne.symm (map_fst_ne e (fun r hr => Ne.symm (off2 r hr).1) q hq), Ne.symm (map_fst_ne e (fun r hr => Ne.symm (off2 r hr).2) q hq)⟩
    have off' : ∀ p ∈ news, p.1 ≠ I ∧ p.1 ≠ D ∧ ∀ q ∈ os', p.1 ≠ q.1 := fun p hp => ⟨(off p hp).1, (off p hp).2.1, map_fst_ne e (off p hp).2.2⟩
    refine wpAny_with_toks (n := s.toks) htk₂ (hPv os' _ _ _ (os' ++ ((I, o₁) :: (D, lst ys) :: news)) hV F₂ N₂ (fun p hp => List.mem_append_left _ hp) (fun p hp => List.mem_append_right _ (.tail _ (.tail _ (hneed p hp)))) htk₂ fun y ex h₃ tk₃ F₃ N₃ fx hy htk₃ => ?_)
    have zD := N₃ (D, lst ys) (List.mem_append_right _ (List.mem_append_right _ (.tail _ (.head _))))
    refine append_at (hsz := by show ys.toArray.size ≤ sizeLine; rw [List.size_toArray, hys]; exact Nat.le_trans hi hsz) zD.1 fun h₅ hs₅ hD₅ => ?_
    have hk₅ : ∀ b x, b ≠ D → h₃.get? b = some x → h₅.get? b = some x := fun b x hb e => hs₅.extBut b x hb e
    have fxI : ∀ p ∈ ex, p.1 ≠ I := fun p hp => Ne.symm (fx p hp _ (List.mem_append_right _ (.head _)))
    have fxD : ∀ p ∈ ex, p.1 ≠ D := fun p hp => Ne.symm (fx p hp _ (List.mem_append_right _ (.tail _ (.head _))))
    have fxo : ∀ p ∈ ex, ∀ q ∈ os', p.1 ≠ q.1 := fun p hp q hq => Ne.symm (fx p hp q (List.mem_append_left _ hq))
    have fxn : ∀ p ∈ ex, ∀ q ∈ news, q.1 ≠ p.1 := fun p hp q hq => fx p hp q (List.mem_append_right _ (.tail _ (.tail _ hq)))
    have N₄ : News h₀ L h₃ ([(I, o₁)] ++ (D, lst ys) :: (os' ++ (ex ++ news))) := news_sub N₃ fun p hp => by
      rcases List.mem_cons.mp hp with rfl | hp
      · exact List.mem_append_right _ (List.mem_append_right _ (.head _))
      · rcases List.mem_cons.mp hp with rfl | hp
        · exact List.mem_append_right _ (List.mem_append_right _ (.tail _ (.head _)))
        · rcases List.mem_append.mp hp with hp | hp
          · exact List.mem_append_right _ (List.mem_append_left _ hp)
          · rcases List.mem_append.mp hp with hp | hp
            · exact List.mem_append_left _ hp
            · exact List.mem_append_right _ (List.mem_append_right _ (.tail _ (.tail _ hp)))
    have N₅ := news_at N₄ hk₅ (hD₅.trans (congrArg some (lst_snoc ys y))) (fun p hp => by rw [List.mem_singleton.mp hp]; exact hID) fun p hp => by
      rcases List.mem_append.mp hp with hp | hp
      · exact (off2' p hp).2
      · rcases List.mem_append.mp hp with hp | hp
        · exact fxD p hp
        · exact (off p hp).2.1
    have zI := (N₄ (I, o₁) (.head _)).1
    have st₅ : h₅.IsListIter I ax (i + 1) := by
      obtain ⟨o, q, r⟩ := st₁.1
      rw [ho₁] at q; cases q
      exact ⟨o₁, hk₅ I o₁ hID zI, r⟩
    refine ⟨its.size + 1 - (i + 1), by omega, i + 1, Pr, ys ++ [y], os', ex ++ news, o₁, h₅, tk₃, rfl, rfl, hlt, by simp at hPs; omega, by simp [hys], fun j v' P' h1 h2 => hP (j + 1) v' P' (by rw [← h1]; congr 1; omega) h2, hrem y ex hy fxn, htk₃, hSh',
      fun p hp => List.mem_append_right _ (hneed p hp), List.mem_append_right _ hax, st₅, fr_at F₃ hk₅ zD.2.1 zD.2.2, N₅, fun p hp => ?_, off2'⟩
    rcases List.mem_append.mp hp with hp | hp
    · exact ⟨fxI p hp, fxD p hp, fxo p hp⟩
    · exact off' p hp
  · obtain rfl : i = its.size := Nat.le_antisymm hi (Nat.not_lt.mp hlt)
    obtain rfl : Ps = [] := by
      cases Ps with
      | nil => rfl
      | cons P Pr => simp at hPs
    refine wpAny_with_toks (n := s.toks) htk (W.done _ _ _ ⟨hit, hl⟩ fun h₂ tk₂ hk₂ htk₂ => ?_)
    have hk₂' : ∀ b x, b ≠ I → h.get? b = some x → h₂.get? b = some x := fun b x hb e => hk₂ b x (by simpa using hb) e
    have N₂ : News h₀ L h₂ ((D, lst ys) :: (os ++ news)) := fun p hp => by
      have : p.1 ≠ I := by
        rcases List.mem_cons.mp hp with rfl | hp
        · exact Ne.symm hID
        · rcases List.mem_append.mp hp with hp | hp
          · exact (off2 p hp).1
          · exact (off p hp).1
      exact ⟨hk₂' _ _ this (N p (.tail _ hp)).1, (N p (.tail _ hp)).2⟩
    exact hR ys os news h₂ tk₂ htk₂ hSh hrem (fr_at F hk₂' nI.2.1 nI.2.2) N₂ (fun p hp => ⟨(off p hp).2.1, (off p hp).2.2⟩) fun q hq => (off2 q hq).2

/-- the block's own objects: its names' dict; the name is a local one -/
def VisL (C : Addr) (x : Str) : Vis := fun v os => ∃ oC m₂, os = [(C, oC)] ∧ NsObj oC m₂ ∧ m₂ x = some v
def ShL (C : Addr) (os : List (Addr × Obj)) : Prop := ∃ oC m₂, os = [(C, oC)] ∧ NsObj oC m₂
theorem asT_local {cenv : Env} {x : Str} {px : Pos} (hx : cenv.kindOf x = some .local) (hp : (cenv.scope.kind == .class || (cenv.scope.kind == .module && cenv.locals != cenv.globals)) = false) :
    AsT prog w A h₀ L m cenv (.Name x px) (VisL cenv.locals x) (ShL cenv.locals) := by
  rintro v os rest s Q E ⟨oC, m₂, rfl, hC⟩ F N off k
  have nC := N (cenv.locals, oC) (.head _)
  refine wpAny_assign_Name (wpAny_storeName_local hx (hC.ns nC.1) (fun h' hn hs => ?_) hp)
  obtain ⟨oC', e', hC'⟩ := ns_obj hn
  exact k [(cenv.locals, oC')] h' _ ⟨oC', _, rfl, hC', by simp⟩ ⟨oC', _, rfl, hC'⟩ rfl (fr_at F (fun b x hb e => hs.extBut b x hb e) nC.2.1 nC.2.2)
    (news_at (pre := []) N (fun b x hb e => hs.extBut b x hb e) e' (fun _ q => nomatch q) fun p hp => off p hp _ (.head _))
/-- the name is a cell of the block's own -/
def VisC (C c : Addr) : Vis := fun v os => ∃ oC m₂ oc, os = [(C, oC), (c, oc)] ∧ NsObj oC m₂ ∧ oc.data = .cell (some v)
def ShC (C c : Addr) (os : List (Addr × Obj)) : Prop := ∃ oC m₂ oc v, os = [(C, oC), (c, oc)] ∧ NsObj oC m₂ ∧ oc.data = .cell v ∧ c ≠ C
theorem asT_cell {cenv : Env} {x : Str} {px : Pos} {c : Addr} (hk : cenv.scope.kind = .function) (hx : cenv.kindOf x = some .cell) (hc : cenv.cells.lookup x = some c) :
    AsT prog w A h₀ L m cenv (.Name x px) (VisC cenv.locals c) (ShC cenv.locals c) := by
  rintro v os rest s Q E ⟨oC, m₂, oc, v₀, rfl, hC, hd, hne⟩ F N off k
  have nc := N (c, oc) (.tail _ (.head _))
  refine wpAny_assign_Name (wpAny_storeName_cell hk hx hc ⟨oc, nc.1, hd⟩ fun h' hv hs => ?_)
  obtain ⟨oc', e', hd'⟩ := hv
  exact k [(cenv.locals, oC), (c, oc')] h' _ ⟨oC, m₂, oc', rfl, hC, hd'⟩ ⟨oC, m₂, oc', _, rfl, hC, hd', hne⟩ rfl (fr_at F (fun b x hb e => hs.extBut b x hb e) nc.2.1 nc.2.2)
    (news_at (pre := [(cenv.locals, oC)]) N (fun b x hb e => hs.extBut b x hb e) e' (fun p hp => by rw [List.mem_singleton.mp hp]; exact Ne.symm hne) fun p hp => off p hp _ (.tail _ (.head _)))

theorem own_start {elt iter : Expr} {scope : Scope} {pos : Pos} {x : Str} {px : Pos} {cenv : Env} {V : Vis} {Sh : List (Addr × Obj) → Prop} {I D ax : Addr} {c : Nat} {its : Array Value} {s : Shared} {need news : List (Addr × Obj)} {E Q : Value → Shared → Prop} {use : Option (Value → Sem Unit)}
    (hh : A.handled = none) (hne : ax ≠ I) (hsz : its.size ≤ sizeLine) (as : AsT prog w A h₀ L m cenv (.Name x px) V Sh) {Fin : List Value → List (Addr × Obj) → Prop} (hSC : ∀ os, Sh os → ∃ oC m₂, (cenv.locals, oC) ∈ os ∧ NsObj oC m₂)
    {Ps : List (Value → List (Addr × Obj) → Prop)} {os : List (Addr × Obj)} {oI : Obj} (hPs : Ps.length = its.size)
    (hP : ∀ (j : Nat) v P, its[j]? = some v → Ps[j]? = some P → ElT prog w A h₀ L m cenv elt V s.toks need v P) (hrem : RemT Fin Ps [] news) (hSh : Sh os) (hneed : ∀ p ∈ need, p ∈ news) (hax : (ax, PySem.W.listOf its c) ∈ news)
    (hit : s.heap.IsListIter I ax 0) (F : Fr h₀ L s.heap m) (N : News h₀ L s.heap ((I, oI) :: (D, lst []) :: (os ++ news))) (off : ∀ p ∈ news, p.1 ≠ I ∧ p.1 ≠ D ∧ ∀ q ∈ os, p.1 ≠ q.1) (off2 : ∀ q ∈ os, q.1 ≠ I ∧ q.1 ≠ D) (hID : I ≠ D)
    (hfin : ∀ ys oC m₂ news' h tk, s.toks ≤ tk → Fin ys news' → Fr h₀ L h m → News h₀ L h ((D, lst ys) :: (cenv.locals, oC) :: news') → NsObj oC m₂ → D ≠ cenv.locals → (∀ p ∈ news', p.1 ≠ D ∧ p.1 ≠ cenv.locals) → compPost (model prog w) A E use Q (.ref D) cenv.locals (.ok .next) { s with heap := h, toks := tk }) :
    codeAny (model prog w) A (.compStart (.ListComp elt [⟨.Name x px, iter, [], 0⟩] scope pos) 0 (.ref I) (.ref D) cenv) (compPost (model prog w) A E use Q (.ref D) cenv.locals) s := by
  have loop := own_loop (elt := elt) (target := .Name x px) (iter := iter) (scope := scope) (pos := pos) (need := need) (c := c) (s := s) (R := compPost (model prog w) A E use Q (.ref D) cenv.locals) hh hne hsz as (fun _ => rfl) (Fin := Fin) (fun ys os' news' h tk htk hSh' hfin' F' N' o1 o2 => ?_) its.size 0 Ps [] os news oI s.heap s.toks rfl (Nat.zero_le _) (by simpa using hPs) rfl (fun j v P h1 h2 => hP j v P (by simpa using h1) h2) hrem (Nat.le_refl _) hSh hneed hax hit F N off off2 hID
  · exact codeAny_compStart_list loop (wpAny_pyIter_listiter hit loop)
  · obtain ⟨oC, m₂, hm, hC⟩ := hSC os' hSh'
    refine hfin ys oC m₂ news' h tk htk hfin' F' (news_sub N' fun p hp => ?_) hC (Ne.symm (o2 _ hm)) fun p hp => ⟨(o1 p hp).1, (o1 p hp).2 _ hm⟩
    rcases List.mem_cons.mp hp with rfl | hp
    · exact .head _
    · rcases List.mem_cons.mp hp with rfl | hp
      · exact .tail _ (List.mem_append_left _ hm)
      · exact .tail _ (List.mem_append_right _ hp)

/-- the list is handed on -/
theorem fin_none {C D : Addr} {s : Shared} {E Q : Value → Shared → Prop} {Fin : List Value → List (Addr × Obj) → Prop}
    (hQ : ∀ D ys news' h tk, s.toks ≤ tk → Fin ys news' → Fr h₀ L h m → News h₀ L h ((D, lst ys) :: news') → (∀ p ∈ news', p.1 ≠ D) → Q (.ref D) { s with heap := h, toks := tk }) :
    ∀ ys oC m₂ news' h tk, s.toks ≤ tk → Fin ys news' → Fr h₀ L h m → News h₀ L h ((D, lst ys) :: (C, oC) :: news') → NsObj oC m₂ → D ≠ C → (∀ p ∈ news', p.1 ≠ D ∧ p.1 ≠ C) → compPost (model prog w) A E none Q (.ref D) C (.ok .next) { s with heap := h, toks := tk } := by
  intro ys oC m₂ news' h tk htk hfin F' N' hC hDC off
  have nC := N' (C, oC) (.tail _ (.head _))
  refine ⟨m₂, hC.ns nC.1, fun h'' hs'' => hQ D ys news' h'' tk htk hfin (fr_at F' (fun b x hb e => hs''.extBut b x hb e) nC.2.1 nC.2.2) (fun p hp => ?_) fun p hp => (off p hp).1⟩
  rcases List.mem_cons.mp hp with rfl | hp
  · exact ⟨hs''.extBut _ _ hDC (N' _ (.head _)).1, (N' _ (.head _)).2⟩
  · have z := N' p (.tail _ (.tail _ hp))
    exact ⟨hs''.extBut _ _ (off p hp).2 z.1, z.2⟩
/-- the list is stored in a local name of the frame -/
theorem fin_swap {env : Env} {y : Str} {py : Pos} {C D : Addr} {s : Shared} {E : Value → Shared → Prop} {Q : Flow → Shared → Prop} {Fin : List Value → List (Addr × Obj) → Prop} (hLe : env.locals = L)
    (hy : env.kindOf y = some .local) (hp : (env.scope.kind == .class || (env.scope.kind == .module && env.locals != env.globals)) = false)
    (hQ : ∀ D ys news' h tk, s.toks ≤ tk → Fin ys news' → Fr h₀ L h (fun z => if z = y then some (.ref D) else m z) → News h₀ L h ((D, lst ys) :: news') → (∀ p ∈ news', p.1 ≠ D) → Q .next { s with heap := h, toks := tk }) :
    ∀ ys oC m₂ news' h tk, s.toks ≤ tk → Fin ys news' → Fr h₀ L h m → News h₀ L h ((D, lst ys) :: (C, oC) :: news') → NsObj oC m₂ → D ≠ C → (∀ p ∈ news', p.1 ≠ D ∧ p.1 ≠ C) → compPost (model prog w) A E (some (assign (.Name y py) env)) (fun _ s' => Q .next s') (.ref D) C (.ok .next) { s with heap := h, toks := tk } := by
  subst hLe
  intro ys oC m₂ news' h tk htk hfin F' N' hC hDC off
  have nC := N' (C, oC) (.tail _ (.head _))
  show wpAny _ A (assign (.Name y py) env (.ref D)) _ _ _
  refine wpAny_assign_Name (wpAny_storeName_local hy F'.ns (fun h₂ hn₂ hs₂ => ?_) hp)
  have F₂ := F'.set hn₂ hs₂
  have N₂ := N'.set hs₂
  have nC₂ := N₂ (C, oC) (.tail _ (.head _))
  refine ⟨m₂, hC.ns nC₂.1, fun h'' hs'' => hQ D ys news' h'' _ (Nat.le_succ_of_le htk) hfin (fr_at F₂ (fun b x hb e => hs''.extBut b x hb e) nC.2.1 nC.2.2) (fun p hp => ?_) fun p hp => (off p hp).1⟩
  rcases List.mem_cons.mp hp with rfl | hp
  · exact ⟨hs''.extBut _ _ hDC (N₂ _ (.head _)).1, (N₂ _ (.head _)).2⟩
  · have z := N₂ p (.tail _ (.tail _ hp))
    exact ⟨hs''.extBut _ _ (off p hp).2 z.1, z.2⟩

/-- behind the making of the three objects: iterator, list, names -/
theorem start_at {env : Env} {elt iter : Expr} {x : Str} {px : Pos} {scope : Scope} {cl : List (Str × Addr)} {pos : Pos} {ax : Addr} {c : Nat} {its : Array Value} {s : Shared} {need news : List (Addr × Obj)} {E Q : Value → Shared → Prop} {use : Option (Value → Sem Unit)} {V : Vis} {Sh : List (Addr × Obj) → Prop} {h₁ : Heap} {mC : Str → Option Value} {oi ol : Obj} {tk₁ : Nat}
    (hh : A.handled = none) (hsz : its.size ≤ sizeLine) (as : AsT prog w A h₀ L m (compEnvC scope cl ((s.heap.push oi).push ol).objs.size env) (.Name x px) V Sh)
    {Fin : List Value → List (Addr × Obj) → Prop} (hSC : ∀ os, Sh os → ∃ oC m₂, (((s.heap.push oi).push ol).objs.size, oC) ∈ os ∧ NsObj oC m₂)
    {Ps : List (Value → List (Addr × Obj) → Prop)} (hPs : Ps.length = its.size)
    (hP : ∀ (j : Nat) v P, its[j]? = some v → Ps[j]? = some P → ElT prog w A h₀ L m (compEnvC scope cl ((s.heap.push oi).push ol).objs.size env) elt V s.toks need v P) (hrem : RemT Fin Ps [] news) (hneed : ∀ p ∈ need, p ∈ news) (hax : (ax, PySem.W.listOf its c) ∈ news)
    (F : Fr h₀ L s.heap m) (N : News h₀ L s.heap news) (hns : h₁.Ns ((s.heap.push oi).push ol).objs.size mC) (hsb : ∀ b o, b ≠ ((s.heap.push oi).push ol).objs.size → ((s.heap.push oi).push ol).get? b = some o → h₁.get? b = some o)
    (hSh : ∀ oC, h₁.get? ((s.heap.push oi).push ol).objs.size = some oC → NsObj oC mC → Sh [(((s.heap.push oi).push ol).objs.size, oC)])
    (hfin : ∀ D C ys oC m₂ news' h tk, s.toks ≤ tk → Fin ys news' → Fr h₀ L h m → News h₀ L h ((D, lst ys) :: (C, oC) :: news') → NsObj oC m₂ → D ≠ C → (∀ p ∈ news', p.1 ≠ D ∧ p.1 ≠ C) → compPost (model prog w) A E use Q (.ref D) C (.ok .next) { s with heap := h, toks := tk })
    (htk : s.toks ≤ tk₁ := by exact Nat.le_refl _) (hoi : oi = { cls := .type "list_iterator", data := .fields #[.ref ax, .int 0 0] } := by rfl) (hol : ol = lst [] := by rfl) :
    codeAny (model prog w) A (.compStart (.ListComp elt [⟨.Name x px, iter, [], 0⟩] scope pos) 0 (.ref s.heap.objs.size) (.ref (s.heap.push oi).objs.size) (compEnvC scope cl ((s.heap.push oi).push ol).objs.size env))
      (compPost (model prog w) A E use Q (.ref (s.heap.push oi).objs.size) ((s.heap.push oi).push ol).objs.size) { s with heap := h₁, toks := tk₁ } := by
  have e1 : (s.heap.push oi).objs.size = s.heap.objs.size + 1 := Heap.size_push ..
  have e2 : ((s.heap.push oi).push ol).objs.size = s.heap.objs.size + 1 + 1 := by rw [Heap.size_push, e1]
  have lt : ∀ p ∈ news, p.1 < s.heap.objs.size := fun p hp => Heap.lt_size (N p hp).1
  have hlax : ax < s.heap.objs.size := lt _ hax
  have hLs : @LT.lt Nat _ L s.heap.objs.size := F.ns.lt
  obtain ⟨oC, eC, hC⟩ := ns_obj hns
  have fresh : ∀ b, s.heap.objs.size ≤ b → h₀.get? b = none := fun b hb => Heap.get?_none_of_le (Nat.le_trans F.above (Nat.le_trans (Nat.le_of_lt hLs) hb))
  have kI : h₁.get? s.heap.objs.size = some oi := hsb _ _ (by rw [e2]; exact Nat.ne_of_lt (by omega)) (Heap.get?_push_of_some _ (Heap.get?_push_size _ (by subst hoi; rfl)))
  have kD : h₁.get? (s.heap.push oi).objs.size = some ol := hsb _ _ (by rw [e1, e2]; exact Nat.ne_of_lt (by omega)) (Heap.get?_push_size _ (by subst hol; rfl))
  have kold : ∀ b o, s.heap.get? b = some o → h₁.get? b = some o := fun b o e => hsb b o (by rw [e2]; exact Nat.ne_of_lt (Nat.lt_of_lt_of_le (Heap.lt_size e) (by omega))) (Heap.get?_push_of_some _ (Heap.get?_push_of_some _ e))
  subst hoi hol
  refine own_start (s := { s with heap := h₁, toks := tk₁ }) (c := c) (need := need) (news := news) (oI := { cls := .type "list_iterator", data := .fields #[.ref ax, .int 0 0] }) hh (by exact Nat.ne_of_lt hlax) hsz as hSC (Ps := Ps) (os := [(_, oC)]) hPs (fun j v P h1 h2 => ?_) hrem (hSh oC eC hC) hneed hax ⟨_, kI, rfl, rfl⟩ (F.keeps kold) (fun p hp => ?_) (fun p hp => ⟨Nat.ne_of_lt (lt p hp), by rw [e1]; exact Nat.ne_of_lt (Nat.lt_succ_of_lt (lt p hp)), fun q hq => ?_⟩) (fun q hq => ?_) (by rw [e1]; exact Nat.ne_of_lt (Nat.lt_succ_self _)) (fun ys oC m₂ news' h tk ht => hfin _ _ ys oC m₂ news' h tk (Nat.le_trans htk ht))
  · intro os s' Q' E' n' a1 a2 a3 a4 a5 a6 a7
    exact hP j v P h1 h2 os s' Q' E' n' a1 a2 a3 a4 a5 (Nat.le_trans htk a6) a7
  · rcases List.mem_cons.mp hp with rfl | hp
    · exact ⟨kI, Nat.ne_of_gt hLs, fresh _ (Nat.le_refl _)⟩
    · rcases List.mem_cons.mp hp with rfl | hp
      · exact ⟨kD, by show (s.heap.push _).objs.size ≠ L; rw [e1]; exact Nat.ne_of_gt (Nat.lt_succ_of_lt hLs), fresh _ (by show s.heap.objs.size ≤ (s.heap.push _).objs.size; rw [e1]; exact Nat.le_succ _)⟩
      · rcases List.mem_cons.mp hp with rfl | hp
        · exact ⟨eC, by show ((s.heap.push _).push _).objs.size ≠ L; rw [e2]; exact Nat.ne_of_gt (by omega), fresh _ (by show s.heap.objs.size ≤ ((s.heap.push _).push _).objs.size; rw [e2]; omega)⟩
        · exact ⟨kold _ _ (N p hp).1, (N p hp).2⟩
  · rw [List.mem_singleton.mp hq]
    show p.1 ≠ ((s.heap.push _).push _).objs.size
    rw [e2]; exact Nat.ne_of_lt (Nat.lt_of_lt_of_le (lt p hp) (by omega))
  · rw [List.mem_singleton.mp hq]
    show ((s.heap.push _).push _).objs.size ≠ _ ∧ ((s.heap.push _).push _).objs.size ≠ (s.heap.push _).objs.size
    rw [e2, e1]; exact ⟨Nat.ne_of_gt (by omega), Nat.ne_of_gt (by omega)⟩
/-- a comprehension over a list of the ledger, the block's name local -/
theorem comp_localK {env : Env} {elt iter : Expr} {x : Str} {px : Pos} {scope : Scope} {cl : List (Str × Addr)} {pos : Pos} {ax : Addr} {c : Nat} {its : Array Value} {s : Shared} {need news : List (Addr × Obj)} {E Q : Value → Shared → Prop} {use : Option (Value → Sem Unit)}
    (hh : A.handled = none) (hsz : its.size ≤ sizeLine) (hcell : ∀ y ∈ scope.names, y.2 ≠ .cell) (hkind : scope.kind = .function)
    (hx : scope.names.lookup x = some .local)
    {Fin : List Value → List (Addr × Obj) → Prop} {Ps : List (Value → List (Addr × Obj) → Prop)} (hPs : Ps.length = its.size)
    (hP : ∀ (C : Addr) (j : Nat) v P, its[j]? = some v → Ps[j]? = some P → ElT prog w A h₀ L m (compEnvC scope cl C env) elt (VisL C x) s.toks need v P) (hrem : RemT Fin Ps [] news) (hneed : ∀ p ∈ need, p ∈ news) (hax : (ax, PySem.W.listOf its c) ∈ news)
    (F : Fr h₀ L s.heap m) (N : News h₀ L s.heap news)
    (hfin : ∀ D C ys oC m₂ news' h tk, s.toks ≤ tk → Fin ys news' → Fr h₀ L h m → News h₀ L h ((D, lst ys) :: (C, oC) :: news') → NsObj oC m₂ → D ≠ C → (∀ p ∈ news', p.1 ≠ D ∧ p.1 ≠ C) → compPost (model prog w) A E use Q (.ref D) C (.ok .next) { s with heap := h, toks := tk }) :
    (fun xv s₁ => wpAny (model prog w) A (pyIter xv) (fun it s₂ => wpAny (model prog w) A (newList []) (fun acc s₃ =>
      wpAny (model prog w) A (newFunctionEnv scope env.globals cl [] env.qual none .none (some env)) (fun cenv s₄ =>
        codeAny (model prog w) A (.compStart (.ListComp elt [⟨.Name x px, iter, [], 0⟩] scope pos) 0 it acc { cenv with scope := relabel scope env }) (compPost (model prog w) A E use Q acc cenv.locals) s₄) E s₃) E s₂) E s₁) (.ref ax) s := by
  show wpAny _ _ (pyIter (.ref ax)) _ _ _
  have hlax : ax < s.heap.objs.size := Heap.lt_size (N _ hax).1
  have lt : ∀ p ∈ news, p.1 < s.heap.objs.size := fun p hp => Heap.lt_size (N p hp).1
  refine wpAny_pyIter_list ⟨_, (N _ hax).1, rfl, _, rfl⟩ ?_
  have F₁ := F.push (o := { cls := .type "list_iterator", data := .fields #[.ref ax, .int 0 0] })
  refine wpAny_newObj_type ?_
  have F₂ := F₁.push (o := { cls := .type "list", data := .seq ([] : List Value).toArray })
  refine wpAny_newFunctionEnv hcell (by intro y hy; simp at hy) (fun h₁ hns hsb => ?_) hkind
  dsimp only at hns hsb ⊢
  exact start_at hh hsz (as := asT_local (lookup_relabel_local hx) (by simp [compEnvC, relabel, hkind])) (by rintro os ⟨oC, m₂, rfl, hC⟩; exact ⟨oC, m₂, .head _, hC⟩) hPs (hP _) hrem hneed hax F N hns (fun b o hb e => hsb.extBut b o hb (Heap.get?_push_of_some _ e)) (fun oC e' hC => ⟨oC, _, rfl, hC⟩) hfin

theorem comp_localU {env : Env} {elt iter : Expr} {x : Str} {px : Pos} {scope : Scope} {cl : List (Str × Addr)} {pos pos' : Pos} {ax : Addr} {c : Nat} {its : Array Value} {s : Shared} {need news : List (Addr × Obj)} {E Q : Value → Shared → Prop} {use : Option (Value → Sem Unit)}
    (hh : A.handled = none) (hsz : its.size ≤ sizeLine) (hclos : closureFor scope env = pure cl) (hcell : ∀ y ∈ scope.names, y.2 ≠ .cell) (hkind : scope.kind = .function)
    (hnames : ∀ y ∈ scope.names, y.2 = .local → scope.names.lookup y.1 = some .local) (hx : scope.names.lookup x = some .local)
    (hsrc : ∀ (E : Value → Shared → Prop) (Q : Value → Shared → Prop), Q (.ref ax) s → wpAny (model prog w) A (eval iter env) Q E s)
    {Fin : List Value → List (Addr × Obj) → Prop} {Ps : List (Value → List (Addr × Obj) → Prop)} (hPs : Ps.length = its.size)
    (hP : ∀ (C : Addr) (j : Nat) v P, its[j]? = some v → Ps[j]? = some P → ElT prog w A h₀ L m (compEnvC scope cl C env) elt (VisL C x) s.toks need v P) (hrem : RemT Fin Ps [] news) (hneed : ∀ p ∈ need, p ∈ news) (hax : (ax, PySem.W.listOf its c) ∈ news)
    (F : Fr h₀ L s.heap m) (N : News h₀ L s.heap news)
    (hfin : ∀ D C ys oC m₂ news' h tk, s.toks ≤ tk → Fin ys news' → Fr h₀ L h m → News h₀ L h ((D, lst ys) :: (C, oC) :: news') → NsObj oC m₂ → D ≠ C → (∀ p ∈ news', p.1 ≠ D ∧ p.1 ≠ C) → compPost (model prog w) A E use Q (.ref D) C (.ok .next) { s with heap := h, toks := tk })
    (hs : ∀ x, foldedSetIterable iter env x = pure x := by intro _; rfl) :
    wpAny (model prog w) A (comprehension (.ListComp elt [⟨.Name x px, iter, [], 0⟩] scope pos) scope env pos' (newList []) false (eval iter env) use) Q E s := by
  refine wpAny_comprehension_free (use := use) rfl hs hclos hkind hnames (hsrc _ _ (comp_localK hh hsz hcell hkind hx hPs hP hrem hneed hax F N hfin))

/-- a comprehension over a list of the ledger, the block's name a cell of its own -/
theorem comp_cellU {env : Env} {elt iter : Expr} {x : Str} {px : Pos} {scope : Scope} {cl : List (Str × Addr)} {pos pos' : Pos} {ax : Addr} {c : Nat} {its : Array Value} {s : Shared} {need news : List (Addr × Obj)} {E Q : Value → Shared → Prop} {use : Option (Value → Sem Unit)}
    (hh : A.handled = none) (hsz : its.size ≤ sizeLine) (hclos : closureFor scope env = pure cl) (hone : ∀ n acc, cellsFrom n scope.names acc = (x, n) :: acc) (hpush : ∀ h, pushCells h scope.names = h.push { cls := .type "cell", data := .cell none }) (hkind : scope.kind = .function)
    (hnames : ∀ y ∈ scope.names, y.2 = .local → scope.names.lookup y.1 = some .local) (hx : ∀ C c, (compEnvC scope ((x, c) :: cl) C env).kindOf x = some .cell)
    (hsrc : ∀ (E : Value → Shared → Prop) (Q : Value → Shared → Prop), Q (.ref ax) s → wpAny (model prog w) A (eval iter env) Q E s)
    {Fin : List Value → List (Addr × Obj) → Prop} {Ps : List (Value → List (Addr × Obj) → Prop)} (hPs : Ps.length = its.size)
    (hP : ∀ (C c : Addr) (j : Nat) v P, its[j]? = some v → Ps[j]? = some P → ElT prog w A h₀ L m (compEnvC scope ((x, c) :: cl) C env) elt (VisC C c) s.toks need v P) (hrem : RemT Fin Ps [] news) (hneed : ∀ p ∈ need, p ∈ news) (hax : (ax, PySem.W.listOf its c) ∈ news)
    (F : Fr h₀ L s.heap m) (N : News h₀ L s.heap news)
    (hfin : ∀ D C ys oC m₂ news' h tk, s.toks ≤ tk → Fin ys news' → Fr h₀ L h m → News h₀ L h ((D, lst ys) :: (C, oC) :: news') → NsObj oC m₂ → D ≠ C → (∀ p ∈ news', p.1 ≠ D ∧ p.1 ≠ C) → compPost (model prog w) A E use Q (.ref D) C (.ok .next) { s with heap := h, toks := tk })
    (hs : ∀ x, foldedSetIterable iter env x = pure x := by intro _; rfl) :
    wpAny (model prog w) A (comprehension (.ListComp elt [⟨.Name x px, iter, [], 0⟩] scope pos) scope env pos' (newList []) false (eval iter env) use) Q E s := by
  refine wpAny_comprehension_free (use := use) rfl hs hclos hkind hnames (hsrc _ _ ?_)
  refine wpAny_pyIter_list ⟨_, (N _ hax).1, rfl, _, rfl⟩ ?_
  refine wpAny_newObj_type ?_
  simp only [newFunctionEnv, Option.isSome_some, if_true]
  refine wpAny_bind (wpAny_alloc ?_)
  refine wpAny_bind (wpAny_layCells _ (fun name kind cells => by cases hkc : kind == NameKind.cell <;> simp [hkc]) _ _ _ _ ?_)
  rw [hone, hpush]
  refine wpAny_bind ?_
  rw [List.forIn_nil]
  refine wpAny_pure (wpAny_pure ?_)
  dsimp only
  have lt : ∀ p ∈ news, p.1 < s.heap.objs.size := fun p hp => Heap.lt_size (N p hp).1
  have hlax : ax < s.heap.objs.size := lt _ hax
  have hLs : @LT.lt Nat _ L s.heap.objs.size := F.ns.lt
  have fresh : ∀ b, s.heap.objs.size ≤ b → h₀.get? b = none := fun b hb => Heap.get?_none_of_le (Nat.le_trans F.above (Nat.le_trans (Nat.le_of_lt hLs) hb))
  generalize ho1 : ({ cls := .type "list_iterator", data := .fields #[.ref ax, .int 0 0] } : Obj) = o1
  generalize ho2 : ({ cls := .type "list", data := .seq ([] : List Value).toArray } : Obj) = o2
  have ho2' : o2 = lst [] := ho2.symm
  generalize ho3 : ({ cls := .type "dict", data := .dict #[] } : Obj) = o3
  generalize ho4 : ({ cls := .type "cell", data := .cell none } : Obj) = o4
  have e1 : (s.heap.push o1).objs.size = s.heap.objs.size + 1 := Heap.size_push ..
  have e2 : ((s.heap.push o1).push o2).objs.size = s.heap.objs.size + 2 := by rw [Heap.size_push, e1]
  have e3 : (((s.heap.push o1).push o2).push o3).objs.size = s.heap.objs.size + 3 := by rw [Heap.size_push, e2]
  have k4 : ((((s.heap.push o1).push o2).push o3).push o4).get? (((s.heap.push o1).push o2).push o3).objs.size = some o4 := Heap.get?_push_size _ (by subst ho4; rfl)
  have k3 : ((((s.heap.push o1).push o2).push o3).push o4).get? ((s.heap.push o1).push o2).objs.size = some o3 := Heap.get?_push_of_some _ (Heap.get?_push_size _ (by subst ho3; rfl))
  have k2 : ((((s.heap.push o1).push o2).push o3).push o4).get? (s.heap.push o1).objs.size = some o2 := Heap.get?_push_of_some _ (Heap.get?_push_of_some _ (Heap.get?_push_size _ (by subst ho2; rfl)))
  have k1 : ((((s.heap.push o1).push o2).push o3).push o4).get? s.heap.objs.size = some o1 := Heap.get?_push_of_some _ (Heap.get?_push_of_some _ (Heap.get?_push_of_some _ (Heap.get?_push_size _ (by subst ho1; rfl))))
  have kold : ∀ b o, s.heap.get? b = some o → ((((s.heap.push o1).push o2).push o3).push o4).get? b = some o := fun b o e => Heap.get?_push_of_some _ (Heap.get?_push_of_some _ (Heap.get?_push_of_some _ (Heap.get?_push_of_some _ e)))
  have n3 : NsObj o3 (fun _ => none) := by
    obtain ⟨o, e, r⟩ := ns_obj (Heap.Ns.new ((s.heap.push o1).push o2) (.type "dict"))
    rw [ho3] at e
    have := Heap.get?_push_size ((s.heap.push o1).push o2) (o := o3) (by subst ho3; rfl)
    rw [this] at e; cases e; exact r
  rw [e1, e2, e3] at *
  generalize s.heap.objs.size = n at *
  refine own_start (prog := prog) (s := { s with heap := (((s.heap.push o1).push o2).push o3).push o4 }) (c := c) (need := need) (news := news) (oI := o1) (V := VisC (n + 2) (n + 3)) (Sh := ShC (n + 2) (n + 3)) (Ps := Ps) (os := [(n + 2, o3), (n + 3, o4)]) (cenv := compEnvC scope ((x, n + 3) :: cl) (n + 2) env)
    hh (by exact Nat.ne_of_lt hlax) hsz (asT_cell (cenv := compEnvC scope ((x, n + 3) :: cl) (n + 2) env) hkind (hx _ _) (by simp [compEnvC])) (by rintro os ⟨oC, m₂, oc, v, rfl, hC, _⟩; exact ⟨oC, m₂, .head _, hC⟩) hPs (hP _ _) hrem
    ⟨o3, _, o4, none, rfl, n3, by subst ho4; rfl, by exact Nat.ne_of_gt (Nat.lt_succ_self _)⟩ hneed hax ⟨_, k1, by subst ho1; rfl, by subst ho1; rfl⟩ (F.keeps kold) (fun p hp => ?_) (fun p hp => ⟨Nat.ne_of_lt (lt p hp), Nat.ne_of_lt (Nat.lt_succ_of_lt (lt p hp)), fun q hq => ?_⟩) (fun q hq => ?_) (Nat.ne_of_lt (Nat.lt_succ_self _)) (hfin (n + 1) (n + 2))
  · rcases List.mem_cons.mp hp with rfl | hp
    · exact ⟨k1, Nat.ne_of_gt hLs, fresh _ (Nat.le_refl _)⟩
    · rcases List.mem_cons.mp hp with rfl | hp
      · exact ⟨by rw [← ho2']; exact k2, Nat.ne_of_gt (Nat.lt_succ_of_lt hLs), fresh _ (Nat.le_succ _)⟩
      · rcases List.mem_cons.mp hp with rfl | hp
        · exact ⟨k3, Nat.ne_of_gt (Nat.lt_of_lt_of_le hLs (Nat.le_add_right _ 2)), fresh _ (Nat.le_add_right _ 2)⟩
        · rcases List.mem_cons.mp hp with rfl | hp
          · exact ⟨k4, Nat.ne_of_gt (Nat.lt_of_lt_of_le hLs (Nat.le_add_right _ 3)), fresh _ (Nat.le_add_right _ 3)⟩
          · exact ⟨kold _ _ (N p hp).1, (N p hp).2⟩
  · rcases List.mem_cons.mp hq with rfl | hq
    · exact Nat.ne_of_lt (Nat.lt_of_lt_of_le (lt p hp) (Nat.le_add_right _ 2))
    · rw [List.mem_singleton.mp hq]; exact Nat.ne_of_lt (Nat.lt_of_lt_of_le (lt p hp) (Nat.le_add_right _ 3))
  · rcases List.mem_cons.mp hq with rfl | hq
    · exact ⟨Nat.ne_of_gt (by show n < n + 2; omega), Nat.ne_of_gt (by show n + 1 < n + 2; omega)⟩
    · rw [List.mem_singleton.mp hq]; exact ⟨Nat.ne_of_gt (by show n < n + 3; omega), Nat.ne_of_gt (by show n + 1 < n + 3; omega)⟩
end
end Mine
namespace Mine
set_option maxRecDepth 100000
set_option maxHeartbeats 8000000
section
variable {prog : Program} {w : World} {A : Around} {h₀ : Heap} {L : Addr} {m : Str → Option Value}
theorem comp_local {env : Env} {elt iter : Expr} {x : Str} {px : Pos} {scope : Scope} {cl : List (Str × Addr)} {pos : Pos} {ax : Addr} {c : Nat} {its : Array Value} {s : Shared} {need news : List (Addr × Obj)} {E Q : Value → Shared → Prop}
    (hh : A.handled = none) (hsz : its.size ≤ sizeLine) (hclos : closureFor scope env = pure cl) (hcell : ∀ y ∈ scope.names, y.2 ≠ .cell) (hkind : scope.kind = .function)
    (hnames : ∀ y ∈ scope.names, y.2 = .local → scope.names.lookup y.1 = some .local) (hx : scope.names.lookup x = some .local)
    (hsrc : ∀ (E : Value → Shared → Prop) (Q : Value → Shared → Prop), Q (.ref ax) s → wpAny (model prog w) A (eval iter env) Q E s)
    {Fin : List Value → List (Addr × Obj) → Prop} {Ps : List (Value → List (Addr × Obj) → Prop)} (hPs : Ps.length = its.size)
    (hP : ∀ (C : Addr) (j : Nat) v P, its[j]? = some v → Ps[j]? = some P → ElT prog w A h₀ L m (compEnvC scope cl C env) elt (VisL C x) s.toks need v P) (hrem : RemT Fin Ps [] news) (hneed : ∀ p ∈ need, p ∈ news) (hax : (ax, PySem.W.listOf its c) ∈ news)
    (F : Fr h₀ L s.heap m) (N : News h₀ L s.heap news)
    (hQ : ∀ D ys news' h tk, s.toks ≤ tk → Fin ys news' → Fr h₀ L h m → News h₀ L h ((D, lst ys) :: news') → (∀ p ∈ news', p.1 ≠ D) → Q (.ref D) { s with heap := h, toks := tk })
    (hs : ∀ x, foldedSetIterable iter env x = pure x := by intro _; rfl) :
    wpAny (model prog w) A (eval (.ListComp elt [⟨.Name x px, iter, [], 0⟩] scope pos) env) Q E s := by
  rw [eval_ListComp]
  exact comp_localU (use := none) hh hsz hclos hcell hkind hnames hx hsrc hPs hP hrem hneed hax F N (fun D C => fin_none hQ) hs
theorem assign_comp {env : Env} {elt iter : Expr} {x y : Str} {px py : Pos} {scope : Scope} {cl : List (Str × Addr)} {pos spos : Pos} {s : Shared} {E : Value → Shared → Prop} {Q : Flow → Shared → Prop}
    (hclos : closureFor scope env = pure cl) (hkind : scope.kind = .function) (hnames : ∀ y ∈ scope.names, y.2 = .local → scope.names.lookup y.1 = some .local)
    (hsw : swapsWith (.ListComp elt [⟨.Name x px, iter, [], 0⟩] scope pos) (some (.Name y py)) spos.line env = pure true)
    (h : wpAny (model prog w) A (eval iter env) (fun xv s₁ => wpAny (model prog w) A (pyIter xv) (fun it s₂ => wpAny (model prog w) A (newList []) (fun acc s₃ =>
      wpAny (model prog w) A (newFunctionEnv scope env.globals cl [] env.qual none .none (some env)) (fun cenv s₄ =>
        codeAny (model prog w) A (.compStart (.ListComp elt [⟨.Name x px, iter, [], 0⟩] scope pos) 0 it acc { cenv with scope := relabel scope env }) (compPost (model prog w) A E (some (assign (.Name y py) env)) (fun _ s' => Q .next s') acc cenv.locals) s₄) E s₃) E s₂) E s₁) E s)
    (hs : ∀ x, foldedSetIterable iter env x = pure x := by intro _; rfl) :
    wpAny (model prog w) A (exec (.Assign [.Name y py] (.ListComp elt [⟨.Name x px, iter, [], 0⟩] scope pos) spos) env) Q E s := by
  rw [exec_Assign_Name_used _ _ _ _ hsw]
  refine wpAny_bind (wpAny_standAt (wpAny_bind ?_))
  show wpAny _ A (do let _ ← comprehension (.ListComp elt [⟨.Name x px, iter, [], 0⟩] scope pos) scope env _ (newList []) false (eval iter env) (some (assign (.Name y py) env))) _ _ s
  exact wpAny_bind (wpAny_mono (wpAny_comprehension_free (use := some (assign (.Name y py) env)) (Q := fun _ s' => Q .next s') rfl hs hclos hkind hnames h) (fun _ s' hq => wpAny_pure (wpAny_pure hq)) fun _ _ e => e)
theorem comp_localA {env : Env} {elt iter : Expr} {x : Str} {px : Pos} {scope : Scope} {cl : List (Str × Addr)} {pos : Pos} {ax : Addr} {c : Nat} {its : Array Value} {s : Shared} {need news : List (Addr × Obj)} {E : Value → Shared → Prop} {Q : Flow → Shared → Prop} {y : Str} {py spos : Pos}
    (hh : A.handled = none) (hsz : its.size ≤ sizeLine) (hclos : closureFor scope env = pure cl) (hcell : ∀ y ∈ scope.names, y.2 ≠ .cell) (hkind : scope.kind = .function)
    (hnames : ∀ y ∈ scope.names, y.2 = .local → scope.names.lookup y.1 = some .local) (hx : scope.names.lookup x = some .local)
    (hsrc : ∀ (E : Value → Shared → Prop) (Q : Value → Shared → Prop), Q (.ref ax) s → wpAny (model prog w) A (eval iter env) Q E s)
    {Fin : List Value → List (Addr × Obj) → Prop} {Ps : List (Value → List (Addr × Obj) → Prop)} (hPs : Ps.length = its.size)
    (hP : ∀ (C : Addr) (j : Nat) v P, its[j]? = some v → Ps[j]? = some P → ElT prog w A h₀ L m (compEnvC scope cl C env) elt (VisL C x) s.toks need v P) (hrem : RemT Fin Ps [] news) (hneed : ∀ p ∈ need, p ∈ news) (hax : (ax, PySem.W.listOf its c) ∈ news)
    (F : Fr h₀ L s.heap m) (N : News h₀ L s.heap news)
    (hQ : ∀ D ys news' h tk, s.toks ≤ tk → Fin ys news' → Fr h₀ L h (fun z => if z = y then some (.ref D) else m z) → News h₀ L h ((D, lst ys) :: news') → (∀ p ∈ news', p.1 ≠ D) → Q .next { s with heap := h, toks := tk })
    (hLe : env.locals = L) (hsw : swapsWith (.ListComp elt [⟨.Name x px, iter, [], 0⟩] scope pos) (some (.Name y py)) spos.line env = pure true) (hy : env.kindOf y = some .local) (hp : (env.scope.kind == .class || (env.scope.kind == .module && env.locals != env.globals)) = false)
    (hs : ∀ x, foldedSetIterable iter env x = pure x := by intro _; rfl) :
    wpAny (model prog w) A (exec (.Assign [.Name y py] (.ListComp elt [⟨.Name x px, iter, [], 0⟩] scope pos) spos) env) Q E s := by
  rw [exec_Assign_Name_used _ _ _ _ hsw]
  refine wpAny_bind (wpAny_standAt (wpAny_bind ?_))
  show wpAny _ A (do let _ ← comprehension (.ListComp elt [⟨.Name x px, iter, [], 0⟩] scope pos) scope env _ (newList []) false (eval iter env) (some (assign (.Name y py) env))) _ _ s
  refine wpAny_bind (wpAny_mono (comp_localU (use := some (assign (.Name y py) env)) (Q := fun _ s' => Q .next s') hh hsz hclos hcell hkind hnames hx hsrc hPs hP hrem hneed hax F N (fun D C => fin_swap hLe hy hp hQ) hs) (fun _ s' hq => wpAny_pure (wpAny_pure hq)) fun _ _ e => e)
theorem comp_cell {env : Env} {elt iter : Expr} {x : Str} {px : Pos} {scope : Scope} {cl : List (Str × Addr)} {pos : Pos} {ax : Addr} {c : Nat} {its : Array Value} {s : Shared} {need news : List (Addr × Obj)} {E Q : Value → Shared → Prop}
    (hh : A.handled = none) (hsz : its.size ≤ sizeLine) (hclos : closureFor scope env = pure cl) (hone : ∀ n acc, cellsFrom n scope.names acc = (x, n) :: acc) (hpush : ∀ h, pushCells h scope.names = h.push { cls := .type "cell", data := .cell none }) (hkind : scope.kind = .function)
    (hnames : ∀ y ∈ scope.names, y.2 = .local → scope.names.lookup y.1 = some .local) (hx : ∀ C c, (compEnvC scope ((x, c) :: cl) C env).kindOf x = some .cell)
    (hsrc : ∀ (E : Value → Shared → Prop) (Q : Value → Shared → Prop), Q (.ref ax) s → wpAny (model prog w) A (eval iter env) Q E s)
    {Fin : List Value → List (Addr × Obj) → Prop} {Ps : List (Value → List (Addr × Obj) → Prop)} (hPs : Ps.length = its.size)
    (hP : ∀ (C c : Addr) (j : Nat) v P, its[j]? = some v → Ps[j]? = some P → ElT prog w A h₀ L m (compEnvC scope ((x, c) :: cl) C env) elt (VisC C c) s.toks need v P) (hrem : RemT Fin Ps [] news) (hneed : ∀ p ∈ need, p ∈ news) (hax : (ax, PySem.W.listOf its c) ∈ news)
    (F : Fr h₀ L s.heap m) (N : News h₀ L s.heap news)
    (hQ : ∀ D ys news' h tk, s.toks ≤ tk → Fin ys news' → Fr h₀ L h m → News h₀ L h ((D, lst ys) :: news') → (∀ p ∈ news', p.1 ≠ D) → Q (.ref D) { s with heap := h, toks := tk })
    (hs : ∀ x, foldedSetIterable iter env x = pure x := by intro _; rfl) :
    wpAny (model prog w) A (eval (.ListComp elt [⟨.Name x px, iter, [], 0⟩] scope pos) env) Q E s := by
  rw [eval_ListComp]
  exact comp_cellU (use := none) hh hsz hclos hone hpush hkind hnames hx hsrc hPs hP hrem hneed hax F N (fun D C => fin_none hQ) hs
theorem comp_cellA {env : Env} {elt iter : Expr} {x : Str} {px : Pos} {scope : Scope} {cl : List (Str × Addr)} {pos : Pos} {ax : Addr} {c : Nat} {its : Array Value} {s : Shared} {need news : List (Addr × Obj)} {E : Value → Shared → Prop} {Q : Flow → Shared → Prop} {y : Str} {py spos : Pos}
    (hh : A.handled = none) (hsz : its.size ≤ sizeLine) (hclos : closureFor scope env = pure cl) (hone : ∀ n acc, cellsFrom n scope.names acc = (x, n) :: acc) (hpush : ∀ h, pushCells h scope.names = h.push { cls := .type "cell", data := .cell none }) (hkind : scope.kind = .function)
    (hnames : ∀ y ∈ scope.names, y.2 = .local → scope.names.lookup y.1 = some .local) (hx : ∀ C c, (compEnvC scope ((x, c) :: cl) C env).kindOf x = some .cell)
    (hsrc : ∀ (E : Value → Shared → Prop) (Q : Value → Shared → Prop), Q (.ref ax) s → wpAny (model prog w) A (eval iter env) Q E s)
    {Fin : List Value → List (Addr × Obj) → Prop} {Ps : List (Value → List (Addr × Obj) → Prop)} (hPs : Ps.length = its.size)
    (hP : ∀ (C c : Addr) (j : Nat) v P, its[j]? = some v → Ps[j]? = some P → ElT prog w A h₀ L m (compEnvC scope ((x, c) :: cl) C env) elt (VisC C c) s.toks need v P) (hrem : RemT Fin Ps [] news) (hneed : ∀ p ∈ need, p ∈ news) (hax : (ax, PySem.W.listOf its c) ∈ news)
    (F : Fr h₀ L s.heap m) (N : News h₀ L s.heap news)
    (hQ : ∀ D ys news' h tk, s.toks ≤ tk → Fin ys news' → Fr h₀ L h (fun z => if z = y then some (.ref D) else m z) → News h₀ L h ((D, lst ys) :: news') → (∀ p ∈ news', p.1 ≠ D) → Q .next { s with heap := h, toks := tk })
    (hLe : env.locals = L) (hsw : swapsWith (.ListComp elt [⟨.Name x px, iter, [], 0⟩] scope pos) (some (.Name y py)) spos.line env = pure true) (hy : env.kindOf y = some .local) (hp : (env.scope.kind == .class || (env.scope.kind == .module && env.locals != env.globals)) = false)
    (hs : ∀ x, foldedSetIterable iter env x = pure x := by intro _; rfl) :
    wpAny (model prog w) A (exec (.Assign [.Name y py] (.ListComp elt [⟨.Name x px, iter, [], 0⟩] scope pos) spos) env) Q E s := by
  rw [exec_Assign_Name_used _ _ _ _ hsw]
  refine wpAny_bind (wpAny_standAt (wpAny_bind ?_))
  show wpAny _ A (do let _ ← comprehension (.ListComp elt [⟨.Name x px, iter, [], 0⟩] scope pos) scope env _ (newList []) false (eval iter env) (some (assign (.Name y py) env))) _ _ s
  refine wpAny_bind (wpAny_mono (comp_cellU (use := some (assign (.Name y py) env)) (Q := fun _ s' => Q .next s') hh hsz hclos hone hpush hkind hnames hx hsrc hPs hP hrem hneed hax F N (fun D C => fin_swap hLe hy hp hQ) hs) (fun _ s' hq => wpAny_pure (wpAny_pure hq)) fun _ _ e => e)
end
theorem idx1 {α β : Type} {R : α → β → Prop} {a : α} {x : β} (h0 : R a x) : ∀ (j : Nat) v P, #[a][j]? = some v → [x][j]? = some P → R v P
  | 0, v, P, h, h' => by cases (Option.some.inj h); cases (Option.some.inj h'); exact h0
  | j + 1, v, P, h, h' => by simp at h
theorem idx2 {α β : Type} {R : α → β → Prop} {a b : α} {x y : β} (h0 : R a x) (h1 : R b y) : ∀ (j : Nat) v P, #[a, b][j]? = some v → [x, y][j]? = some P → R v P
  | 0, v, P, h, h' => by cases (Option.some.inj h); cases (Option.some.inj h'); exact h0
  | 1, v, P, h, h' => by cases (Option.some.inj h); cases (Option.some.inj h'); exact h1
  | j + 2, v, P, h, h' => by simp at h'
theorem idx3 {α β : Type} {R : α → β → Prop} {a b c : α} {x y z : β} (h0 : R a x) (h1 : R b y) (h2 : R c z) : ∀ (j : Nat) v P, #[a, b, c][j]? = some v → [x, y, z][j]? = some P → R v P
  | 0, v, P, h, h' => by cases (Option.some.inj h); cases (Option.some.inj h'); exact h0
  | 1, v, P, h, h' => by cases (Option.some.inj h); cases (Option.some.inj h'); exact h1
  | 2, v, P, h, h' => by cases (Option.some.inj h); cases (Option.some.inj h'); exact h2
  | j + 3, v, P, h, h' => by simp at h'
end Mine
end
namespace Mine
theorem freshAtForT : True := by
  (try (walk1; fail))
  w_top off
  trivial
end Mine
section
open PySem PySem.W PySem.Calls PyProof.Rows PyProof.Rows.LCg
set_option autoImplicit false
namespace Mine
set_option maxRecDepth 100000
set_option maxHeartbeats 8000000
section
variable {prog : Program} {w : World} {A : Around} {h₀ : Heap} {L : Addr}

/-- a turn's end -/
def TurnEnd (h₀ : Heap) (L I : Addr) (oI : Obj) (st : List (Addr × Obj)) (J : (Str → Option Value) → List (Addr × Obj) → Prop) (s₁ : Shared) (Q : Flow → Shared → Prop) (f : Flow) (s₃ : Shared) : Prop :=
  match f with
  | .ret v => Q (.ret v) s₃
  | .brk => Q .next s₃
  | _ => ∃ h' tk' m' news', s₃ = { s₁ with heap := h', toks := tk' } ∧ Fr h₀ L h' m' ∧ News h₀ L h' ((I, oI) :: (st ++ news')) ∧ (∀ p ∈ st ++ news', p.1 ≠ I) ∧ J m' news'
theorem TurnEnd.intro {I : Addr} {oI : Obj} {st : List (Addr × Obj)} {J : (Str → Option Value) → List (Addr × Obj) → Prop} {s₁ : Shared} {Q : Flow → Shared → Prop} {h' : Heap} {tk' : Nat} {m' : Str → Option Value} {news' : List (Addr × Obj)}
    (F : Fr h₀ L h' m') (N : News h₀ L h' ((I, oI) :: (st ++ news'))) (off : ∀ p ∈ st ++ news', p.1 ≠ I) (hJ : J m' news') : TurnEnd h₀ L I oI st J s₁ Q .next { s₁ with heap := h', toks := tk' } := ⟨h', tk', m', news', rfl, F, N, off, hJ⟩

theorem own_for {env : Env} {target : Expr} {body : List Stmt} {I : Addr} {n : Nat} {P : Nat → Value → Prop} {St : Nat → Heap → Prop} {st : List (Addr × Obj)} {s : Shared} {m : Str → Option Value} {news : List (Addr × Obj)} {oI : Obj} {Q : Flow → Shared → Prop} {E : Value → Shared → Prop}
    (W : Walks prog w A I (I :: st.map (·.1)) [I] n P St) (hal : ∀ i h, St i h → ∃ o, h.get? I = some o)
    (hgo : ∀ i (s' : Shared) v (Q' : Unit → Shared → Prop) (E' : Value → Shared → Prop), St i s'.heap → Q' () s' → wpAny (model prog w) A (letOwnedTupleGo target (.ref I) v) Q' E' s')
    (J : Nat → (Str → Option Value) → List (Addr × Obj) → Prop) (hE : PassesOwn (model prog w) A env E)
    (hst : St 0 s.heap) (F : Fr h₀ L s.heap m) (N : News h₀ L s.heap ((I, oI) :: (st ++ news))) (off : ∀ p ∈ st ++ news, p.1 ≠ I) (hJ : J 0 m news)
    (turn : ∀ i v m news oI h tk, i < n → P i v → J i m news → Fr h₀ L h m → News h₀ L h ((I, oI) :: (st ++ news)) → (∀ p ∈ st ++ news, p.1 ≠ I) → s.toks ≤ tk →
      wpAny (model prog w) A (assign target env v) (fun _ s₂ => wpAny (model prog w) A (execs body env) (TurnEnd h₀ L I oI st (J (i + 1)) { s with heap := h, toks := tk } Q) E s₂) E { s with heap := h, toks := tk })
    (done : ∀ m news h tk, J n m news → Fr h₀ L h m → News h₀ L h (st ++ news) → s.toks ≤ tk → Q .next { s with heap := h, toks := tk }) :
    codeAny (model prog w) A (.forLoop target (.ref I) body [] env) (fun r s' => match r with | .ok f => Q f s' | .error e => cameBackBy (model prog w) A env E e s') s := by
  have nI := N (I, oI) (.head _)
  refine codeAny_forLoop_any (fun k s' => ∃ i m news oI h tk, k = n + 1 - i ∧ s' = { s with heap := h, toks := tk } ∧ i ≤ n ∧ St i h ∧ J i m news ∧ Fr h₀ L h m ∧ News h₀ L h ((I, oI) :: (st ++ news)) ∧ (∀ p ∈ st ++ news, p.1 ≠ I) ∧ s.toks ≤ tk) ?_ (n + 1)
    ⟨0, m, news, oI, s.heap, s.toks, rfl, rfl, Nat.zero_le _, hst, hJ, F, N, off, Nat.le_refl _⟩
  rintro k s' ⟨i, m, news, oI, h, tk, rfl, rfl, hi, hst, hJ, F, N, off, htk⟩
  by_cases hlt : i < n
  · refine wpAny_with_toks (n := s.toks) htk (W.item i _ _ _ hlt hst fun v h₁ tk₁ hP hst₁ hk₁ htk₁ => ?_)
    have hk₁' : ∀ b x, b ≠ I → h.get? b = some x → h₁.get? b = some x := fun b x hb e => hk₁ b x (by simpa using hb) e
    have nI := N (I, oI) (.head _)
    obtain ⟨o₁, ho₁⟩ := hal _ _ hst₁
    have F₁ := fr_at F hk₁' nI.2.1 nI.2.2
    have N₁ : News h₀ L h₁ ((I, o₁) :: (st ++ news)) := news_at (pre := []) N hk₁' ho₁ (fun _ q => nomatch q) off
    refine hgo (i + 1) _ v _ _ hst₁ ?_
    have tn := wpAny_mono (turn i v m news o₁ h₁ tk₁ hlt hP hJ F₁ N₁ off htk₁) (fun _ s₂ h₂ => h₂) hE
    refine wpAny_with_toks (n := s.toks) htk₁ (wpAny_mono tn (fun _ s₂ h₂ htk₂ => ?_) fun _ _ e _ => e)
    refine wpAny_with_toks (n := s.toks) htk₂ (wpAny_mono (wpAny_mono h₂ (fun _ _ x => x) hE) (fun f s₃ h₃ htk₃ => ?_) fun _ _ e _ => e)
    have fin : TurnEnd h₀ L I o₁ st (J (i + 1)) { s with heap := h₁, toks := tk₁ } Q .next s₃ → ∃ m_1, m_1 < n + 1 - i ∧ ∃ i m news oI h tk, m_1 = n + 1 - i ∧ s₃ = { s with heap := h, toks := tk } ∧ i ≤ n ∧ St i h ∧ J i m news ∧ Fr h₀ L h m ∧ News h₀ L h ((I, oI) :: (st ++ news)) ∧ (∀ p ∈ st ++ news, p.1 ≠ I) ∧ s.toks ≤ tk := by
      rintro ⟨h', tk', m', news', rfl, F', N', off', J'⟩
      refine ⟨n + 1 - (i + 1), by omega, i + 1, m', news', o₁, h', tk', rfl, rfl, hlt, W.frame _ _ _ hst₁ fun b hb o e => ?_, J', F', N', off', htk₃⟩
      rcases List.mem_cons.mp hb with rfl | hb
      · rw [ho₁] at e; cases e; exact (N' _ (.head _)).1
      · obtain ⟨p, hp, rfl⟩ := List.mem_map.mp hb
        have e1 := (N₁ p (.tail _ (List.mem_append_left _ hp))).1
        rw [e1] at e; cases e
        exact (N' p (.tail _ (List.mem_append_left _ hp))).1
    cases f with
    | ret v => exact h₃
    | brk => exact h₃
    | next => exact fin h₃
    | cont => exact fin h₃
  · obtain rfl : i = n := Nat.le_antisymm hi (Nat.not_lt.mp hlt)
    refine wpAny_with_toks (n := s.toks) htk (W.done _ _ _ hst fun h₁ tk₁ hk₁ htk₁ => wpAny_execs_nil ?_)
    have hk₁' : ∀ b x, b ≠ I → h.get? b = some x → h₁.get? b = some x := fun b x hb e => hk₁ b x (by simpa using hb) e
    exact done m news h₁ tk₁ hJ (fr_at F hk₁' nI.2.1 nI.2.2) (fun p hp => ⟨hk₁' _ _ (off p hp) (N p (.tail _ hp)).1, (N p (.tail _ hp)).2⟩) htk₁

/-- a for over a tuple of the ledger -/
theorem for_tuple {env : Env} {target iter : Expr} {body : List Stmt} {pos : Pos} {its : Array Value} {s : Shared} {Q : Flow → Shared → Prop} {E : Value → Shared → Prop}
    (hh : A.handled = none) (J : Nat → (Str → Option Value) → List (Addr × Obj) → Prop) (hE : PassesOwn (model prog w) A env E)
    (hiter : wpAny (model prog w) A (eval iter env) (fun xv s₁ => ∃ T c m news, xv = .ref T ∧ (∃ h tk, s₁ = { s with heap := h, toks := tk }) ∧ Fr h₀ L s₁.heap m ∧ News h₀ L s₁.heap ((T, tupOf its c) :: news) ∧ (∀ p ∈ news, p.1 ≠ T) ∧ J 0 m news ∧ s.toks ≤ s₁.toks) E s)
    (turn : ∀ i v m news own h tk, its[i]? = some v → J i m news → Fr h₀ L h m → News h₀ L h (own ++ news) → (∀ p ∈ news, ∀ q ∈ own, p.1 ≠ q.1) → s.toks ≤ tk →
      wpAny (model prog w) A (assign target env v) (fun _ s₂ => wpAny (model prog w) A (execs body env) (fun f s₃ => match f with
        | .ret v => Q (.ret v) s₃
        | .brk => Q .next s₃
        | _ => ∃ h' tk' m' news', s₃ = { s with heap := h', toks := tk' } ∧ Fr h₀ L h' m' ∧ News h₀ L h' (own ++ news') ∧ (∀ p ∈ news', ∀ q ∈ own, p.1 ≠ q.1) ∧ J (i + 1) m' news') E s₂) E { s with heap := h, toks := tk })
    (done : ∀ m news h tk, J its.size m news → Fr h₀ L h m → News h₀ L h news → s.toks ≤ tk → Q .next { s with heap := h, toks := tk })
    (hs : ∀ x, foldedSetIterable iter env x = pure x := by intro _; rfl) :
    wpAny (model prog w) A (exec (.For target iter body [] pos) env) Q E s := by
  refine wpAny_For (wpAny_mono hiter (fun xv s₁ h₁ => ?_) fun _ _ e => e) hs
  obtain ⟨T, c, m, news, rfl, ⟨h, tk, rfl⟩, F, N, oT, hJ, htk⟩ := h₁
  have nT := N (T, tupOf its c) (.head _)
  have hT : Heap.IsTuple h T its := ⟨_, nT.1, rfl, _, rfl⟩
  refine wpAny_pyIter_tuple hT ?_
  generalize ho : ({ cls := .type "tuple_iterator", data := .fields #[.ref T, .int 0 0] } : Obj) = o1
  have lt : ∀ b o, h.get? b = some o → b ≠ h.objs.size := fun b o e => Nat.ne_of_lt (Heap.lt_size e)
  have gI : (h.push o1).get? h.objs.size = some o1 := Heap.get?_push_size _ (by subst ho; rfl)
  have nI := next_is_new F
  have W := Walks.tuple (prog := prog) (w := w) hh h.objs.size T (lt _ _ nT.1) its
  refine own_for (L := L) (h₀ := h₀) (s := { s with heap := h.push o1, toks := tk }) (st := [(T, tupOf its c)]) (oI := o1) (m := m) (news := news) W (fun i h' e => by obtain ⟨o, e1, _⟩ := e.1; exact ⟨o, e1⟩) (fun i s' v Q' E' e k => letGo_tupleiter e.1 k)
    (fun i m news => J i m news ∧ ∀ p ∈ news, p.1 ≠ T) hE ⟨⟨o1, gI, by subst ho; rfl, by subst ho; rfl⟩, _, Heap.get?_push_of_some _ nT.1, rfl, _, rfl⟩ (F.push _) (fun p hp => ?_) (fun p hp => ?_) ⟨hJ, oT⟩ ?_ ?_
  · rcases List.mem_cons.mp hp with rfl | hp
    · exact ⟨gI, Nat.ne_of_gt F.ns.lt, nI⟩
    · exact ⟨Heap.get?_push_of_some _ (N p hp).1, (N p hp).2⟩
  · exact lt _ _ (N p hp).1
  · rintro i v m news oI h' tk' hi hv ⟨hJ', oT'⟩ F' N' off' htk'
    refine wpAny_mono (turn i v m news [(h.objs.size, oI), (T, tupOf its c)] h' tk' hv hJ' F' N' (fun p hp q hq => ?_) (Nat.le_trans htk htk')) (fun _ s₂ h₂ => wpAny_mono h₂ (fun f s₃ h₃ => ?_) fun _ _ e => e) fun _ _ e => e
    · rcases List.mem_cons.mp hq with rfl | hq
      · exact off' p (.tail _ hp)
      · rw [List.mem_singleton.mp hq]; exact oT' p hp
    · cases f with
      | ret v => exact h₃
      | brk => exact h₃
      | next =>
        obtain ⟨h2, tk2, m2, news2, rfl, F2, N2, o2, J2⟩ := h₃
        exact ⟨h2, tk2, m2, news2, rfl, F2, N2, fun p hp => (List.mem_cons.mp hp).elim (fun e => e ▸ off' _ (.head _)) fun hp => o2 p hp _ (.head _), J2, fun p hp => o2 p hp _ (.tail _ (.head _))⟩
      | cont =>
        obtain ⟨h2, tk2, m2, news2, rfl, F2, N2, o2, J2⟩ := h₃
        exact ⟨h2, tk2, m2, news2, rfl, F2, N2, fun p hp => (List.mem_cons.mp hp).elim (fun e => e ▸ off' _ (.head _)) fun hp => o2 p hp _ (.head _), J2, fun p hp => o2 p hp _ (.tail _ (.head _))⟩
  · rintro m news h' tk' ⟨hJ', _⟩ F' N' htk'
    exact done m news h' tk' hJ' F' (fun p hp => N' p (.tail _ hp)) (Nat.le_trans htk htk')

/-- a for over a range by ones from nought -/
theorem for_range {env : Env} {iter : Expr} {x : Str} {px : Pos} {body : List Stmt} {pos : Pos} {b₀ : Int} {n : Nat} {s : Shared} {Q : Flow → Shared → Prop} {E : Value → Shared → Prop}
    (hh : A.handled = none) (J : Nat → (Str → Option Value) → List (Addr × Obj) → Prop) (hE : PassesOwn (model prog w) A env E) (hsmall : Builtin.Range.small 0 b₀ 1 = true) (hn : Builtin.Range.rangeSize 0 b₀ 1 = (n : Int))
    (hiter : wpAny (model prog w) A (eval iter env) (fun xv s₁ => ∃ r t₀ u₀ v₀ m news, xv = .ref r ∧ (∃ h tk, s₁ = { s with heap := h, toks := tk }) ∧ IsRange s₁.heap r 0 b₀ 1 t₀ u₀ v₀ ∧ Fr h₀ L s₁.heap m ∧ News h₀ L s₁.heap news ∧ J 0 m news ∧ s.toks ≤ s₁.toks) E s)
    (turn : ∀ i t m news own h tk, i < n → J i m news → Fr h₀ L h m → News h₀ L h (own ++ news) → (∀ p ∈ news, ∀ q ∈ own, p.1 ≠ q.1) → s.toks ≤ tk →
      wpAny (model prog w) A (assign (.Name x px) env (.int (i : Int) t)) (fun _ s₂ => wpAny (model prog w) A (execs body env) (fun f s₃ => match f with
        | .ret v => Q (.ret v) s₃
        | .brk => Q .next s₃
        | _ => ∃ h' tk' m' news', s₃ = { s with heap := h', toks := tk' } ∧ Fr h₀ L h' m' ∧ News h₀ L h' (own ++ news') ∧ (∀ p ∈ news', ∀ q ∈ own, p.1 ≠ q.1) ∧ J (i + 1) m' news') E s₂) E { s with heap := h, toks := tk })
    (done : ∀ m news h tk, J n m news → Fr h₀ L h m → News h₀ L h news → s.toks ≤ tk → Q .next { s with heap := h, toks := tk })
    (hs : ∀ x, foldedSetIterable iter env x = pure x := by intro _; rfl) :
    wpAny (model prog w) A (exec (.For (.Name x px) iter body [] pos) env) Q E s := by
  refine wpAny_For (wpAny_mono hiter (fun xv s₁ h₁ => ?_) fun _ _ e => e) hs
  obtain ⟨r, t₀, u₀, v₀, m, news, rfl, ⟨h, tk, rfl⟩, hr, F, N, hJ, htk⟩ := h₁
  refine wpAny_pyIter_range hr hsmall ?_
  have W : Walks prog w A h.objs.size [h.objs.size] [h.objs.size] n (fun i v => i < n ∧ ∃ t, v = .int (0 + i * 1) t)
      (fun i h' => IsRangeIter h' h.objs.size (0 + (i : Nat) * 1) ((n : Int) - (i : Nat)) 1) := (Walks.range hh _ 0 1 n).bound
  have lt : ∀ b o, h.get? b = some o → b ≠ h.objs.size := fun b o e => Nat.ne_of_lt (Heap.lt_size e)
  have hst : IsRangeIter (h.push { cls := .type "range_iterator", data := .fields #[rawInt 0, rawInt (Builtin.Range.rangeSize 0 b₀ 1), rawInt 1] }) h.objs.size (0 + (0 : Nat) * 1) ((n : Int) - (0 : Nat)) 1 := by
    show _ = _
    rw [hn]; simpa using Heap.get?_push_size _ rfl
  obtain ⟨o1, gI⟩ : ∃ o, (h.push { cls := .type "range_iterator", data := .fields #[rawInt 0, rawInt (Builtin.Range.rangeSize 0 b₀ 1), rawInt 1] }).get? h.objs.size = some o := ⟨_, hst⟩
  refine own_for (L := L) (h₀ := h₀) (s := { s with heap := h.push { cls := .type "range_iterator", data := .fields #[rawInt 0, rawInt (Builtin.Range.rangeSize 0 b₀ 1), rawInt 1] }, toks := tk }) (st := []) (oI := o1) (m := m) (news := news) W (fun i h' e => ⟨_, e⟩) (fun i s' v Q' E' e k => wpAny_pure k)
    J hE hst (F.push _) (fun p hp => ?_) (fun p hp => lt _ _ (N p hp).1) hJ ?_ ?_
  · rcases List.mem_cons.mp hp with rfl | hp
    · exact ⟨gI, Nat.ne_of_gt F.ns.lt, next_is_new F⟩
    · exact ⟨Heap.get?_push_of_some _ (N p hp).1, (N p hp).2⟩
  · rintro i v m news oI h' tk' hi ⟨_, t, rfl⟩ hJ' F' N' off' htk'
    have e0 : (0 : Int) + (i : Int) * 1 = (i : Int) := by omega
    rw [e0]
    refine wpAny_mono (turn i t m news [(h.objs.size, oI)] h' tk' hi hJ' F' N' (fun p hp q hq => ?_) (Nat.le_trans htk htk')) (fun _ s₂ h₂ => wpAny_mono h₂ (fun f s₃ h₃ => ?_) fun _ _ e => e) fun _ _ e => e
    · rw [List.mem_singleton.mp hq]; exact off' p hp
    · cases f with
      | ret v => exact h₃
      | brk => exact h₃
      | next =>
        obtain ⟨h2, tk2, m2, news2, rfl, F2, N2, o2, J2⟩ := h₃
        exact ⟨h2, tk2, m2, news2, rfl, F2, N2, fun p hp => o2 p hp _ (.head _), J2⟩
      | cont =>
        obtain ⟨h2, tk2, m2, news2, rfl, F2, N2, o2, J2⟩ := h₃
        exact ⟨h2, tk2, m2, news2, rfl, F2, N2, fun p hp => o2 p hp _ (.head _), J2⟩
  · rintro m news h' tk' hJ' F' N' htk'
    exact done m news h' tk' hJ' F' (fun p hp => N' p hp) (Nat.le_trans htk htk')
end
end Mine
end
namespace Mine
theorem freshAtLead : True := by
  (try (walk1; fail))
  w_top off
  trivial
end Mine
section
open PySem PySem.W PySem.Calls PyProof.Rows PyProof.Rows.LCg
set_option autoImplicit false
namespace Mine
set_option maxRecDepth 100000
set_option maxHeartbeats 8000000
def swapL (c d : Nat) (l : List Nat) : List Nat := l.map fun k => if k = c then d else k
theorem swap_free (c d : Nat) : ∀ l : List Nat, c ∉ l → swapL c d l = l
  | [], _ => rfl
  | k :: r, h => by
    have h1 : k ≠ c := fun e => h (e ▸ List.mem_cons_self ..)
    show (if k = c then d else k) :: swapL c d r = k :: r
    rw [if_neg h1, swap_free c d r fun m => h (List.mem_cons_of_mem _ m)]
theorem swap_join (c d : Nat) : ∀ parts : List Str, (∀ p ∈ parts, c ∉ p.cps.toList) → swapL c d (Str.join ⟨#[c]⟩ parts).cps.toList = (Str.join ⟨#[d]⟩ parts).cps.toList
  | [], _ => rfl
  | [p], h => swap_free c d _ (h p (List.mem_singleton.mpr rfl))
  | p :: q :: r, h => by
    have ih := swap_join c d (q :: r) fun a ha => h a (List.mem_cons_of_mem _ ha)
    have hp := swap_free c d _ (h p (List.mem_cons_self ..))
    show swapL c d (p ++ ⟨#[c]⟩ ++ Str.join ⟨#[c]⟩ (q :: r)).cps.toList = (p ++ ⟨#[d]⟩ ++ Str.join ⟨#[d]⟩ (q :: r)).cps.toList
    unfold swapL at ih hp ⊢
    simp only [Str.cps_append, Array.toList_append, List.map_append, ih, hp]
    simp
theorem replace_swaps (x : Str) (c d : Nat) : (Txt.replace x ⟨#[c]⟩ ⟨#[d]⟩).cps.toList = swapL c d x.cps.toList := by
  rw [StrLaws.replace_one, ← swap_join c d _ (StrLaws.split_free x c), StrLaws.join_split]
/-- what the law makes of a text: a blank for each quote, a tab for each x -/
def wsOf (l : List Nat) : List Nat := swapL 120 9 (swapL 34 32 l)
theorem rep_q (x : Str) : (Txt.replace x (Str.ofString "\"") (Str.ofString " ")).cps.toList = swapL 34 32 x.cps.toList := by
  have e1 : Str.ofString "\"" = ⟨#[34]⟩ := by decide +kernel
  have e2 : Str.ofString " " = ⟨#[32]⟩ := by decide +kernel
  rw [e1, e2, replace_swaps]
theorem rep_x (x : Str) : (Txt.replace x (Str.ofString "x") (Str.ofString "	")).cps.toList = swapL 120 9 x.cps.toList := by
  have e1 : Str.ofString "x" = ⟨#[120]⟩ := by decide +kernel
  have e2 : Str.ofString "	" = ⟨#[9]⟩ := by decide +kernel
  rw [e1, e2, replace_swaps]
theorem ws_chars {l : List Nat} (h : ∀ c ∈ l, c = 34 ∨ c = 120) : ∀ c ∈ wsOf l, c = 32 ∨ c = 9 := by
  intro c hc
  simp only [wsOf, swapL, List.mem_map] at hc
  obtain ⟨a, ⟨b, hb, rfl⟩, rfl⟩ := hc
  rcases h b hb with rfl | rfl <;> simp
theorem ws_length (l : List Nat) : (wsOf l).length = l.length := by simp [wsOf, swapL]
theorem str_len (x : Str) : x.length = x.cps.toList.length := by simp [Str.length]

/-- a Whitespace object, its dict and its two tuples -/
def LeadIn (news : List (Addr × Obj)) (x : Addr) (cnt : List Int) (b n nt : Int) : Prop :=
  ∃ (dx nm ct : Addr) (vs : List Value) (e0 e1 e2 e3 e4 : Int) (k0 k1 k2 k3 k4 : Tok) (raw : Value) (tn tnt tb : Tok), (x, instObj 83 dx) ∈ news ∧ (dx, wsDict e0 e1 e2 e3 e4 k0 k1 k2 k3 k4 raw n nt tn tnt nm (decide ((cnt.length : Int) ≤ 1))) ∈ news ∧
    (nm, tupOf #[.ref ct, .int b tb] 0) ∈ news ∧ (ct, tupOf (List.toArray vs) 0) ∈ news ∧ IntsAre vs cnt
theorem LeadIn.mono {news news' : List (Addr × Obj)} {x : Addr} {cnt : List Int} {b n nt : Int} (h : LeadIn news x cnt b n nt) (hs : ∀ p ∈ news, p ∈ news') : LeadIn news' x cnt b n nt := by
  obtain ⟨dx, nm, ct, vs, e0, e1, e2, e3, e4, k0, k1, k2, k3, k4, raw, tn, tnt, tb, h1, h2, h3, h4, h5⟩ := h
  exact ⟨dx, nm, ct, vs, e0, e1, e2, e3, e4, k0, k1, k2, k3, k4, raw, tn, tnt, tb, hs _ h1, hs _ h2, hs _ h3, hs _ h4, h5⟩
end Mine
end
namespace Mine
theorem freshAtL0 : True := by
  (try (walk1; fail))
  w_top off
  trivial
end Mine
section
open PySem PySem.W PySem.Calls PyProof.Rows
namespace Mine
set_option maxRecDepth 100000
set_option maxHeartbeats 8000000
def lawParts : List Stmt × Scope := match prg.main.body.getLast? with
  | some (.FunctionDef _ _ body _ _ _ scope _ _ _) => (body, scope)
  | _ => ([], { kind := .function, names := [], isGenerator := false, isCoroutine := false })
def lawBody : List Stmt := lawParts.1
def lawScope : Scope := lawParts.2
def bodyOf : Stmt → List Stmt
  | .For _ _ b _ _ => b
  | .If _ b _ _ => b
  | _ => []
def powBody : List Stmt := bodyOf (lawBody.getD 2 (.Pass ⟨0,0,0,0⟩))
def sizeBody : List Stmt := bodyOf (powBody.getD 4 (.Pass ⟨0,0,0,0⟩))
def pairBody : List Stmt := bodyOf (powBody.getD 7 (.Pass ⟨0,0,0,0⟩))
abbrev lcl (L : Addr) : List (Str × Addr) := [(Str.ofString "leads", L + 1 + 1 + 1 + 1 + 1), (Str.ofString "columns", L + 1 + 1 + 1 + 1), (Str.ofString "size", L + 1 + 1 + 1), (Str.ofString "sizes", L + 1 + 1), (Str.ofString "power", L + 1)]
example (L : Addr) : cellsFrom (L + 1) lawScope.names [] = lcl L := by with_unfolding_all rfl
abbrev LE (L fa : Addr) : Env := envX (Str.ofString "law") lawScope L fa (.ref 171) (lcl L)
def eltOf : Expr → Expr × Scope × Expr
  | .ListComp e [g] sc _ => (e, sc, g.iter)
  | e => (e, { kind := .function, names := [], isGenerator := false, isCoroutine := false }, e)
def valOf : Stmt → Expr
  | .Assign _ e _ => e
  | .If e _ _ _ => e
  | _ => .Constant .none 0 ⟨0,0,0,0⟩
def rhsOf : Expr → Expr
  | .Compare _ _ [e] _ => e
  | e => e
def lhsOf : Expr → Expr
  | .Compare e _ _ _ => e
  | e => e
def argOf : Expr → Expr
  | .Call _ (e :: _) _ _ => e
  | e => e
def nth (l : List Stmt) (i : Nat) : Stmt := l.getD i (.Pass ⟨0,0,0,0⟩)
def lcWords : Expr × Scope × Expr := eltOf (valOf (nth lawBody 0))
def lcTexts : Expr × Scope × Expr := eltOf (valOf (nth lawBody 1))
def lcParse : Expr × Scope × Expr := eltOf (valOf (nth (bodyOf (nth powBody 0)) 0))
def lcLeft : Expr × Scope × Expr := eltOf (valOf (nth powBody 1))
def lcWant : Expr × Scope × Expr := eltOf (rhsOf (valOf (nth powBody 2)))
def lcLead : Expr × Scope × Expr := eltOf (valOf (nth powBody 3))
def lcTab : Expr × Scope × Expr := eltOf (valOf (nth powBody 6))
def lcCol : Expr × Scope × Expr := eltOf (valOf (nth sizeBody 0))
def lcInd : Expr × Scope × Expr := eltOf (lhsOf (valOf (nth sizeBody 1)))
end Mine
end
namespace Mine
theorem freshAtT1 : True := by
  (try (walk1; fail))
  w_top off
  trivial
end Mine
section
open PySem PySem.W PySem.Calls PyProof.Rows PyProof.Rows.LCg
set_option autoImplicit false
namespace Mine
set_option maxRecDepth 100000
set_option maxHeartbeats 8000000
theorem fillOfT1 : PySem.Challenge.rw_rl0102_01 = PySem.Challenge.rw_rl0102_01 ∧ KK = KK := by
  k_fill
  exact ⟨rfl, rfl⟩
variable {w : World} {dp un : Nat} {fr : Option (List Env)} {gd : Option (List Code)} {s : Shared} {h₀ : Heap} {L fa : Addr} {m : Str → Option Value} {news : List (Addr × Obj)} {p : Program} {loose : List Str} {mean : ExcName → Option Value} {mg mb : Str → Option Value}

def lcTextsI : Expr × Scope × Expr := eltOf (argOf lcTexts.1)
def lcWantI : Expr × Scope × Expr := eltOf (argOf lcWant.1)
def qs (n : Nat) : Str := ⟨(List.replicate n 34).toArray⟩
theorem mul_q {r : Int} (b : 0 ≤ r ∧ r ≤ 8) : Txt.mul (Str.ofString "\"") r = qs r.toNat := by
  obtain ⟨n, rfl⟩ : ∃ n : Nat, r = n := ⟨r.toNat, by omega⟩
  have h : ∀ n : Nat, n < 9 → Txt.mul (Str.ofString "\"") (n : Int) = qs (n : Int).toNat := by decide +kernel
  exact h n (by omega)
def IsQ (r : Int) (y : Value) : Prop := ∃ t, y = .str (qs r.toNat) t
def textL : List Nat → List Nat
  | [] => []
  | [n] => List.replicate n 34
  | n :: k :: r => List.replicate n 34 ++ 120 :: textL (k :: r)
theorem join_qs : ∀ l : List Nat, (Txt.join (Str.ofString "x") (l.map qs)).cps.toList = textL l := by
  have key : ∀ l : List Nat, (Str.join (Str.ofString "x") (l.map qs)).cps.toList = textL l := by
    intro l
    induction l with
    | nil => rfl
    | cons n r ih =>
      cases r with
      | nil => show (qs n).cps.toList = List.replicate n 34; simp [qs]
      | cons k r =>
        show (qs n ++ Str.ofString "x" ++ Str.join (Str.ofString "x") ((k :: r).map qs)).cps.toList = List.replicate n 34 ++ 120 :: textL (k :: r)
        have e : (Str.ofString "x").cps.toList = [120] := by decide +kernel
        simp only [Str.cps_append, Array.toList_append, ih, e]
        simp [qs]
  intro l
  show (Builtin.Str.glued _ _).cps.toList = _
  rw [StrLaws.glued_eq_join]
  exact key l
/-- a text of runs of quotes, an x between them -/
def IsT (ns : List Nat) (y : Value) : Prop := ∃ d t, y = .str d t ∧ d.cps.toList = textL ns
theorem q_len (n : Nat) : (qs n).length = n := by simp [qs, Str.length]
theorem fdiv_bd2 {r pw : Int} (b : 0 ≤ r ∧ r ≤ 8) (hp : 1 ≤ pw) : 0 ≤ Int.fdiv r pw ∧ Int.fdiv r pw ≤ 8 := by
  have := fdiv_bd (k := r) (ts := pw) b.1 hp
  omega

theorem e_q (X : (KK w.params).In h₀) (T : Top p loose mean mg mb h₀) (hdep : dp + 40 < recursionLimit) (hun : un + 300 < cLine)
    {env : Env} {C : Addr} {t₀ : Nat} {r : Int} {tr : Tok} (b : 0 ≤ r ∧ r ≤ 8) :
    ElT prg w (mkA dp un fr gd) h₀ L m (compEnvC lcTextsI.2.1 [] C env) lcTextsI.1 (VisL C (Str.ofString "run")) t₀ [] (.int r tr)
      (fun y ex => ex = [] ∧ IsQ r y) := by
  intro os s Q E news hV F N hos hneed htk ret
  obtain ⟨oC, m₂, rfl, hC, hx⟩ := hV
  have N2 : News h₀ L s.heap [(_, oC)] := news_sub N (List.forall_mem_cons.mpr ⟨hos _ (.head _), hneed⟩)
  have N₀ : Hold (News h₀ L s.heap news) := N
  clear N
  with_unfolding_all show wpAny _ _ (eval (Expr.BinOp _ _ _ _) (compEnvC _ _ _ _)) _ _ _
  k_steps
  dsimp only
  rw [mul_q b]
  exact ret _ [] _ _ F N₀ (List.forall_mem_nil _) ⟨rfl, _, rfl⟩


theorem e_qp (X : (KK w.params).In h₀) (T : Top p loose mean mg mb h₀) (hdep : dp + 40 < recursionLimit) (hun : un + 300 < cLine)
    {op : Obj} {pw : Int} {tp : Tok} (hop : op.data = .cell (some (.int pw tp))) {C C₁ : Addr} {t₀ : Nat} {r : Int} {tr : Tok} (b : 0 ≤ r ∧ r ≤ 8) (hp : 1 ≤ pw ∧ pw ≤ 4) :
    ElT prg w (mkA dp un fr gd) h₀ L m (compEnvC lcWantI.2.1 [(Str.ofString "power", L + 1)] C (compEnvC lcWant.2.1 [(Str.ofString "power", L + 1)] C₁ (LE L fa))) lcWantI.1 (VisL C (Str.ofString "run")) t₀ [(L + 1, op)] (.int r tr)
      (fun y ex => ex = [] ∧ IsQ (Int.fdiv r pw) y) := by
  intro os s Q E news hV F N hos hneed htk ret
  obtain ⟨oC, m₂, rfl, hC, hx⟩ := hV
  have N2 : News h₀ L s.heap [(_, oC), (L + 1, op)] := news_sub N (List.forall_mem_cons.mpr ⟨hos _ (.head _), hneed⟩)
  have N₀ : Hold (News h₀ L s.heap news) := N
  clear N
  with_unfolding_all show wpAny _ _ (eval (Expr.BinOp _ _ _ _) (compEnvC _ _ _ _)) _ _ _
  have b' := fdiv_bd2 b hp.1
  k_steps
  dsimp only
  rw [mul_q b']
  exact ret _ [] _ _ F N₀ (List.forall_mem_nil _) ⟨rfl, _, rfl⟩


section
local macro_rules | `(tactic| walk_at "eval ListComp") => `(tactic| (refine hold ?_))

theorem e_text (X : (KK w.params).In h₀) (T : Top p loose mean mg mb h₀) (hdep : dp + 40 < recursionLimit) (hun : un + 300 < cLine)
    {ra : Addr} {r0 r1 r2 : Int} {t0 t1 t2 : Tok} {c : Nat} (b0 : 0 ≤ r0 ∧ r0 ≤ 8) (b1 : 0 ≤ r1 ∧ r1 ≤ 8) (b2 : 0 ≤ r2 ∧ r2 ≤ 8) :
    MElt prg w (mkA dp un fr gd) h₀ L m (LE L fa) lcTexts.1 (Str.ofString "runs") lcTexts.2.1 [] [(ra, PySem.W.listOf #[.int r0 t0, .int r1 t1, .int r2 t2] c)] (.ref ra)
      (fun y ex => ex = [] ∧ IsT [(r0).toNat, (r1).toNat, (r2).toNat] y) := by
  intro C oC m₂ s Q E news hC hx F N hCm hneed ret
  have N2 : News h₀ L s.heap [(C, oC), (ra, PySem.W.listOf #[.int r0 t0, .int r1 t1, .int r2 t2] c)] := news_sub N (List.forall_mem_cons.mpr ⟨hCm, hneed⟩)
  have N₀ : Hold (News h₀ L s.heap news) := N
  clear N
  with_unfolding_all show wpAny _ _ (eval (Expr.Call _ _ _ _) (compEnvC _ _ _ _)) _ _ _
  k_steps
  unfold Hold
  dsimp only
  have hra := hneed _ (.head _)
  refine comp_local (cl := []) (x := Str.ofString "run") (need := []) (news := news) (Ps := [fun y ex => ex = [] ∧ IsQ r0 y, fun y ex => ex = [] ∧ IsQ r1 y, fun y ex => ex = [] ∧ IsQ r2 y]) (Fin := fun ys n => n = news ∧ ∃ y0 y1 y2, ys = [y0, y1, y2] ∧ IsQ r0 y0 ∧ IsQ r1 y1 ∧ IsQ r2 y2) (its := #[.int r0 t0, .int r1 t1, .int r2 t2]) rfl ?z ?cl ?ce ?ki ?na ?x ?src ?le ?P ?rem ?ne hra F (show News h₀ L s.heap news from N₀) ?k
  case z => exact Nat.le_of_ble_eq_true rfl
  case cl => with_unfolding_all rfl
  case ce => decide
  case ki => exact rfl
  case na => decide
  case x => exact rfl
  case src => (intro E' Q' h'; exact LCgL.ld_own (show News h₀ L s.heap news from N₀) hCm hC hx h')
  case le => exact rfl
  case P => exact fun C' => idx3 (e_q X T hdep hun b0) (e_q X T hdep hun b1) (e_q X T hdep hun b2)
  case rem => exact fun y0 x0 q0 _ y1 x1 q1 _ y2 x2 q2 _ => ⟨by rw [q0.1, q1.1, q2.1]; rfl, y0, y1, y2, rfl, q0.2, q1.2, q2.2⟩
  case ne => exact List.forall_mem_nil _
  case k =>
    rintro D ys news' h tk htk ⟨rfl, y0, y1, y2, rfl, ⟨a0, rfl⟩, ⟨a1, rfl⟩, ⟨a2, rfl⟩⟩ F9 N9 o9
    have N8 : News h₀ L h [(D, lst [.str (qs (r0).toNat) a0, .str (qs (r1).toNat) a1, .str (qs (r2).toNat) a2])] := news_sub N9 (List.forall_mem_cons.mpr ⟨.head _, List.forall_mem_nil _⟩)
    have N7 : Hold (News h₀ L h news') := news_sub N9 (fun p hp => .tail _ hp)
    clear F N₀ N2 N9
    k_steps
    refine join_list (ys := [(r0).toNat, (r1).toNat, (r2).toNat].map qs) ⟨_, (N8 _ (.head _)).1, rfl, _, rfl⟩ (.cons _ _ (.cons _ _ (.cons _ _ (.nil)))) ?_ fun t' k => ?_
    · have e : (Str.ofString "x").length = 1 := by decide +kernel
      have := b0; have := b1; have := b2
      simp only [List.map_cons, List.map_nil, List.sum_cons, List.sum_nil, List.length_cons, List.length_nil, q_len, e]
      omega
    · exact ret _ [] _ _ F9 N7 (List.forall_mem_nil _) ⟨rfl, _, _, rfl, join_qs _⟩


theorem e_want1 (X : (KK w.params).In h₀) (T : Top p loose mean mg mb h₀) (hdep : dp + 40 < recursionLimit) (hun : un + 300 < cLine)
    {op : Obj} {pw : Int} {tp : Tok} (hop : op.data = .cell (some (.int pw tp))) {ra : Addr} {r0 : Int} {t0 : Tok} {c : Nat} (b0 : 0 ≤ r0 ∧ r0 ≤ 8) (hp : 1 ≤ pw ∧ pw ≤ 4) :
    MElt prg w (mkA dp un fr gd) h₀ L m (LE L fa) lcWant.1 (Str.ofString "left") lcWant.2.1 [(Str.ofString "power", L + 1)] [(L + 1, op), (ra, PySem.W.listOf #[.int r0 t0] c)] (.ref ra)
      (fun y ex => ex = [] ∧ IsT [((Int.fdiv r0 pw)).toNat] y) := by
  intro C oC m₂ s Q E news hC hx F N hCm hneed ret
  have N2 : News h₀ L s.heap [(C, oC), (L + 1, op), (ra, PySem.W.listOf #[.int r0 t0] c)] := news_sub N (List.forall_mem_cons.mpr ⟨hCm, hneed⟩)
  have N₀ : Hold (News h₀ L s.heap news) := N
  clear N
  with_unfolding_all show wpAny _ _ (eval (Expr.Call _ _ _ _) (compEnvC _ _ _ _)) _ _ _
  k_steps
  unfold Hold
  dsimp only
  have hra := hneed _ (.tail _ (.head _))
  refine comp_local (cl := [(Str.ofString "power", L + 1)]) (x := Str.ofString "run") (need := [(L + 1, op)]) (news := news) (Ps := [fun y ex => ex = [] ∧ IsQ (Int.fdiv r0 pw) y]) (Fin := fun ys n => n = news ∧ ∃ y0, ys = [y0] ∧ IsQ (Int.fdiv r0 pw) y0) (its := #[.int r0 t0]) rfl ?z ?cl ?ce ?ki ?na ?x ?src ?le ?P ?rem ?ne hra F (show News h₀ L s.heap news from N₀) ?k
  case z => exact Nat.le_of_ble_eq_true rfl
  case cl => with_unfolding_all rfl
  case ce => decide
  case ki => exact rfl
  case na => decide
  case x => exact rfl
  case src => (intro E' Q' h'; exact LCgL.ld_own (show News h₀ L s.heap news from N₀) hCm hC hx h')
  case le => exact rfl
  case P => exact fun C' => idx1 (e_qp X T hdep hun hop b0 hp)
  case rem => exact fun y0 x0 q0 _ => ⟨by rw [q0.1]; rfl, y0, rfl, q0.2⟩
  case ne => exact List.forall_mem_cons.mpr ⟨hneed _ (.head _), List.forall_mem_nil _⟩
  case k =>
    rintro D ys news' h tk htk ⟨rfl, y0, rfl, ⟨a0, rfl⟩⟩ F9 N9 o9
    have N8 : News h₀ L h [(D, lst [.str (qs ((Int.fdiv r0 pw)).toNat) a0])] := news_sub N9 (List.forall_mem_cons.mpr ⟨.head _, List.forall_mem_nil _⟩)
    have N7 : Hold (News h₀ L h news') := news_sub N9 (fun p hp => .tail _ hp)
    clear F N₀ N2 N9
    k_steps
    refine join_list (ys := [((Int.fdiv r0 pw)).toNat].map qs) ⟨_, (N8 _ (.head _)).1, rfl, _, rfl⟩ (.cons _ _ (.nil)) ?_ fun t' k => ?_
    · have e : (Str.ofString "x").length = 1 := by decide +kernel
      have := fdiv_bd2 b0 hp.1
      simp only [List.map_cons, List.map_nil, List.sum_cons, List.sum_nil, List.length_cons, List.length_nil, q_len, e]
      omega
    · exact ret _ [] _ _ F9 N7 (List.forall_mem_nil _) ⟨rfl, _, _, rfl, join_qs _⟩


theorem e_want2 (X : (KK w.params).In h₀) (T : Top p loose mean mg mb h₀) (hdep : dp + 40 < recursionLimit) (hun : un + 300 < cLine)
    {op : Obj} {pw : Int} {tp : Tok} (hop : op.data = .cell (some (.int pw tp))) {ra : Addr} {r0 r1 : Int} {t0 t1 : Tok} {c : Nat} (b0 : 0 ≤ r0 ∧ r0 ≤ 8) (b1 : 0 ≤ r1 ∧ r1 ≤ 8) (hp : 1 ≤ pw ∧ pw ≤ 4) :
    MElt prg w (mkA dp un fr gd) h₀ L m (LE L fa) lcWant.1 (Str.ofString "left") lcWant.2.1 [(Str.ofString "power", L + 1)] [(L + 1, op), (ra, PySem.W.listOf #[.int r0 t0, .int r1 t1] c)] (.ref ra)
      (fun y ex => ex = [] ∧ IsT [((Int.fdiv r0 pw)).toNat, ((Int.fdiv r1 pw)).toNat] y) := by
  intro C oC m₂ s Q E news hC hx F N hCm hneed ret
  have N2 : News h₀ L s.heap [(C, oC), (L + 1, op), (ra, PySem.W.listOf #[.int r0 t0, .int r1 t1] c)] := news_sub N (List.forall_mem_cons.mpr ⟨hCm, hneed⟩)
  have N₀ : Hold (News h₀ L s.heap news) := N
  clear N
  with_unfolding_all show wpAny _ _ (eval (Expr.Call _ _ _ _) (compEnvC _ _ _ _)) _ _ _
  k_steps
  unfold Hold
  dsimp only
  have hra := hneed _ (.tail _ (.head _))
  refine comp_local (cl := [(Str.ofString "power", L + 1)]) (x := Str.ofString "run") (need := [(L + 1, op)]) (news := news) (Ps := [fun y ex => ex = [] ∧ IsQ (Int.fdiv r0 pw) y, fun y ex => ex = [] ∧ IsQ (Int.fdiv r1 pw) y]) (Fin := fun ys n => n = news ∧ ∃ y0 y1, ys = [y0, y1] ∧ IsQ (Int.fdiv r0 pw) y0 ∧ IsQ (Int.fdiv r1 pw) y1) (its := #[.int r0 t0, .int r1 t1]) rfl ?z ?cl ?ce ?ki ?na ?x ?src ?le ?P ?rem ?ne hra F (show News h₀ L s.heap news from N₀) ?k
  case z => exact Nat.le_of_ble_eq_true rfl
  case cl => with_unfolding_all rfl
  case ce => decide
  case ki => exact rfl
  case na => decide
  case x => exact rfl
  case src => (intro E' Q' h'; exact LCgL.ld_own (show News h₀ L s.heap news from N₀) hCm hC hx h')
  case le => exact rfl
  case P => exact fun C' => idx2 (e_qp X T hdep hun hop b0 hp) (e_qp X T hdep hun hop b1 hp)
  case rem => exact fun y0 x0 q0 _ y1 x1 q1 _ => ⟨by rw [q0.1, q1.1]; rfl, y0, y1, rfl, q0.2, q1.2⟩
  case ne => exact List.forall_mem_cons.mpr ⟨hneed _ (.head _), List.forall_mem_nil _⟩
  case k =>
    rintro D ys news' h tk htk ⟨rfl, y0, y1, rfl, ⟨a0, rfl⟩, ⟨a1, rfl⟩⟩ F9 N9 o9
    have N8 : News h₀ L h [(D, lst [.str (qs ((Int.fdiv r0 pw)).toNat) a0, .str (qs ((Int.fdiv r1 pw)).toNat) a1])] := news_sub N9 (List.forall_mem_cons.mpr ⟨.head _, List.forall_mem_nil _⟩)
    have N7 : Hold (News h₀ L h news') := news_sub N9 (fun p hp => .tail _ hp)
    clear F N₀ N2 N9
    k_steps
    refine join_list (ys := [((Int.fdiv r0 pw)).toNat, ((Int.fdiv r1 pw)).toNat].map qs) ⟨_, (N8 _ (.head _)).1, rfl, _, rfl⟩ (.cons _ _ (.cons _ _ (.nil))) ?_ fun t' k => ?_
    · have e : (Str.ofString "x").length = 1 := by decide +kernel
      have := fdiv_bd2 b0 hp.1; have := fdiv_bd2 b1 hp.1
      simp only [List.map_cons, List.map_nil, List.sum_cons, List.sum_nil, List.length_cons, List.length_nil, q_len, e]
      omega
    · exact ret _ [] _ _ F9 N7 (List.forall_mem_nil _) ⟨rfl, _, _, rfl, join_qs _⟩


theorem e_want3 (X : (KK w.params).In h₀) (T : Top p loose mean mg mb h₀) (hdep : dp + 40 < recursionLimit) (hun : un + 300 < cLine)
    {op : Obj} {pw : Int} {tp : Tok} (hop : op.data = .cell (some (.int pw tp))) {ra : Addr} {r0 r1 r2 : Int} {t0 t1 t2 : Tok} {c : Nat} (b0 : 0 ≤ r0 ∧ r0 ≤ 8) (b1 : 0 ≤ r1 ∧ r1 ≤ 8) (b2 : 0 ≤ r2 ∧ r2 ≤ 8) (hp : 1 ≤ pw ∧ pw ≤ 4) :
    MElt prg w (mkA dp un fr gd) h₀ L m (LE L fa) lcWant.1 (Str.ofString "left") lcWant.2.1 [(Str.ofString "power", L + 1)] [(L + 1, op), (ra, PySem.W.listOf #[.int r0 t0, .int r1 t1, .int r2 t2] c)] (.ref ra)
      (fun y ex => ex = [] ∧ IsT [((Int.fdiv r0 pw)).toNat, ((Int.fdiv r1 pw)).toNat, ((Int.fdiv r2 pw)).toNat] y) := by
  intro C oC m₂ s Q E news hC hx F N hCm hneed ret
  have N2 : News h₀ L s.heap [(C, oC), (L + 1, op), (ra, PySem.W.listOf #[.int r0 t0, .int r1 t1, .int r2 t2] c)] := news_sub N (List.forall_mem_cons.mpr ⟨hCm, hneed⟩)
  have N₀ : Hold (News h₀ L s.heap news) := N
  clear N
  with_unfolding_all show wpAny _ _ (eval (Expr.Call _ _ _ _) (compEnvC _ _ _ _)) _ _ _
  k_steps
  unfold Hold
  dsimp only
  have hra := hneed _ (.tail _ (.head _))
  refine comp_local (cl := [(Str.ofString "power", L + 1)]) (x := Str.ofString "run") (need := [(L + 1, op)]) (news := news) (Ps := [fun y ex => ex = [] ∧ IsQ (Int.fdiv r0 pw) y, fun y ex => ex = [] ∧ IsQ (Int.fdiv r1 pw) y, fun y ex => ex = [] ∧ IsQ (Int.fdiv r2 pw) y]) (Fin := fun ys n => n = news ∧ ∃ y0 y1 y2, ys = [y0, y1, y2] ∧ IsQ (Int.fdiv r0 pw) y0 ∧ IsQ (Int.fdiv r1 pw) y1 ∧ IsQ (Int.fdiv r2 pw) y2) (its := #[.int r0 t0, .int r1 t1, .int r2 t2]) rfl ?z ?cl ?ce ?ki ?na ?x ?src ?le ?P ?rem ?ne hra F (show News h₀ L s.heap news from N₀) ?k
  case z => exact Nat.le_of_ble_eq_true rfl
  case cl => with_unfolding_all rfl
  case ce => decide
  case ki => exact rfl
  case na => decide
  case x => exact rfl
  case src => (intro E' Q' h'; exact LCgL.ld_own (show News h₀ L s.heap news from N₀) hCm hC hx h')
  case le => exact rfl
  case P => exact fun C' => idx3 (e_qp X T hdep hun hop b0 hp) (e_qp X T hdep hun hop b1 hp) (e_qp X T hdep hun hop b2 hp)
  case rem => exact fun y0 x0 q0 _ y1 x1 q1 _ y2 x2 q2 _ => ⟨by rw [q0.1, q1.1, q2.1]; rfl, y0, y1, y2, rfl, q0.2, q1.2, q2.2⟩
  case ne => exact List.forall_mem_cons.mpr ⟨hneed _ (.head _), List.forall_mem_nil _⟩
  case k =>
    rintro D ys news' h tk htk ⟨rfl, y0, y1, y2, rfl, ⟨a0, rfl⟩, ⟨a1, rfl⟩, ⟨a2, rfl⟩⟩ F9 N9 o9
    have N8 : News h₀ L h [(D, lst [.str (qs ((Int.fdiv r0 pw)).toNat) a0, .str (qs ((Int.fdiv r1 pw)).toNat) a1, .str (qs ((Int.fdiv r2 pw)).toNat) a2])] := news_sub N9 (List.forall_mem_cons.mpr ⟨.head _, List.forall_mem_nil _⟩)
    have N7 : Hold (News h₀ L h news') := news_sub N9 (fun p hp => .tail _ hp)
    clear F N₀ N2 N9
    k_steps
    refine join_list (ys := [((Int.fdiv r0 pw)).toNat, ((Int.fdiv r1 pw)).toNat, ((Int.fdiv r2 pw)).toNat].map qs) ⟨_, (N8 _ (.head _)).1, rfl, _, rfl⟩ (.cons _ _ (.cons _ _ (.cons _ _ (.nil)))) ?_ fun t' k => ?_
    · have e : (Str.ofString "x").length = 1 := by decide +kernel
      have := fdiv_bd2 b0 hp.1; have := fdiv_bd2 b1 hp.1; have := fdiv_bd2 b2 hp.1
      simp only [List.map_cons, List.map_nil, List.sum_cons, List.sum_nil, List.length_cons, List.length_nil, q_len, e]
      omega
    · exact ret _ [] _ _ F9 N7 (List.forall_mem_nil _) ⟨rfl, _, _, rfl, join_qs _⟩

end
end Mine
end
namespace Mine
theorem freshAtT2 : True := by
  (try (walk1; fail))
  w_top off
  trivial
end Mine
section
open PySem PySem.W PySem.Calls PyProof.Rows PyProof.Rows.LCg
set_option autoImplicit false
namespace Mine
set_option maxRecDepth 100000
set_option maxHeartbeats 8000000
theorem fillOfT2 : PySem.Challenge.rw_rl0102_01 = PySem.Challenge.rw_rl0102_01 ∧ KK = KK := by
  k_fill
  exact ⟨rfl, rfl⟩
variable {w : World} {dp un : Nat} {fr : Option (List Env)} {gd : Option (List Code)} {s : Shared} {h₀ : Heap} {L fa : Addr} {m : Str → Option Value} {news : List (Addr × Obj)} {p : Program} {loose : List Str} {mean : ExcName → Option Value} {mg mb : Str → Option Value}
section
local macro_rules | `(tactic| walk_at "call builtin:str.replace") => `(tactic| (refine hold ?_))
local macro_rules | `(tactic| walk_at "call ref") => `(tactic| (refine hold ?_))

theorem e_lead (X : (KK w.params).In h₀) (T : Top p loose mean mg mb h₀) (hdep : dp + 40 < recursionLimit) (hun : un + 300 < cLine)
    {C : Addr} {t₀ : Nat} (h0 : 0 < t₀) {tx : Str} {tt : Tok} (hl : tx.length ≤ 60) (hc : ∀ c ∈ tx.cps.toList, c = 34 ∨ c = 120) :
    ElT prg w (mkA dp un fr gd) h₀ L m (compEnvC lcLead.2.1 [] C (LE L fa)) lcLead.1 (VisL C (Str.ofString "text")) t₀ [] (.str tx tt)
      (fun y ex => ∃ x cnt b n nt, y = .ref x ∧ LeadIn ex x cnt b n nt ∧ wsF (wsOf tx.cps.toList) = (cnt, b, n, nt)) := by
  intro os s Q E news hV F N hos hneed htk ret
  obtain ⟨oC, m₂, rfl, hC, hx⟩ := hV
  have N2 : News h₀ L s.heap [(_, oC)] := news_sub N (List.forall_mem_cons.mpr ⟨hos _ (.head _), hneed⟩)
  have N₀ : Hold (News h₀ L s.heap news) := N
  clear N
  with_unfolding_all show wpAny _ _ (eval (Expr.Call _ _ _ _) (compEnvC _ _ _ _)) _ _ _
  have l1 : (Str.ofString " ").length = 1 := by decide +kernel
  have l2 : (Str.ofString "	").length = 1 := by decide +kernel
  k_steps
  unfold Hold
  refine wpAny_with_toks (n := t₀) (by dsimp only; omega) (SC.replaceW (Nat.ne_of_gt (by omega)) (Nat.ne_of_gt (by omega)) (Nat.ne_of_lt (by omega)) (by decide +kernel) (by omega) (by omega) fun t1 q1 hq1 => ?_)
  dsimp only at hq1
  have hlen : (Txt.replace tx (Str.ofString "\"") (Str.ofString " ")).length = tx.length := by rw [str_len, rep_q, str_len]; simp [swapL]
  k_steps
  unfold Hold
  refine wpAny_with_toks (n := t₀) (by dsimp only; omega) (SC.replaceW (Nat.ne_of_gt (by omega)) (Nat.ne_of_gt (by omega)) (Nat.ne_of_lt (by omega)) (by decide +kernel) (by omega) (by omega) fun t2 q2 hq2 => ?_)
  dsimp only at hq2
  k_steps
  unfold Hold
  have hw : (Txt.replace (Txt.replace tx (Str.ofString "\"") (Str.ofString " ")) (Str.ofString "x") (Str.ofString "	")).cps.toList = wsOf tx.cps.toList := by rw [rep_x, rep_q]; rfl
  generalize hW : Txt.replace (Txt.replace tx (Str.ofString "\"") (Str.ofString " ")) (Str.ofString "x") (Str.ofString "	") = W at hw
  refine wpAny_call (make_K (K := KK w.params) (fI := 38) F (show News h₀ L s.heap news from N₀) (X.keeps F.keep) ?m1 ?m2 ?m3 fun x dx h' F1 N1 l3 l4 => ?_)
  case m1 => k_is
  case m2 => k_is
  case m3 => k_is
  refine c_init (w := w) (x := x) (dx := dx) (rest := news) (t := W) F1 N1 X T ?d1 ?d2 (.head _) (.tail _ (.head _)) l4 (fun p hp => .tail _ (.tail _ hp)) l3 ?len ?chs ?rr
  case d1 =>
    have e : (Code.builtin "type.__call__" { pos := [Value.ref 83, Value.str W t2] }).weight ≤ 2 := by with_unfolding_all exact Nat.le_of_ble_eq_true rfl
    dsimp only [mkA]
    omega
  case d2 =>
    have e : (Code.builtin "type.__call__" { pos := [Value.ref 83, Value.str W t2] }).cUnits ≤ 9 := by with_unfolding_all exact Nat.le_of_ble_eq_true rfl
    dsimp only [mkA]
    omega
  case len => rw [str_len, hw, ws_length, ← str_len]; exact hl
  case chs => rw [hw]; exact ws_chars hc
  case rr =>
    intro nm ct vs e0 e1 e2 e3 e4 k0 k1 k2 k3 k4 tn tnt tb sb cnt b n nt h2 tk2 F2 N2 l5 l6 o7 hI hF hsb
    subst hsb
    refine ⟨rfl, ret _ [_, _, _, _] _ _ F2 N2 ?_ ⟨x, cnt, b, n, nt, rfl, ⟨dx, nm, ct, vs, e0, e1, e2, e3, e4, k0, k1, k2, k3, k4, _, tn, tnt, tb, .head _, .tail _ (.head _), .tail _ (.tail _ (.head _)), .tail _ (.tail _ (.tail _ (.head _))), hI⟩, by rw [← hw]; exact hF⟩⟩
    intro p hp q hq
    have q1 := ltN (l3 q hq)
    have q2 := ltN l4
    rcases List.mem_cons.mp hp with rfl | hp
    · exact neN (Nat.ne_of_lt (Nat.lt_trans q1 q2))
    · rcases List.mem_cons.mp hp with rfl | hp
      · exact neN (Nat.ne_of_lt q1)
      · rcases List.mem_cons.mp hp with rfl | hp
        · exact (o7 q hq).1
        · rw [List.mem_singleton.mp hp]; exact (o7 q hq).2

end
end Mine
end
namespace Mine
theorem freshAtP2 : True := by
  (try (walk1; fail))
  w_top off
  trivial
end Mine
section
open PySem PySem.W PySem.Calls PyProof.Rows PyProof.Rows.LCg
set_option autoImplicit false
namespace Mine
set_option maxRecDepth 100000
set_option maxHeartbeats 8000000
theorem fillOfP2 : PySem.Challenge.rw_rl0102_01 = PySem.Challenge.rw_rl0102_01 ∧ KK = KK := by
  k_fill
  exact ⟨rfl, rfl⟩
variable {w : World} {dp un : Nat} {fr : Option (List Env)} {gd : Option (List Code)} {s : Shared} {h₀ : Heap} {L fa : Addr} {m : Str → Option Value} {news : List (Addr × Obj)} {p : Program} {loose : List Str} {mean : ExcName → Option Value} {mg mb : Str → Option Value}
section
local macro_rules | `(tactic| walk_at "call ref") => `(tactic| (refine hold ?_))

theorem e_runs (X : (KK w.params).In h₀) (T : Top p loose mean mg mb h₀) (hdep : dp + 40 < recursionLimit) (hun : un + 300 < cLine)
    {C : Addr} {t₀ : Nat} {x : Int} {tx : Tok} :
    ElT prg w (mkA dp un fr gd) h₀ L m (compEnvC lcWords.2.1 [] C (LE L fa)) lcWords.1 (VisL C (Str.ofString "x")) t₀ [] (.int x tx)
      (fun y ex => ∃ a' t0 t1 t2, y = .ref a' ∧ ex = [(a', PySem.W.listOf #[.int (run0 x) t0, .int (run1 x) t1, .int (run2 x) t2] 0)]) := by
  intro os s Q E news hV F N hos hneed htk ret
  obtain ⟨oC, m₂, rfl, hC, hx⟩ := hV
  have N2 : News h₀ L s.heap [(_, oC)] := news_sub N (List.forall_mem_cons.mpr ⟨hos _ (.head _), hneed⟩)
  have N₀ : Hold (News h₀ L s.heap news) := N
  clear N
  with_unfolding_all show wpAny _ _ (eval (Expr.Call _ _ _ _) (compEnvC _ _ _ _)) _ _ _
  k_steps
  unfold Hold
  refine wpAny_call (c_runs F (show News h₀ L s.heap news from N₀) X T (by omega) (by omega) fun a' t0 t1 t2 h' tk' F' N' l => ?_)
  exact ret _ [(a', _)] _ _ F' N' (by intro p hp q hq; rw [List.mem_singleton.mp hp]; exact l q hq) ⟨a', t0, t1, t2, rfl, rfl⟩


theorem e_left (X : (KK w.params).In h₀) (T : Top p loose mean mg mb h₀) (hdep : dp + 40 < recursionLimit) (hun : un + 300 < cLine)
    {C : Addr} {t₀ : Nat} {op : Obj} {pw : Int} {tp : Tok} (hop : op.data = .cell (some (.int pw tp))) {ra : Addr} {r0 r1 r2 : Int} {t0 t1 t2 : Tok} {c : Nat} (hp : pw = 1 ∨ pw = 2 ∨ pw = 4) :
    ElT prg w (mkA dp un fr gd) h₀ L m (compEnvC lcLeft.2.1 [(Str.ofString "power", L + 1)] C (LE L fa)) lcLeft.1 (VisL C (Str.ofString "runs")) t₀ [(L + 1, op), (ra, PySem.W.listOf #[.int r0 t0, .int r1 t1, .int r2 t2] c)] (.ref ra)
      (fun y ex => ∃ a' vs c', y = .ref a' ∧ IntsAre vs (leftF r0 r1 r2 pw) ∧ (a', PySem.W.listOf (List.toArray vs) c') ∈ ex ++ [(ra, PySem.W.listOf #[.int r0 t0, .int r1 t1, .int r2 t2] c)]) := by
  intro os s Q E news hV F N hos hneed htk ret
  obtain ⟨oC, m₂, rfl, hC, hx⟩ := hV
  have N2 : News h₀ L s.heap [(_, oC), (L + 1, op), (ra, PySem.W.listOf #[.int r0 t0, .int r1 t1, .int r2 t2] c)] := news_sub N (List.forall_mem_cons.mpr ⟨hos _ (.head _), hneed⟩)
  have N₀ : Hold (News h₀ L s.heap news) := N
  clear N
  with_unfolding_all show wpAny _ _ (eval (Expr.Call _ _ _ _) (compEnvC _ _ _ _)) _ _ _
  k_steps
  unfold Hold
  refine wpAny_call (c_left F (show News h₀ L s.heap news from N₀) X T (by omega) (by omega) (hneed _ (.tail _ (.head _))) hp fun a' vs c' ex h' tk' F' N' l hm hI => ?_)
  exact ret _ ex _ _ F' N' l ⟨a', vs, c', rfl, hI, hm⟩


theorem pre257 (tx : Str) : (Str.ofString "257 \"" ++ tx).cps.toList = [50, 53, 55, 32, 34] ++ tx.cps.toList := by
  have e : (Str.ofString "257 \"").cps.toList = [50, 53, 55, 32, 34] := by decide +kernel
  rw [Str.cps_append, Array.toList_append, e]

theorem e_parse (X : (KK w.params).In h₀) (T : Top p loose mean mg mb h₀) (hdep : dp + 40 < recursionLimit) (hun : un + 300 < cLine)
    {C : Addr} {t₀ : Nat} {tx : Str} {tt : Tok} (hl : tx.length ≤ 60) :
    ElT prg w (mkA dp un fr gd) h₀ L m (compEnvC lcParse.2.1 [] C (LE L fa)) lcParse.1 (VisL C (Str.ofString "text")) t₀ [] (.str tx tt)
      (fun y ex => ex = [] ∧ ∃ d t', y = .str d t' ∧ d.cps.toList = parseL tx.cps.toList) := by
  intro os s Q E news hV F N hos hneed htk ret
  obtain ⟨oC, m₂, rfl, hC, hx⟩ := hV
  have N2 : News h₀ L s.heap [(_, oC)] := news_sub N (List.forall_mem_cons.mpr ⟨hos _ (.head _), hneed⟩)
  have N₀ : Hold (News h₀ L s.heap news) := N
  clear N
  with_unfolding_all show wpAny _ _ (eval (Expr.Call _ _ _ _) (compEnvC _ _ _ _)) _ _ _
  k_steps
  unfold Hold
  have e5 : (Str.ofString "257 \"").length = 5 := by decide +kernel
  refine wpAny_call (c_parse (dp := dp) (un := un) (fr := fr) (gd := gd) (resp := Str.ofString "257 \"" ++ tx) (nn := 5 + tx.length) (by exact F) (by exact N₀) X T (by omega) (by omega) (by rw [Str.length_append, e5]) (by omega) ?s1 ?s2 fun d t' h' tk' F' N' hd => ?_)
  case s1 =>
    rw [eq_of_beq (slice_closes_to (j := 3) ⟨by omega, by rw [pre257]; simp only [List.length_append, List.length_cons, List.length_nil]; omega⟩), pre257]
    show (⟨[50, 53, 55].toArray⟩ : Str) = _
    decide +kernel
  case s2 =>
    rw [eq_of_beq (slice_closes (i := 3) (j := 5) ⟨by omega, by omega, by rw [pre257]; simp only [List.length_append, List.length_cons, List.length_nil]; omega⟩), pre257]
    show (⟨[32, 34].toArray⟩ : Str) = _
    decide +kernel
  exact ret _ [] _ _ F' N' (List.forall_mem_nil _) ⟨rfl, d, t', rfl, by rw [hd, pre257]; rfl⟩


theorem e_col1 (X : (KK w.params).In h₀) (T : Top p loose mean mg mb h₀) (hdep : dp + 40 < recursionLimit) (hun : un + 300 < cLine)
    {C : Addr} {t₀ : Nat} {op : Obj} {pw : Int} {tp : Tok} (hop : op.data = .cell (some (.int pw tp))) {oz : Obj} {sz : Int} {tz : Tok} (hoz : oz.data = .cell (some (.int sz tz))) {ra : Addr} {r0 : Int} {t0 : Tok} {c : Nat} (b0 : 0 ≤ r0 ∧ r0 ≤ 8) (hp : 1 ≤ pw ∧ pw ≤ 4) (hz : 1 ≤ sz ∧ sz ≤ 9) (hW : 1 ≤ sz * pw ∧ sz * pw ≤ 36) :
    ElT prg w (mkA dp un fr gd) h₀ L m (compEnvC lcCol.2.1 [(Str.ofString "size", L + 1 + 1 + 1), (Str.ofString "power", L + 1)] C (LE L fa)) lcCol.1 (VisL C (Str.ofString "left")) t₀ [(L + 1, op), (L + 1 + 1 + 1, oz), (ra, PySem.W.listOf #[.int r0 t0] c)] (.ref ra)
      (fun y ex => ex = [] ∧ ∃ t', y = .int (colF [r0] pw sz) t') := by
  intro os s Q E news hV F N hos hneed htk ret
  obtain ⟨oC, m₂, rfl, hC, hx⟩ := hV
  have N2 : News h₀ L s.heap [(_, oC), (L + 1, op), (L + 1 + 1 + 1, oz), (ra, PySem.W.listOf #[.int r0 t0] c)] := news_sub N (List.forall_mem_cons.mpr ⟨hos _ (.head _), hneed⟩)
  have N₀ : Hold (News h₀ L s.heap news) := N
  clear N
  with_unfolding_all show wpAny _ _ (eval (Expr.Call _ _ _ _) (compEnvC _ _ _ _)) _ _ _
  k_steps
  unfold Hold
  refine wpAny_call (c_col1 F (show News h₀ L s.heap news from N₀) X T (by omega) (by omega) (hneed _ (.tail _ (.tail _ (.head _)))) hp hz hW b0 fun t' h' tk' F' N' => ?_)
  exact ret _ [] _ _ F' N' (List.forall_mem_nil _) ⟨rfl, t', rfl⟩


theorem e_col2 (X : (KK w.params).In h₀) (T : Top p loose mean mg mb h₀) (hdep : dp + 40 < recursionLimit) (hun : un + 300 < cLine)
    {C : Addr} {t₀ : Nat} {op : Obj} {pw : Int} {tp : Tok} (hop : op.data = .cell (some (.int pw tp))) {oz : Obj} {sz : Int} {tz : Tok} (hoz : oz.data = .cell (some (.int sz tz))) {ra : Addr} {r0 r1 : Int} {t0 t1 : Tok} {c : Nat} (b0 : 0 ≤ r0 ∧ r0 ≤ 8) (b1 : 0 ≤ r1 ∧ r1 ≤ 8) (hp : 1 ≤ pw ∧ pw ≤ 4) (hz : 1 ≤ sz ∧ sz ≤ 9) (hW : 1 ≤ sz * pw ∧ sz * pw ≤ 36) :
    ElT prg w (mkA dp un fr gd) h₀ L m (compEnvC lcCol.2.1 [(Str.ofString "size", L + 1 + 1 + 1), (Str.ofString "power", L + 1)] C (LE L fa)) lcCol.1 (VisL C (Str.ofString "left")) t₀ [(L + 1, op), (L + 1 + 1 + 1, oz), (ra, PySem.W.listOf #[.int r0 t0, .int r1 t1] c)] (.ref ra)
      (fun y ex => ex = [] ∧ ∃ t', y = .int (colF [r0, r1] pw sz) t') := by
  intro os s Q E news hV F N hos hneed htk ret
  obtain ⟨oC, m₂, rfl, hC, hx⟩ := hV
  have N2 : News h₀ L s.heap [(_, oC), (L + 1, op), (L + 1 + 1 + 1, oz), (ra, PySem.W.listOf #[.int r0 t0, .int r1 t1] c)] := news_sub N (List.forall_mem_cons.mpr ⟨hos _ (.head _), hneed⟩)
  have N₀ : Hold (News h₀ L s.heap news) := N
  clear N
  with_unfolding_all show wpAny _ _ (eval (Expr.Call _ _ _ _) (compEnvC _ _ _ _)) _ _ _
  k_steps
  unfold Hold
  refine wpAny_call (c_col2 F (show News h₀ L s.heap news from N₀) X T (by omega) (by omega) (hneed _ (.tail _ (.tail _ (.head _)))) hp hz hW b0 b1 fun t' h' tk' F' N' => ?_)
  exact ret _ [] _ _ F' N' (List.forall_mem_nil _) ⟨rfl, t', rfl⟩


theorem e_col3 (X : (KK w.params).In h₀) (T : Top p loose mean mg mb h₀) (hdep : dp + 40 < recursionLimit) (hun : un + 300 < cLine)
    {C : Addr} {t₀ : Nat} {op : Obj} {pw : Int} {tp : Tok} (hop : op.data = .cell (some (.int pw tp))) {oz : Obj} {sz : Int} {tz : Tok} (hoz : oz.data = .cell (some (.int sz tz))) {ra : Addr} {r0 r1 r2 : Int} {t0 t1 t2 : Tok} {c : Nat} (b0 : 0 ≤ r0 ∧ r0 ≤ 8) (b1 : 0 ≤ r1 ∧ r1 ≤ 8) (b2 : 0 ≤ r2 ∧ r2 ≤ 8) (hp : 1 ≤ pw ∧ pw ≤ 4) (hz : 1 ≤ sz ∧ sz ≤ 9) (hW : 1 ≤ sz * pw ∧ sz * pw ≤ 36) :
    ElT prg w (mkA dp un fr gd) h₀ L m (compEnvC lcCol.2.1 [(Str.ofString "size", L + 1 + 1 + 1), (Str.ofString "power", L + 1)] C (LE L fa)) lcCol.1 (VisL C (Str.ofString "left")) t₀ [(L + 1, op), (L + 1 + 1 + 1, oz), (ra, PySem.W.listOf #[.int r0 t0, .int r1 t1, .int r2 t2] c)] (.ref ra)
      (fun y ex => ex = [] ∧ ∃ t', y = .int (colF [r0, r1, r2] pw sz) t') := by
  intro os s Q E news hV F N hos hneed htk ret
  obtain ⟨oC, m₂, rfl, hC, hx⟩ := hV
  have N2 : News h₀ L s.heap [(_, oC), (L + 1, op), (L + 1 + 1 + 1, oz), (ra, PySem.W.listOf #[.int r0 t0, .int r1 t1, .int r2 t2] c)] := news_sub N (List.forall_mem_cons.mpr ⟨hos _ (.head _), hneed⟩)
  have N₀ : Hold (News h₀ L s.heap news) := N
  clear N
  with_unfolding_all show wpAny _ _ (eval (Expr.Call _ _ _ _) (compEnvC _ _ _ _)) _ _ _
  k_steps
  unfold Hold
  refine wpAny_call (c_col3 F (show News h₀ L s.heap news from N₀) X T (by omega) (by omega) (hneed _ (.tail _ (.tail _ (.head _)))) hp hz hW b0 b1 b2 fun t' h' tk' F' N' => ?_)
  exact ret _ [] _ _ F' N' (List.forall_mem_nil _) ⟨rfl, t', rfl⟩


theorem e_ind (X : (KK w.params).In h₀) (T : Top p loose mean mg mb h₀) (hdep : dp + 40 < recursionLimit) (hun : un + 300 < cLine)
    {C : Addr} {t₀ : Nat} {oz : Obj} {sz : Int} {tz : Tok} (hoz : oz.data = .cell (some (.int sz tz))) {x : Addr} {cnt : List Int} {b n nt : Int} {led : List (Addr × Obj)} (hx : LeadIn led x cnt b n nt) (hfit : cnt.length ≤ 61) (hts : 1 ≤ sz ∧ sz ≤ 10) (hbd : ∀ c ∈ cnt, 0 ≤ c ∧ c ≤ 60) :
    ElT prg w (mkA dp un fr gd) h₀ L m (compEnvC lcInd.2.1 [(Str.ofString "size", L + 1 + 1 + 1)] C (LE L fa)) lcInd.1 (VisL C (Str.ofString "lead")) t₀ ((L + 1 + 1 + 1, oz) :: led) (.ref x)
      (fun y ex => ex = [] ∧ ∃ t', y = .int (indF cnt b nt sz) t') := by
  intro os s Q E news hV F N hos hneed htk ret
  obtain ⟨oC, m₂, rfl, hC, hxx⟩ := hV
  obtain ⟨dx, nm, ct, vs, e0, e1, e2, e3, e4, k0, k1, k2, k3, k4, raw, tn, tnt, tb, i1, i2, i3, i4, i5⟩ := hx.mono fun p hp => hneed p (.tail _ hp)
  have N2 : News h₀ L s.heap [(_, oC), (L + 1 + 1 + 1, oz), (x, instObj 83 dx), (dx, _)] := news_sub N (List.forall_mem_cons.mpr ⟨hos _ (.head _), List.forall_mem_cons.mpr ⟨hneed _ (.head _), List.forall_mem_cons.mpr ⟨i1, List.forall_mem_cons.mpr ⟨i2, List.forall_mem_nil _⟩⟩⟩⟩)
  have N₀ : Hold (News h₀ L s.heap news) := N
  clear N
  with_unfolding_all show wpAny _ _ (eval (Expr.Call _ _ _ _) (compEnvC _ _ _ _)) _ _ _
  k_steps
  unfold Hold
  refine wpAny_call (c_indent F (show News h₀ L s.heap news from N₀) X T (by omega) (by omega) i1 i2 i3 i4 i5 hfit hts hbd fun t' h' tk' F' N' => ?_)
  exact ret _ [] _ _ F' N' (List.forall_mem_nil _) ⟨rfl, t', rfl⟩
end
end Mine
end
namespace Mine
theorem freshAtComp3 : True := by
  (try (walk1; fail))
  w_top off
  trivial
end Mine
section
open PySem PySem.W PySem.Calls PyProof.Rows PyProof.Rows.LCg
set_option autoImplicit false
namespace Mine
set_option maxRecDepth 100000
set_option maxHeartbeats 8000000
def Fresh (ex news : List (Addr × Obj)) : Prop := ∀ p ∈ ex, ∀ q ∈ news, q.1 ≠ p.1
theorem Fresh.nil (news : List (Addr × Obj)) : Fresh [] news := fun _ h => nomatch h
theorem Fresh.append {a b news : List (Addr × Obj)} (h : Fresh a (b ++ news)) (h' : Fresh b news) : Fresh (a ++ b) news := fun p hp q hq =>
  (List.mem_append.mp hp).elim (fun hp => h p hp q (List.mem_append_right _ hq)) fun hp => h' p hp q hq
abbrev setm (m : Str → Option Value) (x : Str) (v : Value) : Str → Option Value := fun z => if z = x then some v else m z
def Fin3 (P0 P1 P2 : Value → List (Addr × Obj) → Prop) (news : List (Addr × Obj)) (ys : List Value) (n : List (Addr × Obj)) : Prop :=
  ∃ y0 y1 y2 x0 x1 x2 ex, ys = [y0, y1, y2] ∧ n = ex ++ news ∧ Fresh ex news ∧ P0 y0 x0 ∧ P1 y1 x1 ∧ P2 y2 x2 ∧ (∀ p ∈ x0, p ∈ ex) ∧ (∀ p ∈ x1, p ∈ ex) ∧ (∀ p ∈ x2, p ∈ ex)
theorem rem3 {P0 P1 P2 : Value → List (Addr × Obj) → Prop} {news : List (Addr × Obj)} : RemT (Fin3 P0 P1 P2 news) [P0, P1, P2] [] news := by
  intro y0 x0 p0 f0 y1 x1 p1 f1 y2 x2 p2 f2
  refine ⟨y0, y1, y2, x0, x1, x2, x2 ++ (x1 ++ x0), rfl, by simp, ?_, p0, p1, p2, fun p hp => List.mem_append_right _ (List.mem_append_right _ hp), fun p hp => List.mem_append_right _ (List.mem_append_left _ hp), fun p hp => List.mem_append_left _ hp⟩
  exact Fresh.append (by rw [List.append_assoc]; exact f2) (Fresh.append f1 f0)
section
variable {prog : Program} {w : World} {A : Around} {h₀ : Heap} {L : Addr} {m : Str → Option Value} {env : Env} {elt iter : Expr} {x : Str} {px : Pos} {scope : Scope} {cl : List (Str × Addr)} {pos : Pos} {ax : Addr} {c : Nat} {v0 v1 v2 : Value} {s : Shared} {need news : List (Addr × Obj)} {P0 P1 P2 : Value → List (Addr × Obj) → Prop}
theorem comp3 {E Q : Value → Shared → Prop}
    (hsrc : ∀ (E : Value → Shared → Prop) (Q : Value → Shared → Prop), Q (.ref ax) s → wpAny (model prog w) A (eval iter env) Q E s)
    (e0 : ∀ C, ElT prog w A h₀ L m (compEnvC scope cl C env) elt (VisL C x) s.toks need v0 P0) (e1 : ∀ C, ElT prog w A h₀ L m (compEnvC scope cl C env) elt (VisL C x) s.toks need v1 P1) (e2 : ∀ C, ElT prog w A h₀ L m (compEnvC scope cl C env) elt (VisL C x) s.toks need v2 P2)
    (hneed : ∀ p ∈ need, p ∈ news) (hax : (ax, PySem.W.listOf #[v0, v1, v2] c) ∈ news) (F : Fr h₀ L s.heap m) (N : News h₀ L s.heap news)
    (hQ : ∀ D y0 y1 y2 x0 x1 x2 ex h tk, s.toks ≤ tk → Fr h₀ L h m → News h₀ L h (((D, PySem.W.listOf #[y0, y1, y2] 3) :: ex) ++ news) → Fresh ((D, PySem.W.listOf #[y0, y1, y2] 3) :: ex) news → P0 y0 x0 → P1 y1 x1 → P2 y2 x2 → (∀ p ∈ x0, p ∈ ex) → (∀ p ∈ x1, p ∈ ex) → (∀ p ∈ x2, p ∈ ex) → Q (.ref D) { s with heap := h, toks := tk })
    (hh : A.handled = none := by rfl) (hclos : closureFor scope env = pure cl := by with_unfolding_all rfl) (hcell : ∀ y ∈ scope.names, y.2 ≠ .cell := by decide) (hkind : scope.kind = .function := by rfl)
    (hnames : ∀ y ∈ scope.names, y.2 = .local → scope.names.lookup y.1 = some .local := by decide) (hx : scope.names.lookup x = some .local := by rfl)
    (hs : ∀ x, foldedSetIterable iter env x = pure x := by intro _; rfl) :
    wpAny (model prog w) A (eval (.ListComp elt [⟨.Name x px, iter, [], 0⟩] scope pos) env) Q E s := by
  refine comp_local hh (by show 3 ≤ sizeLine; rw [sizeLine_eq]; omega) hclos hcell hkind hnames hx hsrc (Ps := [P0, P1, P2]) (its := #[v0, v1, v2]) rfl (fun C => idx3 (e0 C) (e1 C) (e2 C)) rem3 hneed hax F N ?_ hs
  rintro D ys news' h tk htk ⟨y0, y1, y2, x0, x1, x2, ex, rfl, rfl, fr, p0, p1, p2, i0, i1, i2⟩ F' N' off
  refine hQ D y0 y1 y2 x0 x1 x2 ex h tk htk F' N' (fun p hp q hq => ?_) p0 p1 p2 i0 i1 i2
  rcases List.mem_cons.mp hp with rfl | hp
  · exact off q (List.mem_append_right _ hq)
  · exact fr p hp q hq
theorem comp3A {E : Value → Shared → Prop} {Q : Flow → Shared → Prop} {y : Str} {py spos : Pos}
    (hsrc : ∀ (E : Value → Shared → Prop) (Q : Value → Shared → Prop), Q (.ref ax) s → wpAny (model prog w) A (eval iter env) Q E s)
    (e0 : ∀ C, ElT prog w A h₀ L m (compEnvC scope cl C env) elt (VisL C x) s.toks need v0 P0) (e1 : ∀ C, ElT prog w A h₀ L m (compEnvC scope cl C env) elt (VisL C x) s.toks need v1 P1) (e2 : ∀ C, ElT prog w A h₀ L m (compEnvC scope cl C env) elt (VisL C x) s.toks need v2 P2)
    (hneed : ∀ p ∈ need, p ∈ news) (hax : (ax, PySem.W.listOf #[v0, v1, v2] c) ∈ news) (F : Fr h₀ L s.heap m) (N : News h₀ L s.heap news)
    (hQ : ∀ D y0 y1 y2 x0 x1 x2 ex h tk, s.toks ≤ tk → Fr h₀ L h (setm m y (.ref D)) → News h₀ L h (((D, PySem.W.listOf #[y0, y1, y2] 3) :: ex) ++ news) → Fresh ((D, PySem.W.listOf #[y0, y1, y2] 3) :: ex) news → P0 y0 x0 → P1 y1 x1 → P2 y2 x2 → (∀ p ∈ x0, p ∈ ex) → (∀ p ∈ x1, p ∈ ex) → (∀ p ∈ x2, p ∈ ex) → Q .next { s with heap := h, toks := tk })
    (hh : A.handled = none := by rfl) (hclos : closureFor scope env = pure cl := by with_unfolding_all rfl) (hcell : ∀ y ∈ scope.names, y.2 ≠ .cell := by decide) (hkind : scope.kind = .function := by rfl)
    (hnames : ∀ y ∈ scope.names, y.2 = .local → scope.names.lookup y.1 = some .local := by decide) (hx : scope.names.lookup x = some .local := by rfl)
    (hLe : env.locals = L := by rfl) (hsw : swapsWith (.ListComp elt [⟨.Name x px, iter, [], 0⟩] scope pos) (some (.Name y py)) spos.line env = pure true := by with_unfolding_all rfl) (hy : env.kindOf y = some .local := by with_unfolding_all rfl) (hp : (env.scope.kind == .class || (env.scope.kind == .module && env.locals != env.globals)) = false := by with_unfolding_all rfl)
    (hs : ∀ x, foldedSetIterable iter env x = pure x := by intro _; rfl) :
    wpAny (model prog w) A (exec (.Assign [.Name y py] (.ListComp elt [⟨.Name x px, iter, [], 0⟩] scope pos) spos) env) Q E s := by
  refine comp_localA hh (by show 3 ≤ sizeLine; rw [sizeLine_eq]; omega) hclos hcell hkind hnames hx hsrc (Ps := [P0, P1, P2]) (its := #[v0, v1, v2]) rfl (fun C => idx3 (e0 C) (e1 C) (e2 C)) rem3 hneed hax F N ?_ hLe hsw hy hp hs
  rintro D ys news' h tk htk ⟨y0, y1, y2, x0, x1, x2, ex, rfl, rfl, fr, p0, p1, p2, i0, i1, i2⟩ F' N' off
  refine hQ D y0 y1 y2 x0 x1 x2 ex h tk htk F' N' (fun p hp q hq => ?_) p0 p1 p2 i0 i1 i2
  rcases List.mem_cons.mp hp with rfl | hp
  · exact off q (List.mem_append_right _ hq)
  · exact fr p hp q hq
end
theorem ElT.need {prog : Program} {w : World} {A : Around} {h₀ : Heap} {L : Addr} {m : Str → Option Value} {cenv : Env} {elt : Expr} {V : Vis} {t₀ : Nat} {need need' : List (Addr × Obj)} {v : Value} {P : Value → List (Addr × Obj) → Prop}
    (h : ElT prog w A h₀ L m cenv elt V t₀ need v P) (hs : ∀ p ∈ need, p ∈ need') : ElT prog w A h₀ L m cenv elt V t₀ need' v P := fun os s Q E news a b c d e f g => h os s Q E news a b c d (fun p hp => e p (hs p hp)) f g
theorem MElt.toT {prog : Program} {w : World} {A : Around} {h₀ : Heap} {L C : Addr} {m : Str → Option Value} {env : Env} {elt : Expr} {x : Str} {scope : Scope} {cl : List (Str × Addr)} {t₀ : Nat} {need : List (Addr × Obj)} {v : Value} {P : Value → List (Addr × Obj) → Prop}
    (h : MElt prog w A h₀ L m env elt x scope cl need v P) : ElT prog w A h₀ L m (compEnvC scope cl C env) elt (VisL C x) t₀ need v P := by
  rintro os s Q E news ⟨oC, m₂, rfl, hC, hx⟩ F N hos hneed _ k
  exact h C oC m₂ s Q E news hC hx F N (hos _ (.head _)) hneed k
/-! what the ledger bears -/
abbrev Led := List (Addr × Obj)
def IsTx (l : List Nat) (y : Value) : Prop := ∃ d t, y = .str d t ∧ d.cps.toList = l
def Txts (news : Led) (a : Addr) (l0 l1 l2 : List Nat) : Prop := ∃ y0 y1 y2 c, (a, PySem.W.listOf #[y0, y1, y2] c) ∈ news ∧ IsTx l0 y0 ∧ IsTx l1 y1 ∧ IsTx l2 y2
abbrev Wd := Int × Int × Int
def Rn (news : Led) (a : Addr) (r : Wd) : Prop := ∃ t0 t1 t2 c, (a, PySem.W.listOf #[.int r.1 t0, .int r.2.1 t1, .int r.2.2 t2] c) ∈ news
def Words (news : Led) (a : Addr) (u v w : Wd) : Prop := ∃ w0 w1 w2 c, (a, PySem.W.listOf #[.ref w0, .ref w1, .ref w2] c) ∈ news ∧ Rn news w0 u ∧ Rn news w1 v ∧ Rn news w2 w
def Nts (news : Led) (a : Addr) (l : List Int) : Prop := ∃ vs c, (a, PySem.W.listOf (List.toArray vs) c) ∈ news ∧ IntsAre vs l
def Lefts (news : Led) (a : Addr) (l0 l1 l2 : List Int) : Prop := ∃ a0 a1 a2 c, (a, PySem.W.listOf #[.ref a0, .ref a1, .ref a2] c) ∈ news ∧ Nts news a0 l0 ∧ Nts news a1 l1 ∧ Nts news a2 l2
abbrev WS := List Int × Int × Int × Int
def Ld (news : Led) (x : Addr) (q : WS) : Prop := LeadIn news x q.1 q.2.1 q.2.2.1 q.2.2.2
def Leads (news : Led) (a : Addr) (q0 q1 q2 : WS) : Prop := ∃ x0 x1 x2 c, (a, PySem.W.listOf #[.ref x0, .ref x1, .ref x2] c) ∈ news ∧ Ld news x0 q0 ∧ Ld news x1 q1 ∧ Ld news x2 q2
section
variable {news news' : Led} (hs : ∀ p ∈ news, p ∈ news')
include hs
theorem Txts.mono {a : Addr} {l0 l1 l2 : List Nat} (h : Txts news a l0 l1 l2) : Txts news' a l0 l1 l2 := let ⟨y0, y1, y2, c, h1, h2⟩ := h; ⟨y0, y1, y2, c, hs _ h1, h2⟩
theorem Rn.mono {a : Addr} {r : Wd} (h : Rn news a r) : Rn news' a r := let ⟨t0, t1, t2, c, h1⟩ := h; ⟨t0, t1, t2, c, hs _ h1⟩
theorem Words.mono {a : Addr} {u v w : Wd} (h : Words news a u v w) : Words news' a u v w := let ⟨w0, w1, w2, c, h1, h2, h3, h4⟩ := h; ⟨w0, w1, w2, c, hs _ h1, h2.mono hs, h3.mono hs, h4.mono hs⟩
theorem Nts.mono {a : Addr} {l : List Int} (h : Nts news a l) : Nts news' a l := let ⟨vs, c, h1, h2⟩ := h; ⟨vs, c, hs _ h1, h2⟩
theorem Lefts.mono {a : Addr} {l0 l1 l2 : List Int} (h : Lefts news a l0 l1 l2) : Lefts news' a l0 l1 l2 := let ⟨w0, w1, w2, c, h1, h2, h3, h4⟩ := h; ⟨w0, w1, w2, c, hs _ h1, h2.mono hs, h3.mono hs, h4.mono hs⟩
theorem Ld.mono {a : Addr} {q : WS} (h : Ld news a q) : Ld news' a q := LeadIn.mono h hs
theorem Leads.mono {a : Addr} {l0 l1 l2 : WS} (h : Leads news a l0 l1 l2) : Leads news' a l0 l1 l2 := let ⟨w0, w1, w2, c, h1, h2, h3, h4⟩ := h; ⟨w0, w1, w2, c, hs _ h1, h2.mono hs, h3.mono hs, h4.mono hs⟩
end
end Mine
end
namespace Mine
theorem freshAtEqs : True := by
  (try (walk1; fail))
  w_top off
  trivial
end Mine
section
open PySem PySem.W PySem.Calls PyProof.Rows PyProof.Rows.LCg
set_option autoImplicit false
namespace Mine
set_option maxRecDepth 100000
set_option maxHeartbeats 8000000
section
variable {prog : Program} {w : World} {A : Around} {E : Value → Shared → Prop} {s : Shared} {Q : Value → Shared → Prop} {h₀ : Heap} {L a b : Addr} {news : Led}
theorem reads_nts {l : List Int} (N : News h₀ L s.heap news) (h : Nts news a l) : Reads s.heap (.ref a) (.list (l.map PyData.int)) [a] := by
  obtain ⟨vs, c, hm, hi⟩ := h
  exact reads_newData ⟨_, (N _ hm).1, rfl, _, rfl⟩ (ke_carried hi)
theorem eqv_ints (ns ms : List Int) : PyData.eqv (.list (ns.map PyData.int)) (.list (ms.map PyData.int)) = decide (ns = ms) := by
  simp only [PyData.eqv, ked_eqvAll]
theorem eq_nts {l l' : List Int} (N : News h₀ L s.heap news) (ha : Nts news a l) (hb : Nts news b l') (hu : A.units + 64 < cLine) (h : Q (.bool (decide (l = l'))) s) : wpAny (model prog w) A (compareOp .Eq (.ref a) (.ref b)) Q E s :=
  eq_dataH (reads_nts N ha) (reads_nts N hb) (ke_shaped_ints _) (ke_shaped_ints _) hu (by rw [eqv_ints]; exact h)
theorem ne_nts {l l' : List Int} (N : News h₀ L s.heap news) (ha : Nts news a l) (hb : Nts news b l') (hu : A.units + 64 < cLine) (h : Q (.bool (!decide (l = l'))) s) : wpAny (model prog w) A (compareOp .NotEq (.ref a) (.ref b)) Q E s :=
  ne_dataH (reads_nts N ha) (reads_nts N hb) (ke_shaped_ints _) (ke_shaped_ints _) hu (by rw [eqv_ints]; exact h)
theorem str_ext {d e : Str} (h : d.cps.toList = e.cps.toList) : d = e := by
  cases d; cases e
  simp only at h
  rw [Array.toList_inj.mp h]
def okL (l : List Nat) : Bool := PyData.strOk ⟨l.toArray⟩
theorem ok_of {d : Str} {l : List Nat} (e : d.cps.toList = l) (h : okL l = true) : PyData.strOk d = true := by
  have : d = ⟨l.toArray⟩ := str_ext (by rw [e])
  rw [this]; exact h
theorem ne_txts {l0 l1 l2 : List Nat} (k0 : okL l0 = true) (k1 : okL l1 = true) (k2 : okL l2 = true) (N : News h₀ L s.heap news) (ha : Txts news a l0 l1 l2) (hb : Txts news b l0 l1 l2) (hu : A.units + 64 < cLine) (h : Q (.bool false) s) : wpAny (model prog w) A (compareOp .NotEq (.ref a) (.ref b)) Q E s := by
  obtain ⟨y0, y1, y2, c, hm, ⟨d0, t0, rfl, e0⟩, ⟨d1, t1, rfl, e1⟩, ⟨d2, t2, rfl, e2⟩⟩ := ha
  obtain ⟨z0, z1, z2, c', hm', ⟨g0, u0, rfl, f0⟩, ⟨g1, u1, rfl, f1⟩, ⟨g2, u2, rfl, f2⟩⟩ := hb
  obtain rfl := str_ext (e0.trans f0.symm)
  obtain rfl := str_ext (e1.trans f1.symm)
  obtain rfl := str_ext (e2.trans f2.symm)
  have r : ∀ {x : Addr} {t0 t1 t2 : Tok} {c : Nat}, (x, PySem.W.listOf #[.str d0 t0, .str d1 t1, .str d2 t2] c) ∈ news → Reads s.heap (.ref x) (.list [.str d0, .str d1, .str d2]) [x] := fun hm =>
    reads_newData ⟨_, (N _ hm).1, rfl, _, rfl⟩ (.cons (.str _ _) (.cons (.str _ _) (.cons (.str _ _) .nil)))
  have sh : SeqAt.shaped (.list [.str d0, .str d1, .str d2]) = true := by simp [SeqAt.shaped, PyData.canLay0, PyData.canLayAll0, PyData.depth, PyData.depthAll, ok_of e0 k0, ok_of e1 k1, ok_of e2 k2]
  refine ne_dataH (r hm) (r hm') sh sh hu ?_
  have : PyData.eqv (.list [.str d0, .str d1, .str d2]) (.list [.str d0, .str d1, .str d2]) = true := by simp [PyData.eqv, PyData.eqvAll]
  rw [this]
  exact h
end
end Mine
end
namespace Mine
theorem freshAtS1 : True := by
  (try (walk1; fail))
  w_top off
  trivial
end Mine
section
open PySem PySem.W PySem.Calls PyProof.Rows PyProof.Rows.LCg
set_option autoImplicit false
namespace Mine
set_option maxRecDepth 100000
set_option maxHeartbeats 8000000
theorem fillOfS1 : PySem.Challenge.rw_rl0102_01 = PySem.Challenge.rw_rl0102_01 ∧ KK = KK := by
  k_fill
  exact ⟨rfl, rfl⟩
variable {w : World} {dp un : Nat} {fr : Option (List Env)} {gd : Option (List Code)} {s : Shared} {h₀ : Heap} {L fa : Addr} {m : Str → Option Value} {news : List (Addr × Obj)} {p : Program} {loose : List Str} {mean : ExcName → Option Value} {mg mb : Str → Option Value}

def Bd (r : Wd) : Prop := (0 ≤ r.1 ∧ r.1 ≤ 8) ∧ (0 ≤ r.2.1 ∧ r.2.1 ≤ 8) ∧ (0 ≤ r.2.2 ∧ r.2.2 ≤ 8)

theorem s_texts (X : (KK w.params).In h₀) (T : Top p loose mean mg mb h₀) (hdep : dp + 40 < recursionLimit) (hun : un + 300 < cLine) (F : Fr h₀ L s.heap m) (N : News h₀ L s.heap news) {Q : Flow → Shared → Prop} {E : Value → Shared → Prop} {aw : Addr} {u v z : Wd} (hm : m (Str.ofString "words") = some (.ref aw)) (hW : Words news aw u v z) (bu : Bd u) (bv : Bd v) (bz : Bd z)
    (ret : ∀ D ex h' tk', s.toks ≤ tk' → Fr h₀ L h' (setm m (Str.ofString "texts") (.ref D)) → News h₀ L h' (ex ++ news) → Fresh ex news → Txts ex D (textL [u.1.toNat, u.2.1.toNat, u.2.2.toNat]) (textL [v.1.toNat, v.2.1.toNat, v.2.2.toNat]) (textL [z.1.toNat, z.2.1.toNat, z.2.2.toNat]) → Q .next { s with heap := h', toks := tk' }) :
    wpAny (model prg w) (mkA dp un fr gd) (exec (nth lawBody 1) (LE L fa)) Q E s := by
  obtain ⟨w0, w1, w2, c, hax, ⟨t00, t01, t02, c0, h0⟩, ⟨t10, t11, t12, c1, h1⟩, ⟨t20, t21, t22, c2, h2⟩⟩ := hW
  with_unfolding_all show wpAny _ _ (exec (Stmt.Assign [Expr.Name _ _] (Expr.ListComp _ [⟨Expr.Name _ _, _, [], 0⟩] _ _) _) _) _ _ _
  refine comp3A (cl := []) (need := [(w0, PySem.W.listOf #[.int u.1 t00, .int u.2.1 t01, .int u.2.2 t02] c0), (w1, PySem.W.listOf #[.int v.1 t10, .int v.2.1 t11, .int v.2.2 t12] c1), (w2, PySem.W.listOf #[.int z.1 t20, .int z.2.1 t21, .int z.2.2 t22] c2)]) (fun E' Q' h' => nameX_L F hm h' rfl (by with_unfolding_all rfl) (by decide)) (fun C => (MElt.toT (e_text X T hdep hun bu.1 bu.2.1 bu.2.2)).need (List.forall_mem_cons.mpr ⟨by k_mem, List.forall_mem_nil _⟩)) (fun C => (MElt.toT (e_text X T hdep hun bv.1 bv.2.1 bv.2.2)).need (List.forall_mem_cons.mpr ⟨by k_mem, List.forall_mem_nil _⟩)) (fun C => (MElt.toT (e_text X T hdep hun bz.1 bz.2.1 bz.2.2)).need (List.forall_mem_cons.mpr ⟨by k_mem, List.forall_mem_nil _⟩))
    (List.forall_mem_cons.mpr ⟨h0, List.forall_mem_cons.mpr ⟨h1, List.forall_mem_cons.mpr ⟨h2, List.forall_mem_nil _⟩⟩⟩) hax F N ?_
  rintro D y0 y1 y2 x0 x1 x2 ex h tk htk F' N' fr ⟨_, q0⟩ ⟨_, q1⟩ ⟨_, q2⟩ i0 i1 i2
  exact ret D _ h tk htk F' N' fr ⟨y0, y1, y2, 3, .head _, q0, q1, q2⟩
end Mine
end
namespace Mine
theorem freshAtS2 : True := by
  (try (walk1; fail))
  w_top off
  trivial
end Mine
section
open PySem PySem.W PySem.Calls PyProof.Rows PyProof.Rows.LCg
set_option autoImplicit false
namespace Mine
set_option maxRecDepth 100000
set_option maxHeartbeats 8000000
theorem fillOfS2 : PySem.Challenge.rw_rl0102_01 = PySem.Challenge.rw_rl0102_01 ∧ KK = KK := by
  k_fill
  exact ⟨rfl, rfl⟩
variable {w : World} {dp un : Nat} {fr : Option (List Env)} {gd : Option (List Code)} {s : Shared} {h₀ : Heap} {L fa : Addr} {m : Str → Option Value} {news : List (Addr × Obj)} {p : Program} {loose : List Str} {mean : ExcName → Option Value} {mg mb : Str → Option Value}

theorem st_cell {prog : Program} {A : Around} {E : Value → Shared → Prop} {env : Env} {x : Str} {c : Addr} {v : Value} {v₀ : Option Value} {oc : Obj} {pre post : Led} {Q : Unit → Shared → Prop} (F : Fr h₀ L s.heap m) (N : News h₀ L s.heap (pre ++ (c, oc) :: post)) (hd : oc.data = .cell v₀) (h1 : ∀ p ∈ pre, p.1 ≠ c) (h2 : ∀ p ∈ post, p.1 ≠ c)
    (h : ∀ o' h', o'.data = .cell (some v) → Fr h₀ L h' m → News h₀ L h' (pre ++ (c, o') :: post) → Q () { s with heap := h' })
    (hc : env.cells.lookup x = some c) (hk : env.scope.kind = .function := by with_unfolding_all rfl) (hx : env.kindOf x = some .cell := by with_unfolding_all rfl) :
    wpAny (model prog w) A (storeName env x v) Q E s := by
  have nc := N (c, oc) (List.mem_append_right _ (.head _))
  refine wpAny_storeName_cell hk hx hc ⟨oc, nc.1, hd⟩ fun h' hv hs => ?_
  obtain ⟨o', e', hd'⟩ := hv
  exact h o' h' hd' (fr_at F (fun b x hb e => hs.extBut b x hb e) nc.2.1 nc.2.2) (news_at N (fun b x hb e => hs.extBut b x hb e) e' h1 h2)

theorem e_want (X : (KK w.params).In h₀) (T : Top p loose mean mg mb h₀) (hdep : dp + 40 < recursionLimit) (hun : un + 300 < cLine)
    {C : Addr} {t₀ : Nat} {op : Obj} {pw : Int} {tp : Tok} (hop : op.data = .cell (some (.int pw tp))) (hp : 1 ≤ pw ∧ pw ≤ 4) {a : Addr} {vs : List Value} {c : Nat} {l : List Int} (hi : IntsAre vs l) (hl : 1 ≤ l.length ∧ l.length ≤ 3) (hb : ∀ r ∈ l, 0 ≤ r ∧ r ≤ 8) :
    ElT prg w (mkA dp un fr gd) h₀ L m (compEnvC lcWant.2.1 [(Str.ofString "power", L + 1)] C (LE L fa)) lcWant.1 (VisL C (Str.ofString "left")) t₀ [(L + 1, op), (a, PySem.W.listOf (List.toArray vs) c)] (.ref a)
      (fun y ex => ex = [] ∧ IsT (l.map fun r => (Int.fdiv r pw).toNat) y) := by
  rcases hi with _ | ⟨r0, t0, hi⟩
  · simp at hl
  have b0 := hb r0 (.head _)
  rcases hi with _ | ⟨r1, t1, hi⟩
  · exact MElt.toT (e_want1 X T hdep hun hop b0 hp)
  have b1 := hb r1 (.tail _ (.head _))
  rcases hi with _ | ⟨r2, t2, hi⟩
  · exact MElt.toT (e_want2 X T hdep hun hop b0 b1 hp)
  have b2 := hb r2 (.tail _ (.tail _ (.head _)))
  rcases hi with _ | ⟨r3, t3, hi⟩
  · exact MElt.toT (e_want3 X T hdep hun hop b0 b1 b2 hp)
  · simp at hl

theorem e_col (X : (KK w.params).In h₀) (T : Top p loose mean mg mb h₀) (hdep : dp + 40 < recursionLimit) (hun : un + 300 < cLine)
    {C : Addr} {t₀ : Nat} {op : Obj} {pw : Int} {tp : Tok} (hop : op.data = .cell (some (.int pw tp))) {oz : Obj} {sz : Int} {tz : Tok} (hoz : oz.data = .cell (some (.int sz tz))) (hp : 1 ≤ pw ∧ pw ≤ 4) (hz : 1 ≤ sz ∧ sz ≤ 9) (hW : 1 ≤ sz * pw ∧ sz * pw ≤ 36) {a : Addr} {vs : List Value} {c : Nat} {l : List Int} (hi : IntsAre vs l) (hl : 1 ≤ l.length ∧ l.length ≤ 3) (hb : ∀ r ∈ l, 0 ≤ r ∧ r ≤ 8) :
    ElT prg w (mkA dp un fr gd) h₀ L m (compEnvC lcCol.2.1 [(Str.ofString "size", L + 1 + 1 + 1), (Str.ofString "power", L + 1)] C (LE L fa)) lcCol.1 (VisL C (Str.ofString "left")) t₀ [(L + 1, op), (L + 1 + 1 + 1, oz), (a, PySem.W.listOf (List.toArray vs) c)] (.ref a)
      (fun y ex => ex = [] ∧ ∃ t', y = .int (colF l pw sz) t') := by
  rcases hi with _ | ⟨r0, t0, hi⟩
  · simp at hl
  have b0 := hb r0 (.head _)
  rcases hi with _ | ⟨r1, t1, hi⟩
  · exact e_col1 X T hdep hun hop hoz b0 hp hz hW
  have b1 := hb r1 (.tail _ (.head _))
  rcases hi with _ | ⟨r2, t2, hi⟩
  · exact e_col2 X T hdep hun hop hoz b0 b1 hp hz hW
  have b2 := hb r2 (.tail _ (.tail _ (.head _)))
  rcases hi with _ | ⟨r3, t3, hi⟩
  · exact e_col3 X T hdep hun hop hoz b0 b1 b2 hp hz hW
  · simp at hl

theorem s_left (X : (KK w.params).In h₀) (T : Top p loose mean mg mb h₀) (hdep : dp + 40 < recursionLimit) (hun : un + 300 < cLine) (F : Fr h₀ L s.heap m) (N : News h₀ L s.heap news) {Q : Flow → Shared → Prop} {E : Value → Shared → Prop} {aw : Addr} {u v z : Wd} {op : Obj} {pw : Int} {tp : Tok} (hop : op.data = .cell (some (.int pw tp))) (hpm : (L + 1, op) ∈ news) (hp : pw = 1 ∨ pw = 2 ∨ pw = 4) (hm : m (Str.ofString "words") = some (.ref aw)) (hW : Words news aw u v z)
    (ret : ∀ D ex h' tk', s.toks ≤ tk' → Fr h₀ L h' (setm m (Str.ofString "lefts") (.ref D)) → News h₀ L h' (ex ++ news) → Fresh ex news → Lefts (ex ++ news) D (leftF u.1 u.2.1 u.2.2 pw) (leftF v.1 v.2.1 v.2.2 pw) (leftF z.1 z.2.1 z.2.2 pw) → Q .next { s with heap := h', toks := tk' }) :
    wpAny (model prg w) (mkA dp un fr gd) (exec (nth powBody 1) (LE L fa)) Q E s := by
  obtain ⟨w0, w1, w2, c, hax, ⟨t00, t01, t02, c0, h0⟩, ⟨t10, t11, t12, c1, h1⟩, ⟨t20, t21, t22, c2, h2⟩⟩ := hW
  with_unfolding_all show wpAny _ _ (exec (Stmt.Assign [Expr.Name _ _] (Expr.ListComp _ [⟨Expr.Name _ _, _, [], 0⟩] _ _) _) _) _ _ _
  refine comp3A (cl := [(Str.ofString "power", L + 1)]) (need := [(L + 1, op), (w0, PySem.W.listOf #[.int u.1 t00, .int u.2.1 t01, .int u.2.2 t02] c0), (w1, PySem.W.listOf #[.int v.1 t10, .int v.2.1 t11, .int v.2.2 t12] c1), (w2, PySem.W.listOf #[.int z.1 t20, .int z.2.1 t21, .int z.2.2 t22] c2)]) (fun E' Q' h' => nameX_L F hm h' rfl (by with_unfolding_all rfl) (by decide)) (fun C => (e_left X T hdep hun hop hp).need (List.forall_mem_cons.mpr ⟨by k_mem, List.forall_mem_cons.mpr ⟨by k_mem, List.forall_mem_nil _⟩⟩)) (fun C => (e_left X T hdep hun hop hp).need (List.forall_mem_cons.mpr ⟨by k_mem, List.forall_mem_cons.mpr ⟨by k_mem, List.forall_mem_nil _⟩⟩)) (fun C => (e_left X T hdep hun hop hp).need (List.forall_mem_cons.mpr ⟨by k_mem, List.forall_mem_cons.mpr ⟨by k_mem, List.forall_mem_nil _⟩⟩))
    (List.forall_mem_cons.mpr ⟨hpm, List.forall_mem_cons.mpr ⟨h0, List.forall_mem_cons.mpr ⟨h1, List.forall_mem_cons.mpr ⟨h2, List.forall_mem_nil _⟩⟩⟩⟩) hax F N ?_
  rintro D y0 y1 y2 x0 x1 x2 ex h tk htk F' N' fr ⟨a0, s0, d0, rfl, q0, r0⟩ ⟨a1, s1, d1, rfl, q1, r1⟩ ⟨a2, s2, d2, rfl, q2, r2⟩ i0 i1 i2
  refine ret D _ h tk htk F' N' fr ⟨a0, a1, a2, 3, .head _, ⟨s0, d0, ?_, q0⟩, ⟨s1, d1, ?_, q1⟩, ⟨s2, d2, ?_, q2⟩⟩
  · exact (List.mem_append.mp r0).elim (fun hp => List.mem_append_left _ (.tail _ (i0 _ hp))) fun hp => List.mem_append_right _ (List.mem_singleton.mp hp ▸ h0)
  · exact (List.mem_append.mp r1).elim (fun hp => List.mem_append_left _ (.tail _ (i1 _ hp))) fun hp => List.mem_append_right _ (List.mem_singleton.mp hp ▸ h1)
  · exact (List.mem_append.mp r2).elim (fun hp => List.mem_append_left _ (.tail _ (i2 _ hp))) fun hp => List.mem_append_right _ (List.mem_singleton.mp hp ▸ h2)

theorem s_want (X : (KK w.params).In h₀) (T : Top p loose mean mg mb h₀) (hdep : dp + 40 < recursionLimit) (hun : un + 300 < cLine) (F : Fr h₀ L s.heap m) (N : News h₀ L s.heap news) {Q : Flow → Shared → Prop} {E : Value → Shared → Prop} {al at' : Addr} {op : Obj} {pw : Int} {tp : Tok} (hop : op.data = .cell (some (.int pw tp))) (hpm : (L + 1, op) ∈ news) (hp : 1 ≤ pw ∧ pw ≤ 4) (hm : m (Str.ofString "lefts") = some (.ref al)) (hmt : m (Str.ofString "texts") = some (.ref at')) {l0 l1 l2 : List Int} (hL : Lefts news al l0 l1 l2) (len : (1 ≤ l0.length ∧ l0.length ≤ 3) ∧ (1 ≤ l1.length ∧ l1.length ≤ 3) ∧ (1 ≤ l2.length ∧ l2.length ≤ 3)) (bd : (∀ r ∈ l0, 0 ≤ r ∧ r ≤ 8) ∧ (∀ r ∈ l1, 0 ≤ r ∧ r ≤ 8) ∧ (∀ r ∈ l2, 0 ≤ r ∧ r ≤ 8))
    (hT : Txts news at' (textL (l0.map fun r => (Int.fdiv r pw).toNat)) (textL (l1.map fun r => (Int.fdiv r pw).toNat)) (textL (l2.map fun r => (Int.fdiv r pw).toNat))) (ok : okL (textL (l0.map fun r => (Int.fdiv r pw).toNat)) = true ∧ okL (textL (l1.map fun r => (Int.fdiv r pw).toNat)) = true ∧ okL (textL (l2.map fun r => (Int.fdiv r pw).toNat)) = true)
    (ret : ∀ ex h' tk', s.toks ≤ tk' → Fr h₀ L h' m → News h₀ L h' (ex ++ news) → Fresh ex news → Q .next { s with heap := h', toks := tk' }) :
    wpAny (model prg w) (mkA dp un fr gd) (exec (nth powBody 2) (LE L fa)) Q E s := by
  obtain ⟨a0, a1, a2, c, hax, ⟨v0, c0, h0, i0⟩, ⟨v1, c1, h1, i1⟩, ⟨v2, c2, h2, i2⟩⟩ := hL
  with_unfolding_all show wpAny _ _ (exec (Stmt.If (Expr.Compare (Expr.Name _ _) [_] [Expr.ListComp _ [⟨Expr.Name _ _, _, [], 0⟩] _ _] _) _ _ _) _) _ _ _
  refine wpAny_If (wpAny_isTrue_Compare1 (nameX_L F hmt ?_ rfl (by with_unfolding_all rfl) (by decide)))
  refine comp3 (cl := [(Str.ofString "power", L + 1)]) (need := [(L + 1, op), (a0, PySem.W.listOf (List.toArray v0) c0), (a1, PySem.W.listOf (List.toArray v1) c1), (a2, PySem.W.listOf (List.toArray v2) c2)]) (fun E' Q' h' => nameX_L F hm h' rfl (by with_unfolding_all rfl) (by decide)) (fun C => (e_want X T hdep hun hop hp i0 len.1 bd.1).need (List.forall_mem_cons.mpr ⟨by k_mem, List.forall_mem_cons.mpr ⟨by k_mem, List.forall_mem_nil _⟩⟩)) (fun C => (e_want X T hdep hun hop hp i1 len.2.1 bd.2.1).need (List.forall_mem_cons.mpr ⟨by k_mem, List.forall_mem_cons.mpr ⟨by k_mem, List.forall_mem_nil _⟩⟩)) (fun C => (e_want X T hdep hun hop hp i2 len.2.2 bd.2.2).need (List.forall_mem_cons.mpr ⟨by k_mem, List.forall_mem_cons.mpr ⟨by k_mem, List.forall_mem_nil _⟩⟩))
    (List.forall_mem_cons.mpr ⟨hpm, List.forall_mem_cons.mpr ⟨h0, List.forall_mem_cons.mpr ⟨h1, List.forall_mem_cons.mpr ⟨h2, List.forall_mem_nil _⟩⟩⟩⟩) hax F N ?_
  rintro D y0 y1 y2 x0 x1 x2 ex h tk htk F' N' fr ⟨_, q0⟩ ⟨_, q1⟩ ⟨_, q2⟩ _ _ _
  refine ne_txts ok.1 ok.2.1 ok.2.2 N' (hT.mono fun p hp => List.mem_append_right _ hp) ⟨y0, y1, y2, 3, .head _, q0, q1, q2⟩ (by dsimp only [mkA]; omega) (wpAny_truthy_bool ?_)
  exact wpAny_execs_nil (ret _ h tk htk F' N' fr)

theorem s_lead (X : (KK w.params).In h₀) (T : Top p loose mean mg mb h₀) (hdep : dp + 40 < recursionLimit) (hun : un + 300 < cLine) (F : Fr h₀ L s.heap m) {pre post : Led} {ole : Obj} {vle : Option Value} (N : News h₀ L s.heap (pre ++ (L + 1 + 1 + 1 + 1 + 1, ole) :: post)) (h1 : ∀ p ∈ pre, p.1 ≠ L + 1 + 1 + 1 + 1 + 1) (h2 : ∀ p ∈ post, p.1 ≠ L + 1 + 1 + 1 + 1 + 1) (hd : ole.data = .cell vle) {Q : Flow → Shared → Prop} {E : Value → Shared → Prop} {at' : Addr} (hm : m (Str.ofString "texts") = some (.ref at')) {t0 t1 t2 : List Nat} (hT : Txts (pre ++ (L + 1 + 1 + 1 + 1 + 1, ole) :: post) at' t0 t1 t2) (h0 : 0 < s.toks)
    (len : t0.length ≤ 60 ∧ t1.length ≤ 60 ∧ t2.length ≤ 60) (chs : (∀ c ∈ t0, c = 34 ∨ c = 120) ∧ (∀ c ∈ t1, c = 34 ∨ c = 120) ∧ (∀ c ∈ t2, c = 34 ∨ c = 120))
    (ret : ∀ D ole' ex h' tk', s.toks ≤ tk' → Fr h₀ L h' m → News h₀ L h' (ex ++ (pre ++ (L + 1 + 1 + 1 + 1 + 1, ole') :: post)) → Fresh ex (pre ++ (L + 1 + 1 + 1 + 1 + 1, ole) :: post) → ole'.data = .cell (some (.ref D)) → Leads ex D (wsF (wsOf t0)) (wsF (wsOf t1)) (wsF (wsOf t2)) → Q .next { s with heap := h', toks := tk' }) :
    wpAny (model prg w) (mkA dp un fr gd) (exec (nth powBody 3) (LE L fa)) Q E s := by
  obtain ⟨y0, y1, y2, c, hax, ⟨d0, u0, rfl, e0⟩, ⟨d1, u1, rfl, e1⟩, ⟨d2, u2, rfl, e2⟩⟩ := hT
  subst e0 e1 e2
  with_unfolding_all show wpAny _ _ (exec (Stmt.Assign [Expr.Name _ _] (Expr.ListComp _ [⟨Expr.Name _ _, _, [], 0⟩] _ _) _) _) _ _ _
  refine wpAny_Assign_Name ?_ (by with_unfolding_all rfl)
  refine comp3 (cl := []) (need := []) (fun E' Q' h' => nameX_L F hm h' rfl (by with_unfolding_all rfl) (by decide)) (fun C => e_lead X T hdep hun h0 (by rw [str_len]; exact len.1) chs.1) (fun C => e_lead X T hdep hun h0 (by rw [str_len]; exact len.2.1) chs.2.1) (fun C => e_lead X T hdep hun h0 (by rw [str_len]; exact len.2.2) chs.2.2)
    (List.forall_mem_nil _) hax F N ?_
  rintro D z0 z1 z2 x0 x1 x2 ex h tk htk F' N' fr ⟨a0, n0, b0, k0, t0, rfl, q0, r0⟩ ⟨a1, n1, b1, k1, t1, rfl, q1, r1⟩ ⟨a2, n2, b2, k2, t2, rfl, q2, r2⟩ i0 i1 i2
  rw [← List.append_assoc] at N'
  refine st_cell F' N' hd (fun p hp => (List.mem_append.mp hp).elim (fun hp => Ne.symm (fr p hp _ (List.mem_append_right _ (.head _)))) (h1 p)) h2 (fun o' h' hd' F'' N'' => ?_) (by with_unfolding_all rfl)
  rw [List.append_assoc] at N''
  refine ret D o' _ h' tk htk F'' N'' fr hd' ⟨a0, a1, a2, 3, .head _, ?_, ?_, ?_⟩
  · rw [r0]; exact (q0.mono i0).mono fun p hp => .tail _ hp
  · rw [r1]; exact (q1.mono i1).mono fun p hp => .tail _ hp
  · rw [r2]; exact (q2.mono i2).mono fun p hp => .tail _ hp
end Mine
end
namespace Mine
theorem freshAtS3 : True := by
  (try (walk1; fail))
  w_top off
  trivial
end Mine
section
open PySem PySem.W PySem.Calls PyProof.Rows PyProof.Rows.LCg
set_option autoImplicit false
namespace Mine
set_option maxRecDepth 100000
set_option maxHeartbeats 8000000
theorem fillOfS3 : PySem.Challenge.rw_rl0102_01 = PySem.Challenge.rw_rl0102_01 ∧ KK = KK := by
  k_fill
  exact ⟨rfl, rfl⟩
variable {w : World} {dp un : Nat} {fr : Option (List Env)} {gd : Option (List Code)} {s : Shared} {h₀ : Heap} {L fa : Addr} {m : Str → Option Value} {news : List (Addr × Obj)} {p : Program} {loose : List Str} {mean : ExcName → Option Value} {mg mb : Str → Option Value}

def Cols (news : Led) (a : Addr) (c0 c1 c2 : Int) : Prop := Nts news a [c0, c1, c2]
theorem s_col (X : (KK w.params).In h₀) (T : Top p loose mean mg mb h₀) (hdep : dp + 40 < recursionLimit) (hun : un + 300 < cLine) (F : Fr h₀ L s.heap m) {pre post : Led} {oco : Obj} {vco : Option Value} (N : News h₀ L s.heap (pre ++ (L + 1 + 1 + 1 + 1, oco) :: post)) (h1' : ∀ p ∈ pre, p.1 ≠ L + 1 + 1 + 1 + 1) (h2' : ∀ p ∈ post, p.1 ≠ L + 1 + 1 + 1 + 1) (hd : oco.data = .cell vco) {Q : Flow → Shared → Prop} {E : Value → Shared → Prop} {al : Addr} {op : Obj} {pw : Int} {tp : Tok} {oz : Obj} {sz : Int} {tz : Tok} (hop : op.data = .cell (some (.int pw tp))) (hpm : (L + 1, op) ∈ (pre ++ (L + 1 + 1 + 1 + 1, oco) :: post)) (hoz : oz.data = .cell (some (.int sz tz))) (hzm : (L + 1 + 1 + 1, oz) ∈ (pre ++ (L + 1 + 1 + 1 + 1, oco) :: post))
    (hp : 1 ≤ pw ∧ pw ≤ 4) (hz : 1 ≤ sz ∧ sz ≤ 9) (hW : 1 ≤ sz * pw ∧ sz * pw ≤ 36) (hm : m (Str.ofString "lefts") = some (.ref al)) {l0 l1 l2 : List Int} (hL : Lefts (pre ++ (L + 1 + 1 + 1 + 1, oco) :: post) al l0 l1 l2) (len : (1 ≤ l0.length ∧ l0.length ≤ 3) ∧ (1 ≤ l1.length ∧ l1.length ≤ 3) ∧ (1 ≤ l2.length ∧ l2.length ≤ 3)) (bd : (∀ r ∈ l0, 0 ≤ r ∧ r ≤ 8) ∧ (∀ r ∈ l1, 0 ≤ r ∧ r ≤ 8) ∧ (∀ r ∈ l2, 0 ≤ r ∧ r ≤ 8))
    (ret : ∀ D oco' ex h' tk', s.toks ≤ tk' → Fr h₀ L h' m → News h₀ L h' (ex ++ (pre ++ (L + 1 + 1 + 1 + 1, oco') :: post)) → Fresh ex (pre ++ (L + 1 + 1 + 1 + 1, oco) :: post) → oco'.data = .cell (some (.ref D)) → Cols ex D (colF l0 pw sz) (colF l1 pw sz) (colF l2 pw sz) → Q .next { s with heap := h', toks := tk' }) :
    wpAny (model prg w) (mkA dp un fr gd) (exec (nth sizeBody 0) (LE L fa)) Q E s := by
  obtain ⟨a0, a1, a2, c, hax, ⟨v0, c0, h0, i0⟩, ⟨v1, c1, h1, i1⟩, ⟨v2, c2, h2, i2⟩⟩ := hL
  with_unfolding_all show wpAny _ _ (exec (Stmt.Assign [Expr.Name _ _] (Expr.ListComp _ [⟨Expr.Name _ _, _, [], 0⟩] _ _) _) _) _ _ _
  refine wpAny_Assign_Name ?_ (by with_unfolding_all rfl)
  refine comp3 (cl := [(Str.ofString "size", L + 1 + 1 + 1), (Str.ofString "power", L + 1)]) (need := [(L + 1, op), (L + 1 + 1 + 1, oz), (a0, PySem.W.listOf (List.toArray v0) c0), (a1, PySem.W.listOf (List.toArray v1) c1), (a2, PySem.W.listOf (List.toArray v2) c2)]) (fun E' Q' h' => nameX_L F hm h' rfl (by with_unfolding_all rfl) (by decide)) (fun C => (e_col X T hdep hun hop hoz hp hz hW i0 len.1 bd.1).need (List.forall_mem_cons.mpr ⟨by k_mem, List.forall_mem_cons.mpr ⟨by k_mem, List.forall_mem_cons.mpr ⟨by k_mem, List.forall_mem_nil _⟩⟩⟩)) (fun C => (e_col X T hdep hun hop hoz hp hz hW i1 len.2.1 bd.2.1).need (List.forall_mem_cons.mpr ⟨by k_mem, List.forall_mem_cons.mpr ⟨by k_mem, List.forall_mem_cons.mpr ⟨by k_mem, List.forall_mem_nil _⟩⟩⟩)) (fun C => (e_col X T hdep hun hop hoz hp hz hW i2 len.2.2 bd.2.2).need (List.forall_mem_cons.mpr ⟨by k_mem, List.forall_mem_cons.mpr ⟨by k_mem, List.forall_mem_cons.mpr ⟨by k_mem, List.forall_mem_nil _⟩⟩⟩))
    (List.forall_mem_cons.mpr ⟨hpm, List.forall_mem_cons.mpr ⟨hzm, List.forall_mem_cons.mpr ⟨h0, List.forall_mem_cons.mpr ⟨h1, List.forall_mem_cons.mpr ⟨h2, List.forall_mem_nil _⟩⟩⟩⟩⟩) hax F N ?_
  rintro D y0 y1 y2 x0 x1 x2 ex h tk htk F' N' fr ⟨_, t0, rfl⟩ ⟨_, t1, rfl⟩ ⟨_, t2, rfl⟩ _ _ _
  rw [← List.append_assoc] at N'
  refine st_cell F' N' hd (fun p hp => (List.mem_append.mp hp).elim (fun hp => Ne.symm (fr p hp _ (List.mem_append_right _ (.head _)))) (h1' p)) h2' (fun o' h' hd' F'' N'' => ?_) (by with_unfolding_all rfl)
  rw [List.append_assoc] at N''
  exact ret D o' _ h' tk htk F'' N'' fr hd' ⟨[_, _, _], 3, .head _, .cons _ _ (.cons _ _ (.cons _ _ .nil))⟩

theorem s_ind (X : (KK w.params).In h₀) (T : Top p loose mean mg mb h₀) (hdep : dp + 40 < recursionLimit) (hun : un + 300 < cLine) (F : Fr h₀ L s.heap m) (N : News h₀ L s.heap news) {Q : Flow → Shared → Prop} {E : Value → Shared → Prop} {ad ac : Addr} {ol oz oc : Obj} {sz : Int} {tz : Tok} (hol : ol.data = .cell (some (.ref ad))) (hlm : (L + 1 + 1 + 1 + 1 + 1, ol) ∈ news) (hoz : oz.data = .cell (some (.int sz tz))) (hzm : (L + 1 + 1 + 1, oz) ∈ news) (hoc : oc.data = .cell (some (.ref ac))) (hcm : (L + 1 + 1 + 1 + 1, oc) ∈ news)
    (hz : 1 ≤ sz ∧ sz ≤ 9) {q0 q1 q2 : WS} (hL : Leads news ad q0 q1 q2) (bq : (q0.1.length ≤ 9 ∧ (∀ c ∈ q0.1, 0 ≤ c ∧ c ≤ 60)) ∧ (q1.1.length ≤ 9 ∧ (∀ c ∈ q1.1, 0 ≤ c ∧ c ≤ 60)) ∧ (q2.1.length ≤ 9 ∧ (∀ c ∈ q2.1, 0 ≤ c ∧ c ≤ 60))) {c0 c1 c2 : Int} (hC : Cols news ac c0 c1 c2) (e : (indF q0.1 q0.2.1 q0.2.2.2 sz) = c0 ∧ (indF q1.1 q1.2.1 q1.2.2.2 sz) = c1 ∧ (indF q2.1 q2.2.1 q2.2.2.2 sz) = c2)
    (ret : ∀ ex h' tk', s.toks ≤ tk' → Fr h₀ L h' m → News h₀ L h' (ex ++ news) → Fresh ex news → Q .next { s with heap := h', toks := tk' }) :
    wpAny (model prg w) (mkA dp un fr gd) (exec (nth sizeBody 1) (LE L fa)) Q E s := by
  obtain ⟨x0, x1, x2, c, hax, l0, l1, l2⟩ := hL
  obtain ⟨rfl, rfl, rfl⟩ := e
  with_unfolding_all show wpAny _ _ (exec (Stmt.If (Expr.Compare (Expr.ListComp _ [⟨Expr.Name _ _, _, [], 0⟩] _ _) [_] [Expr.Name _ _] _) _ _ _) _) _ _ _
  refine wpAny_If (wpAny_isTrue_Compare1 ?_)
  refine comp3 (cl := [(Str.ofString "size", L + 1 + 1 + 1)]) (need := news) (fun E' Q' h' => nameX_C (c := L + 1 + 1 + 1 + 1 + 1) N (by with_unfolding_all rfl) hlm hol h' rfl (by with_unfolding_all rfl) (by decide))
    (fun C => (e_ind X T hdep hun hoz l0 (by omega) (by omega) bq.1.2).need (List.forall_mem_cons.mpr ⟨hzm, fun p hp => hp⟩)) (fun C => (e_ind X T hdep hun hoz l1 (by omega) (by omega) bq.2.1.2).need (List.forall_mem_cons.mpr ⟨hzm, fun p hp => hp⟩)) (fun C => (e_ind X T hdep hun hoz l2 (by omega) (by omega) bq.2.2.2).need (List.forall_mem_cons.mpr ⟨hzm, fun p hp => hp⟩))
    (fun p hp => hp) hax F N ?_
  rintro D y0 y1 y2 x0 x1 x2 ex h tk htk F' N' fr ⟨_, t0, rfl⟩ ⟨_, t1, rfl⟩ ⟨_, t2, rfl⟩ _ _ _
  refine nameX_C (c := L + 1 + 1 + 1 + 1) N' (by with_unfolding_all rfl) (List.mem_append_right _ hcm) hoc ?_ rfl (by with_unfolding_all rfl) (by decide)
  refine ne_nts (l := [(indF q0.1 q0.2.1 q0.2.2.2 sz), (indF q1.1 q1.2.1 q1.2.2.2 sz), (indF q2.1 q2.2.1 q2.2.2.2 sz)]) (l' := [(indF q0.1 q0.2.1 q0.2.2.2 sz), (indF q1.1 q1.2.1 q1.2.2.2 sz), (indF q2.1 q2.2.1 q2.2.2.2 sz)]) N' ⟨[_, _, _], 3, .head _, .cons _ _ (.cons _ _ (.cons _ _ .nil))⟩ (Nts.mono (fun p hp => List.mem_append_right _ hp) hC) (by dsimp only [mkA]; omega) ?_
  rw [decide_eq_true rfl]
  exact wpAny_truthy_bool (wpAny_execs_nil (ret _ h tk htk F' N' fr))

theorem s_parse (X : (KK w.params).In h₀) (T : Top p loose mean mg mb h₀) (hdep : dp + 40 < recursionLimit) (hun : un + 300 < cLine) (F : Fr h₀ L s.heap m) (N : News h₀ L s.heap news) {Q : Flow → Shared → Prop} {E : Value → Shared → Prop} {at' : Addr} (hm : m (Str.ofString "texts") = some (.ref at')) {t0 t1 t2 : List Nat} (hT : Txts news at' t0 t1 t2) (len : t0.length ≤ 60 ∧ t1.length ≤ 60 ∧ t2.length ≤ 60)
    (ret : ∀ D ex h' tk', s.toks ≤ tk' → Fr h₀ L h' (setm m (Str.ofString "texts") (.ref D)) → News h₀ L h' (ex ++ news) → Fresh ex news → Txts ex D (parseL t0) (parseL t1) (parseL t2) → Q .next { s with heap := h', toks := tk' }) :
    wpAny (model prg w) (mkA dp un fr gd) (exec (nth (bodyOf (nth powBody 0)) 0) (LE L fa)) Q E s := by
  obtain ⟨y0, y1, y2, c, hax, ⟨d0, u0, rfl, e0⟩, ⟨d1, u1, rfl, e1⟩, ⟨d2, u2, rfl, e2⟩⟩ := hT
  subst e0 e1 e2
  with_unfolding_all show wpAny _ _ (exec (Stmt.Assign [Expr.Name _ _] (Expr.ListComp _ [⟨Expr.Name _ _, _, [], 0⟩] _ _) _) _) _ _ _
  refine comp3A (cl := []) (need := []) (fun E' Q' h' => nameX_L F hm h' rfl (by with_unfolding_all rfl) (by decide)) (fun C => e_parse X T hdep hun (by rw [str_len]; exact len.1)) (fun C => e_parse X T hdep hun (by rw [str_len]; exact len.2.1)) (fun C => e_parse X T hdep hun (by rw [str_len]; exact len.2.2))
    (List.forall_mem_nil _) hax F N ?_
  rintro D z0 z1 z2 x0 x1 x2 ex h tk htk F' N' fr ⟨_, q0⟩ ⟨_, q1⟩ ⟨_, q2⟩ _ _ _
  obtain ⟨g0, v0, rfl, k0⟩ := q0
  obtain ⟨g1, v1, rfl, k1⟩ := q1
  obtain ⟨g2, v2, rfl, k2⟩ := q2
  exact ret D _ h tk htk F' N' fr ⟨_, _, _, 3, .head _, ⟨g0, v0, rfl, k0⟩, ⟨g1, v1, rfl, k1⟩, ⟨g2, v2, rfl, k2⟩⟩
theorem s_if1 (X : (KK w.params).In h₀) (T : Top p loose mean mg mb h₀) (hdep : dp + 40 < recursionLimit) (hun : un + 300 < cLine) (F : Fr h₀ L s.heap m) (N : News h₀ L s.heap news) {Q : Flow → Shared → Prop} {E : Value → Shared → Prop} {op : Obj} {pw : Int} {tp : Tok} (hop : op.data = .cell (some (.int pw tp))) (hpm : (L + 1, op) ∈ news) (hm : pw = 1) (h : ∀ tk', s.toks ≤ tk' → Q .next { s with toks := tk' }) : wpAny (model prg w) (mkA dp un fr gd) (exec (nth powBody 0) (LE L fa)) Q E s := by
  subst hm
  with_unfolding_all show wpAny _ _ (exec (Stmt.If (Expr.Compare (Expr.Name _ _) [_] [Expr.Constant _ _ _] _) _ _ _) _) _ _ _
  have N2 : News h₀ L s.heap [(L + 1, op)] := news_sub N (List.forall_mem_cons.mpr ⟨hpm, List.forall_mem_nil _⟩)
  clear N
  refine wpAny_with_toks (n := s.toks) (Nat.le_refl _) ?_
  k_steps
  exact h _ (by assumption)
section
local macro_rules | `(tactic| walk_at "ite") => `(tactic| (refine hold ?_))
theorem s_if2 (X : (KK w.params).In h₀) (T : Top p loose mean mg mb h₀) (hdep : dp + 40 < recursionLimit) (hun : un + 300 < cLine) (F : Fr h₀ L s.heap m) (N : News h₀ L s.heap news) {Q : Flow → Shared → Prop} {E : Value → Shared → Prop} {op : Obj} {pw : Int} {tp : Tok} (hop : op.data = .cell (some (.int pw tp))) (hpm : (L + 1, op) ∈ news) (hm : pw = 2 ∨ pw = 4) (h : ∀ tk', s.toks ≤ tk' → wpAny (model prg w) (mkA dp un fr gd) (exec (nth (bodyOf (nth powBody 0)) 0) (LE L fa)) Q E { s with toks := tk' }) : wpAny (model prg w) (mkA dp un fr gd) (exec (nth powBody 0) (LE L fa)) Q E s := by
  have hm' : 1 < pw := by omega
  with_unfolding_all show wpAny _ _ (exec (Stmt.If (Expr.Compare (Expr.Name _ _) [_] [Expr.Constant _ _ _] _) _ _ _) _) _ _ _
  have N2 : News h₀ L s.heap [(L + 1, op)] := news_sub N (List.forall_mem_cons.mpr ⟨hpm, List.forall_mem_nil _⟩)
  clear N
  refine wpAny_If (wpAny_with_toks (n := s.toks) (Nat.le_refl _) (wpAny_isTrue_Compare1 ?_))
  refine nameX_C (c := L + 1) N2 (by with_unfolding_all rfl) (.head _) hop ?_ rfl (by with_unfolding_all rfl) (by decide)
  k_steps
  unfold Hold
  (try dsimp only)
  try rw [if_pos (decide_eq_true hm')]
  with_unfolding_all show wpAny _ _ (execs [_] _) _ _ _
  refine wpAny_execs_cons (wpAny_mono (h _ (by assumption)) (fun f s' hf => ?_) fun _ _ e => e)
  cases f with
  | next => exact wpAny_execs_nil hf
  | cont => exact hf
  | brk => exact hf
  | ret v => exact hf
end
end Mine
end
namespace Mine
theorem freshAtLam : True := by
  (try (walk1; fail))
  w_top off
  trivial
end Mine
section
open PySem PySem.W PySem.Calls PyProof.Rows PyProof.Rows.LCg
set_option autoImplicit false
namespace Mine
set_option maxRecDepth 100000
set_option maxHeartbeats 8000000
theorem updF_mk {P : Addr} {o : Obj} : ∀ (pre post : Led), (∀ p ∈ pre, p.1 ≠ P) → (∀ p ∈ post, p.1 ≠ P) → UpdF P o (pre ++ (P, o) :: post) (fun o' => pre ++ (P, o') :: post)
  | [], _, _, h2 => .head h2
  | p :: pre, post, h1, h2 => .tail (h1 p (.head _)) (updF_mk pre post (fun q hq => h1 q (.tail _ hq)) h2)
theorem triples_snoc {a b : Int} {t u : Tok} {v : Value} : ∀ (l : List Value), TriplesOk l → TriplesOk (l ++ [.int a t, .int b u, v]) := by
  intro l
  fun_induction TriplesOk l with
  | case1 => intro _; exact trivial
  | case2 rest _ _ _ _ _ ih => intro h; exact ih h
  | case3 l _ _ => intro h; exact h.elim
theorem among_snoc {pos : Pos} {a b : Int} {t u : Tok} {v w : Value} : ∀ (l : List Value), TriplesOk l → codeAmong pos (l ++ [.int a t, .int b u, v]) = some w → codeAmong pos l = some w ∨ w = v := by
  intro l
  fun_induction TriplesOk l with
  | case1 =>
    intro _ h
    simp only [List.nil_append, codeAmong] at h
    split at h
    · cases h; exact .inr rfl
    · cases h
  | case2 rest i t0 j u0 x ih =>
    intro h e
    simp only [List.cons_append, codeAmong] at e ⊢
    split at e
    · rename_i hc; rw [if_pos hc]; exact .inl e
    · rename_i hc; rw [if_neg hc]; exact ih h e
  | case3 l _ _ => intro h; exact h.elim
/-- a code record of the ledger -/
def CodeIn (led : Led) (q : Str) (v : Value) : Prop := ∃ c' oc vs t, v = .ref c' ∧ (c', oc) ∈ led ∧ oc.data = .fields vs ∧ vs[1]? = some (.str q t)
theorem CodeIn.mono {led led' : Led} {q : Str} {v : Value} (h : CodeIn led q v) (hs : ∀ p ∈ led, p ∈ led') : CodeIn led' q v := let ⟨c', oc, vs, t, e, hm, r⟩ := h; ⟨c', oc, vs, t, e, hs _ hm, r⟩
theorem CodeIn.rec_ {led : Led} {q : Str} {v : Value} {h : Heap} (x : CodeIn led q v) (hl : ∀ p ∈ led, h.get? p.1 = some p.2) : h.CodeRec v q := by
  obtain ⟨c', oc, vs, t, rfl, hm, hd, hv⟩ := x
  exact ⟨c', oc, vs, t, rfl, hl _ hm, hd, hv⟩
abbrev lamq : Str := Str.ofString "law" ++ ".<locals>." ++ "<lambda>"
/-- the table of the law's inner codes -/
def TabOk (led : Led) (ps : Array Value) : Prop := TriplesOk ps.toList ∧ ∀ pos v, codeAmong pos ps.toList = some v → CodeIn led lamq v
theorem TabOk.mono {led led' : Led} {ps : Array Value} (h : TabOk led ps) (hs : ∀ p ∈ led, p ∈ led') : TabOk led' ps := ⟨h.1, fun pos v e => (h.2 pos v e).mono hs⟩
theorem TabOk.empty : TabOk [] #[] := ⟨trivial, fun _ _ e => by simp [codeAmong] at e⟩

section
variable {w : World} {A : Around} {E : Value → Shared → Prop} {s : Shared} {h₀ : Heap} {L fa : Addr} {m mg mb : Str → Option Value} {p : Program} {loose : List Str} {mean : ExcName → Option Value}
/-- a lambda of the law is made -/
theorem s_lam {params : Arguments} {body : Expr} {scope : Scope} {pos : Pos} {clos : List (Str × Addr)} {Q : Value → Shared → Prop} {pre post led : Led} {ps : Array Value}
    (F : Fr h₀ L s.heap m) (N : News h₀ L s.heap (pre ++ (169, tabObj ps) :: post)) (T : Top p loose mean mg mb h₀) (C : CodeHd h₀ 171 169) (h1 : ∀ p ∈ pre, p.1 ≠ 169) (h2 : ∀ p ∈ post, p.1 ≠ 169) (K : TabOk led ps)
    (hcl : closureFor scope (LE L fa) = pure clos) (hdef : defaultsOf params (LE L fa) = ([], []))
    (h : ∀ f c' ctv ps' ex h' tk, Fr h₀ L h' m → News h₀ L h' (ex ++ (pre ++ (169, tabObj ps') :: post)) → Fresh ex (pre ++ (169, tabObj ps) :: post) → TabOk (ex ++ led) ps' → (f, kla_obj "<lambda>" lamq params body scope clos ((mg "__name__").getD .none) c' ctv) ∈ ex → CodeIn (ex ++ led) lamq (.ref c') →
      Q (.ref f) { s with heap := h', toks := tk }) :
    wpAny (model prg w) A (eval (.Lambda params body scope pos) (LE L fa)) Q E s := by
  refine kla_eval hdef ?_
  cases hq : codeAmong pos ps.toList with
  | some v =>
    obtain ⟨c', oc, vs, t, rfl, hm, hd, hv⟩ := K.2 pos v hq
    refine kla_hit F N T C rfl (List.mem_append_right _ (.head _)) K.1 hq hcl fun f ctv h' tk F' N' l => ?_
    refine h f c' ctv ps [_] h' tk F' N' (fun p hp q hq => ?_) (K.mono fun p hp => List.mem_append_right _ hp) (.head _) ⟨c', oc, vs, t, rfl, List.mem_append_right _ hm, hd, hv⟩
    rw [List.mem_singleton.mp hp]; exact Nat.ne_of_lt (l q hq)
  | none =>
    refine kla_nest F N T C rfl (updF_mk pre post h1 h2) K.1 hq hcl fun f c' oc vs t ctv h' tk F' N' hd hv l1 l2 => ?_
    have hc : CodeIn ([(f, kla_obj "<lambda>" lamq params body scope clos ((mg "__name__").getD .none) c' ctv), (c', oc)] ++ led) lamq (.ref c') := ⟨c', oc, vs, t, rfl, .tail _ (.head _), hd, hv⟩
    refine h f c' ctv (ps ++ #[rawInt pos.line, rawInt pos.col, .ref c']) [_, _] h' tk F' N' (fun p hp q hq => ?_) ⟨?_, fun pos' v' e => ?_⟩ (.head _) hc
    · rcases List.mem_cons.mp hp with rfl | hp
      · exact Nat.ne_of_lt (Nat.lt_trans (l1 q hq) l2)
      · rw [List.mem_singleton.mp hp]; exact Nat.ne_of_lt (l1 q hq)
    · rw [Array.toList_append]; exact triples_snoc _ K.1
    · rw [Array.toList_append] at e
      rcases among_snoc _ K.1 e with e | rfl
      · exact (K.2 pos' v' e).mono fun p hp => List.mem_append_right _ hp
      · exact hc
end

section
variable {w : World} {A : Around} {s : Shared} {h₀ : Heap} {mg mb : Str → Option Value} {p : Program} {loose : List Str} {mean : ExcName → Option Value} {K : Frag}
/-- what a heap must hold: the base, a ledger -/
def PLed (h₀ : Heap) (led : Led) (b : Addr) (o : Obj) : Prop := h₀.get? b = some o ∨ (b, o) ∈ led
theorem PLed.base {h : Heap} {led : Led} (hP : Has (PLed h₀ led) h) : Keeps h₀ h := fun b o e => hP b o (.inl e)
theorem PLed.led {h : Heap} {led : Led} (hP : Has (PLed h₀ led) h) : ∀ p ∈ led, h.get? p.1 = some p.2 := fun p hp => hP _ _ (.inr hp)
/-- a lambda is entered: the ledger is its ledger, all else lies in its base -/
theorem enterL {name qual : Str} {params : Arguments} {body : Expr} {scope : Scope} {cl : List (Str × Addr)} {pm ctv : Value} {c' f : Addr} {args : List Value} {binds : List (Str × Value)} {Q E : Value → Shared → Prop} (led : Led) (hP : Has (PLed h₀ led) s.heap) (hl : ∀ p ∈ led, h₀.get? p.1 = none) (X₀ : K.In h₀) (T : Top p loose mean mg mb h₀)
    (ho : (f, kla_obj name qual params body scope cl pm c' ctv) ∈ led) (hcd : CodeIn led qual (.ref c')) (hroom : A.depth < recursionLimit)
    (hbind : bindArgs (kla_fn name qual params body scope cl pm (.ref c') ctv) ⟨args, []⟩ = pure binds) (hloc : ∀ y ∈ binds, scope.names.lookup y.1 = some .local)
    (h : ∀ g L' h₁, Fr g L' h₁ (fun y => binds.reverse.lookup y) → News g L' h₁ led → K.In g → Top p loose mean mg mb g → (∀ b o, s.heap.get? b = some o → b ∉ led.map (·.1) → g.get? b = some o) →
      wpAny (model prg w) (A.deeper (envX qual scope L' f (.ref c') cl)) (eval body (envX qual scope L' f (.ref c') cl)) Q (fun _ _ => False) { s with heap := h₁, toks := s.toks + binds.length })
    (hco : scope.isCoroutine = false) (hgen : scope.isGenerator = false) (hk : scope.kind = .function) (hcell : ∀ x ∈ scope.names, x.2 ≠ .cell) :
    wpAny (model prg w) A (call (.ref f) args) Q E s := by
  have gl := PLed.led hP
  have gb := PLed.base hP
  have nm : ∀ b o, h₀.get? b = some o → b ∉ led.map (·.1) := fun b o e q => by
    obtain ⟨p, hp, rfl⟩ := List.mem_map.mp q
    rw [hl p hp] at e; cases e
  have st : Keeps h₀ (hideAll s.heap (led.map (·.1))) := fun b o e => hideAll_get _ (gb b o e) (nm b o e)
  refine wpAny_call (kla_callFunE hroom (gl _ ho) rfl hco hgen rfl (hcd.rec_ gl) ?_)
  rw [hbind]
  refine wpAny_pure (wpAny_newFunctionEnv hcell hloc (fun h₁ hns hsb => ⟨((T.nolimit).keeps gb).fresh _ hsb, ?_⟩) hk)
  show codeAny _ _ (.expr body (envX qual scope s.heap.objs.size f (.ref c') cl)) _ _
  have hk₁ : ∀ b o, s.heap.get? b = some o → h₁.get? b = some o := fun b o e => hsb.extBut b o (Nat.ne_of_lt (Heap.lt_size e)) (Heap.get?_push_of_some _ e)
  exact kla_codeExpr (wpAny_mono (h _ s.heap.objs.size h₁ ⟨hns, fun b o e => hk₁ b o (of_hideAll _ e), Nat.le_of_eq (hideAll_size _ _)⟩
    (fun p hp => ⟨hk₁ _ _ (gl p hp), Nat.ne_of_lt (Heap.lt_size (gl p hp)), hideAll_none _ (List.mem_map_of_mem hp)⟩) (X₀.keeps st) (T.keeps st) fun b o e hb => hideAll_get _ e hb) (fun v s' hq => hq) fun _ _ y => y.elim)
end
end Mine
end
namespace Mine
theorem freshAtK1 : True := by
  (try (walk1; fail))
  w_top off
  trivial
end Mine
section
open PySem PySem.W PySem.Calls PyProof.Rows PyProof.Rows.LCg
set_option autoImplicit false
namespace Mine
set_option maxRecDepth 100000
set_option maxHeartbeats 8000000
theorem fillOfK1 : PySem.Challenge.rw_rl0102_01 = PySem.Challenge.rw_rl0102_01 ∧ KK = KK := by
  k_fill
  exact ⟨rfl, rfl⟩
variable {w : World} {dp un : Nat} {fr : Option (List Env)} {gd : Option (List Code)} {s : Shared} {h₀ : Heap} {L fa : Addr} {m : Str → Option Value} {news : List (Addr × Obj)} {p : Program} {loose : List Str} {mean : ExcName → Option Value} {mg mb : Str → Option Value}

def kwOf : Expr → Expr
  | .Call _ _ [k] _ => k.value
  | e => e
def exprOf : Stmt → Expr
  | .Expr e _ => e
  | e => valOf e
def lamOf : Expr → Arguments × Expr × Scope × Pos
  | .Lambda a b s p => (a, b, s, p)
  | e => (⟨[], [], none, [], [], none, []⟩, e, { kind := .function, names := [], isGenerator := false, isCoroutine := false }, ⟨0,0,0,0⟩)
def lamI : Arguments × Expr × Scope × Pos := lamOf (kwOf (exprOf (nth (bodyOf (nth sizeBody 3)) 0)))
def lamS : Arguments × Expr × Scope × Pos := lamOf (kwOf (rhsOf (valOf (nth sizeBody 4))))
def lamL : Arguments × Expr × Scope × Pos := lamOf (kwOf (valOf (nth sizeBody 5)))
def lamR : Arguments × Expr × Scope × Pos := lamOf (kwOf (valOf (nth sizeBody 6)))
def f3 (a b c : Int) (k : Int) : Int := if k = 0 then a else if k = 1 then b else c
abbrev lcl2 (L : Addr) : List (Str × Addr) := [(Str.ofString "size", L + 1 + 1 + 1), (Str.ofString "leads", L + 1 + 1 + 1 + 1 + 1)]
section
local macro_rules | `(tactic| walk_at "call ref") => `(tactic| (refine hold ?_))
local macro_rules | `(tactic| walk_at "eval Name") => `(tactic| (k_here; k_dflt (first | (refine nameX_F (by k_asm) (by rfl) (by k_mem) (by assumption) ?_ (by rfl) (by rfl) (by decide) (by decide)) | (refine nameX_L (by k_asm) (by rfl) ?_ (by rfl) (by rfl) (by decide)))))

theorem key_I (X : (KK w.params).In h₀) (T : Top p loose mean mg mb h₀) {led : Led} (hl : ∀ p ∈ led, h₀.get? p.1 = none) {q c' : Addr} {pm ctv : Value} (ho : (q, kla_obj "<lambda>" lamq lamI.1 lamI.2.1 lamI.2.2.1 (lcl2 L) pm c' ctv) ∈ led) (hcd : CodeIn led lamq (.ref c'))
    {ad : Addr} {ol oz : Obj} {sz : Int} {tz : Tok} (hol : ol.data = .cell (some (.ref ad))) (hlm : (L + 1 + 1 + 1 + 1 + 1, ol) ∈ led) (hoz : oz.data = .cell (some (.int sz tz))) (hzm : (L + 1 + 1 + 1, oz) ∈ led) (hz : 1 ≤ sz ∧ sz ≤ 9)
    {q0 q1 q2 : WS} (hL : Leads led ad q0 q1 q2) (bq : (q0.1.length ≤ 9 ∧ (∀ c ∈ q0.1, 0 ≤ c ∧ c ≤ 60)) ∧ (q1.1.length ≤ 9 ∧ (∀ c ∈ q1.1, 0 ≤ c ∧ c ≤ 60)) ∧ (q2.1.length ≤ 9 ∧ (∀ c ∈ q2.1, 0 ≤ c ∧ c ≤ 60))) :
    KeyOn w (PLed h₀ led) q (f3 (indF q0.1 q0.2.1 q0.2.2.2 sz) (indF q1.1 q1.2.1 q1.2.2.2 sz) (indF q2.1 q2.2.1 q2.2.2.2 sz)) := by
  intro dp un fr gd s Q E k tk hP hk0 hk3 hdep hun ret
  obtain ⟨x0, x1, x2, c, hax, l0, l1, l2⟩ := hL
  refine enterL (K := KK w.params) (binds := [(Str.ofString "one", .int k tk)]) led hP hl X T ho hcd (by dsimp only [mkA]; omega) ?bi ?lo ?_ ?a1 ?a2 ?a3 ?a4
  case bi => exact rfl
  case lo => exact locs rfl
  case a1 => exact rfl
  case a2 => exact rfl
  case a3 => exact rfl
  case a4 => decide
  intro g L' h₁ F' N' X' T' hgk
  have N₀ : Hold (News g L' h₁ led) := N'
  have kp : ∀ (h' : Heap) (m' : Str → Option Value), Fr g L' h' m' → News g L' h' led → Keeps s.heap h' := fun h' m' F1 N1 => keeps_of hgk (PLed.led hP) F1 N1 fun p hp => hp
  show wpAny _ _ (eval (Expr.Call _ _ _ _) (envX _ (Scope.mk _ [(_, _), (_, _), (_, _)] _ _ _) _ _ _ _)) _ _ _
  have hk : k = 0 ∨ k = 1 ∨ k = 2 := by omega
  clear hgk
  rcases hk with rfl | rfl | rfl
  · obtain ⟨dx, nm, ct, vs, e0, e1, e2, e3, e4, k0, k1, k2, k3, k4, raw, tn, tnt, tb, i1, i2, i3, i4, i5⟩ := l0
    have N2 : News g L' h₁ [(L + 1 + 1 + 1 + 1 + 1, ol), (L + 1 + 1 + 1, oz), (ad, PySem.W.listOf #[.ref x0, .ref x1, .ref x2] c), (x0, instObj 83 dx), (dx, _)] := news_sub N' (List.forall_mem_cons.mpr ⟨hlm, List.forall_mem_cons.mpr ⟨hzm, List.forall_mem_cons.mpr ⟨hax, List.forall_mem_cons.mpr ⟨i1, List.forall_mem_cons.mpr ⟨i2, List.forall_mem_nil _⟩⟩⟩⟩⟩)
    clear N'
    k_steps
    unfold Hold
    refine wpAny_call (c_indent (by exact F') (by exact N₀) X' T' (by show dp + 1 + 4 < recursionLimit; omega) (by show un + 3 + 40 < cLine; omega) i1 i2 i3 i4 i5 (by omega) (by omega) bq.1.2 fun t' h' tk' F'' N'' => ?_)
    exact ret t' h' tk' (kp h' _ F'' N'')
  · obtain ⟨dx, nm, ct, vs, e0, e1, e2, e3, e4, k0, k1, k2, k3, k4, raw, tn, tnt, tb, i1, i2, i3, i4, i5⟩ := l1
    have N2 : News g L' h₁ [(L + 1 + 1 + 1 + 1 + 1, ol), (L + 1 + 1 + 1, oz), (ad, PySem.W.listOf #[.ref x0, .ref x1, .ref x2] c), (x1, instObj 83 dx), (dx, _)] := news_sub N' (List.forall_mem_cons.mpr ⟨hlm, List.forall_mem_cons.mpr ⟨hzm, List.forall_mem_cons.mpr ⟨hax, List.forall_mem_cons.mpr ⟨i1, List.forall_mem_cons.mpr ⟨i2, List.forall_mem_nil _⟩⟩⟩⟩⟩)
    clear N'
    k_steps
    unfold Hold
    refine wpAny_call (c_indent (by exact F') (by exact N₀) X' T' (by show dp + 1 + 4 < recursionLimit; omega) (by show un + 3 + 40 < cLine; omega) i1 i2 i3 i4 i5 (by omega) (by omega) bq.2.1.2 fun t' h' tk' F'' N'' => ?_)
    exact ret t' h' tk' (kp h' _ F'' N'')
  · obtain ⟨dx, nm, ct, vs, e0, e1, e2, e3, e4, k0, k1, k2, k3, k4, raw, tn, tnt, tb, i1, i2, i3, i4, i5⟩ := l2
    have N2 : News g L' h₁ [(L + 1 + 1 + 1 + 1 + 1, ol), (L + 1 + 1 + 1, oz), (ad, PySem.W.listOf #[.ref x0, .ref x1, .ref x2] c), (x2, instObj 83 dx), (dx, _)] := news_sub N' (List.forall_mem_cons.mpr ⟨hlm, List.forall_mem_cons.mpr ⟨hzm, List.forall_mem_cons.mpr ⟨hax, List.forall_mem_cons.mpr ⟨i1, List.forall_mem_cons.mpr ⟨i2, List.forall_mem_nil _⟩⟩⟩⟩⟩)
    clear N'
    k_steps
    unfold Hold
    refine wpAny_call (c_indent (by exact F') (by exact N₀) X' T' (by show dp + 1 + 4 < recursionLimit; omega) (by show un + 3 + 40 < cLine; omega) i1 i2 i3 i4 i5 (by omega) (by omega) bq.2.2.2 fun t' h' tk' F'' N'' => ?_)
    exact ret t' h' tk' (kp h' _ F'' N'')

theorem key_L (X : (KK w.params).In h₀) (T : Top p loose mean mg mb h₀) {led : Led} (hl : ∀ p ∈ led, h₀.get? p.1 = none) {q c' : Addr} {pm ctv : Value} (ho : (q, kla_obj "<lambda>" lamq lamL.1 lamL.2.1 lamL.2.2.1 (lcl2 L) pm c' ctv) ∈ led) (hcd : CodeIn led lamq (.ref c'))
    {ad : Addr} {ol oz : Obj} {sz : Int} {tz : Tok} (hol : ol.data = .cell (some (.ref ad))) (hlm : (L + 1 + 1 + 1 + 1 + 1, ol) ∈ led) (hoz : oz.data = .cell (some (.int sz tz))) (hzm : (L + 1 + 1 + 1, oz) ∈ led) (hz : 1 ≤ sz ∧ sz ≤ 9)
    {q0 q1 q2 : WS} (hL : Leads led ad q0 q1 q2) (bq : (q0.1.length ≤ 9 ∧ (∀ c ∈ q0.1, 0 ≤ c ∧ c ≤ 60)) ∧ (q1.1.length ≤ 9 ∧ (∀ c ∈ q1.1, 0 ≤ c ∧ c ≤ 60)) ∧ (q2.1.length ≤ 9 ∧ (∀ c ∈ q2.1, 0 ≤ c ∧ c ≤ 60))) :
    KeyOn w (PLed h₀ led) q (f3 (indF q0.1 q0.2.1 q0.2.2.2 sz) (indF q1.1 q1.2.1 q1.2.2.2 sz) (indF q2.1 q2.2.1 q2.2.2.2 sz)) := by
  intro dp un fr gd s Q E k tk hP hk0 hk3 hdep hun ret
  obtain ⟨x0, x1, x2, c, hax, l0, l1, l2⟩ := hL
  refine enterL (K := KK w.params) (binds := [(Str.ofString "one", .int k tk)]) led hP hl X T ho hcd (by dsimp only [mkA]; omega) ?bi ?lo ?_ ?a1 ?a2 ?a3 ?a4
  case bi => exact rfl
  case lo => exact locs rfl
  case a1 => exact rfl
  case a2 => exact rfl
  case a3 => exact rfl
  case a4 => decide
  intro g L' h₁ F' N' X' T' hgk
  have N₀ : Hold (News g L' h₁ led) := N'
  have kp : ∀ (h' : Heap) (m' : Str → Option Value), Fr g L' h' m' → News g L' h' led → Keeps s.heap h' := fun h' m' F1 N1 => keeps_of hgk (PLed.led hP) F1 N1 fun p hp => hp
  show wpAny _ _ (eval (Expr.Call _ _ _ _) (envX _ (Scope.mk _ [(_, _), (_, _), (_, _)] _ _ _) _ _ _ _)) _ _ _
  have hk : k = 0 ∨ k = 1 ∨ k = 2 := by omega
  clear hgk
  rcases hk with rfl | rfl | rfl
  · obtain ⟨dx, nm, ct, vs, e0, e1, e2, e3, e4, k0, k1, k2, k3, k4, raw, tn, tnt, tb, i1, i2, i3, i4, i5⟩ := l0
    have N2 : News g L' h₁ [(L + 1 + 1 + 1 + 1 + 1, ol), (L + 1 + 1 + 1, oz), (ad, PySem.W.listOf #[.ref x0, .ref x1, .ref x2] c), (x0, instObj 83 dx), (dx, _)] := news_sub N' (List.forall_mem_cons.mpr ⟨hlm, List.forall_mem_cons.mpr ⟨hzm, List.forall_mem_cons.mpr ⟨hax, List.forall_mem_cons.mpr ⟨i1, List.forall_mem_cons.mpr ⟨i2, List.forall_mem_nil _⟩⟩⟩⟩⟩)
    clear N'
    k_steps
    unfold Hold
    refine wpAny_call (c_indent (by exact F') (by exact N₀) X' T' (by show dp + 1 + 4 < recursionLimit; omega) (by show un + 3 + 40 < cLine; omega) i1 i2 i3 i4 i5 (by omega) (by omega) bq.1.2 fun t' h' tk' F'' N'' => ?_)
    exact ret t' h' tk' (kp h' _ F'' N'')
  · obtain ⟨dx, nm, ct, vs, e0, e1, e2, e3, e4, k0, k1, k2, k3, k4, raw, tn, tnt, tb, i1, i2, i3, i4, i5⟩ := l1
    have N2 : News g L' h₁ [(L + 1 + 1 + 1 + 1 + 1, ol), (L + 1 + 1 + 1, oz), (ad, PySem.W.listOf #[.ref x0, .ref x1, .ref x2] c), (x1, instObj 83 dx), (dx, _)] := news_sub N' (List.forall_mem_cons.mpr ⟨hlm, List.forall_mem_cons.mpr ⟨hzm, List.forall_mem_cons.mpr ⟨hax, List.forall_mem_cons.mpr ⟨i1, List.forall_mem_cons.mpr ⟨i2, List.forall_mem_nil _⟩⟩⟩⟩⟩)
    clear N'
    k_steps
    unfold Hold
    refine wpAny_call (c_indent (by exact F') (by exact N₀) X' T' (by show dp + 1 + 4 < recursionLimit; omega) (by show un + 3 + 40 < cLine; omega) i1 i2 i3 i4 i5 (by omega) (by omega) bq.2.1.2 fun t' h' tk' F'' N'' => ?_)
    exact ret t' h' tk' (kp h' _ F'' N'')
  · obtain ⟨dx, nm, ct, vs, e0, e1, e2, e3, e4, k0, k1, k2, k3, k4, raw, tn, tnt, tb, i1, i2, i3, i4, i5⟩ := l2
    have N2 : News g L' h₁ [(L + 1 + 1 + 1 + 1 + 1, ol), (L + 1 + 1 + 1, oz), (ad, PySem.W.listOf #[.ref x0, .ref x1, .ref x2] c), (x2, instObj 83 dx), (dx, _)] := news_sub N' (List.forall_mem_cons.mpr ⟨hlm, List.forall_mem_cons.mpr ⟨hzm, List.forall_mem_cons.mpr ⟨hax, List.forall_mem_cons.mpr ⟨i1, List.forall_mem_cons.mpr ⟨i2, List.forall_mem_nil _⟩⟩⟩⟩⟩)
    clear N'
    k_steps
    unfold Hold
    refine wpAny_call (c_indent (by exact F') (by exact N₀) X' T' (by show dp + 1 + 4 < recursionLimit; omega) (by show un + 3 + 40 < cLine; omega) i1 i2 i3 i4 i5 (by omega) (by omega) bq.2.2.2 fun t' h' tk' F'' N'' => ?_)
    exact ret t' h' tk' (kp h' _ F'' N'')

theorem key_R (X : (KK w.params).In h₀) (T : Top p loose mean mg mb h₀) {led : Led} (hl : ∀ p ∈ led, h₀.get? p.1 = none) {q c' : Addr} {pm ctv : Value} (ho : (q, kla_obj "<lambda>" lamq lamR.1 lamR.2.1 lamR.2.2.1 (lcl2 L) pm c' ctv) ∈ led) (hcd : CodeIn led lamq (.ref c'))
    {ad : Addr} {ol oz : Obj} {sz : Int} {tz : Tok} (hol : ol.data = .cell (some (.ref ad))) (hlm : (L + 1 + 1 + 1 + 1 + 1, ol) ∈ led) (hoz : oz.data = .cell (some (.int sz tz))) (hzm : (L + 1 + 1 + 1, oz) ∈ led) (hz : 1 ≤ sz ∧ sz ≤ 9)
    {q0 q1 q2 : WS} (hL : Leads led ad q0 q1 q2) (bq : (q0.1.length ≤ 9 ∧ (∀ c ∈ q0.1, 0 ≤ c ∧ c ≤ 60)) ∧ (q1.1.length ≤ 9 ∧ (∀ c ∈ q1.1, 0 ≤ c ∧ c ≤ 60)) ∧ (q2.1.length ≤ 9 ∧ (∀ c ∈ q2.1, 0 ≤ c ∧ c ≤ 60))) :
    KeyOn w (PLed h₀ led) q (f3 (indF q0.1 q0.2.1 q0.2.2.2 sz) (indF q1.1 q1.2.1 q1.2.2.2 sz) (indF q2.1 q2.2.1 q2.2.2.2 sz)) := by
  intro dp un fr gd s Q E k tk hP hk0 hk3 hdep hun ret
  obtain ⟨x0, x1, x2, c, hax, l0, l1, l2⟩ := hL
  refine enterL (K := KK w.params) (binds := [(Str.ofString "one", .int k tk)]) led hP hl X T ho hcd (by dsimp only [mkA]; omega) ?bi ?lo ?_ ?a1 ?a2 ?a3 ?a4
  case bi => exact rfl
  case lo => exact locs rfl
  case a1 => exact rfl
  case a2 => exact rfl
  case a3 => exact rfl
  case a4 => decide
  intro g L' h₁ F' N' X' T' hgk
  have N₀ : Hold (News g L' h₁ led) := N'
  have kp : ∀ (h' : Heap) (m' : Str → Option Value), Fr g L' h' m' → News g L' h' led → Keeps s.heap h' := fun h' m' F1 N1 => keeps_of hgk (PLed.led hP) F1 N1 fun p hp => hp
  show wpAny _ _ (eval (Expr.Call _ _ _ _) (envX _ (Scope.mk _ [(_, _), (_, _), (_, _)] _ _ _) _ _ _ _)) _ _ _
  have hk : k = 0 ∨ k = 1 ∨ k = 2 := by omega
  clear hgk
  rcases hk with rfl | rfl | rfl
  · obtain ⟨dx, nm, ct, vs, e0, e1, e2, e3, e4, k0, k1, k2, k3, k4, raw, tn, tnt, tb, i1, i2, i3, i4, i5⟩ := l0
    have N2 : News g L' h₁ [(L + 1 + 1 + 1 + 1 + 1, ol), (L + 1 + 1 + 1, oz), (ad, PySem.W.listOf #[.ref x0, .ref x1, .ref x2] c), (x0, instObj 83 dx), (dx, _)] := news_sub N' (List.forall_mem_cons.mpr ⟨hlm, List.forall_mem_cons.mpr ⟨hzm, List.forall_mem_cons.mpr ⟨hax, List.forall_mem_cons.mpr ⟨i1, List.forall_mem_cons.mpr ⟨i2, List.forall_mem_nil _⟩⟩⟩⟩⟩)
    clear N'
    k_steps
    unfold Hold
    refine wpAny_call (c_indent (by exact F') (by exact N₀) X' T' (by show dp + 1 + 4 < recursionLimit; omega) (by show un + 3 + 40 < cLine; omega) i1 i2 i3 i4 i5 (by omega) (by omega) bq.1.2 fun t' h' tk' F'' N'' => ?_)
    exact ret t' h' tk' (kp h' _ F'' N'')
  · obtain ⟨dx, nm, ct, vs, e0, e1, e2, e3, e4, k0, k1, k2, k3, k4, raw, tn, tnt, tb, i1, i2, i3, i4, i5⟩ := l1
    have N2 : News g L' h₁ [(L + 1 + 1 + 1 + 1 + 1, ol), (L + 1 + 1 + 1, oz), (ad, PySem.W.listOf #[.ref x0, .ref x1, .ref x2] c), (x1, instObj 83 dx), (dx, _)] := news_sub N' (List.forall_mem_cons.mpr ⟨hlm, List.forall_mem_cons.mpr ⟨hzm, List.forall_mem_cons.mpr ⟨hax, List.forall_mem_cons.mpr ⟨i1, List.forall_mem_cons.mpr ⟨i2, List.forall_mem_nil _⟩⟩⟩⟩⟩)
    clear N'
    k_steps
    unfold Hold
    refine wpAny_call (c_indent (by exact F') (by exact N₀) X' T' (by show dp + 1 + 4 < recursionLimit; omega) (by show un + 3 + 40 < cLine; omega) i1 i2 i3 i4 i5 (by omega) (by omega) bq.2.1.2 fun t' h' tk' F'' N'' => ?_)
    exact ret t' h' tk' (kp h' _ F'' N'')
  · obtain ⟨dx, nm, ct, vs, e0, e1, e2, e3, e4, k0, k1, k2, k3, k4, raw, tn, tnt, tb, i1, i2, i3, i4, i5⟩ := l2
    have N2 : News g L' h₁ [(L + 1 + 1 + 1 + 1 + 1, ol), (L + 1 + 1 + 1, oz), (ad, PySem.W.listOf #[.ref x0, .ref x1, .ref x2] c), (x2, instObj 83 dx), (dx, _)] := news_sub N' (List.forall_mem_cons.mpr ⟨hlm, List.forall_mem_cons.mpr ⟨hzm, List.forall_mem_cons.mpr ⟨hax, List.forall_mem_cons.mpr ⟨i1, List.forall_mem_cons.mpr ⟨i2, List.forall_mem_nil _⟩⟩⟩⟩⟩)
    clear N'
    k_steps
    unfold Hold
    refine wpAny_call (c_indent (by exact F') (by exact N₀) X' T' (by show dp + 1 + 4 < recursionLimit; omega) (by show un + 3 + 40 < cLine; omega) i1 i2 i3 i4 i5 (by omega) (by omega) bq.2.2.2 fun t' h' tk' F'' N'' => ?_)
    exact ret t' h' tk' (kp h' _ F'' N'')
end
end Mine
end
namespace Mine
theorem freshAtI0 : True := by
  (try (walk1; fail))
  w_top off
  trivial
end Mine
section
open PySem PySem.W PySem.Calls PyProof.Rows
namespace Mine
set_option maxRecDepth 100000
set_option maxHeartbeats 8000000
theorem fillOfI0 : PySem.Challenge.rw_rl0102_01 = PySem.Challenge.rw_rl0102_01 ∧ KK = KK := by
  k_fill
  exact ⟨rfl, rfl⟩
variable {w : World} {dp un : Nat} {fr : Option (List Env)} {gd : Option (List Code)} {s : Shared} {B : Heap} {R : Result → Shared → Prop} {p : Program} {loose : List Str} {mean : ExcName → Option Value} {mg mb : Str → Option Value}
section
local macro_rules | `(tactic| walk_at "callWith ref") => `(tactic| (k_here; (with_reducible show wpAny _ _ (callWith _ (Value.ref _) [] _ []) _ _ _); k_dflt (refine' callWith_F ?k1 ?_; (case k1 => exact fnAt_keep (by assumption) (by k_asm)); k_whole)))
local macro_rules | `(tactic| walk_at "FnAt") => `(tactic| (exact fnAt_keep (by assumption) (by k_asm)))
local macro_rules | `(tactic| walk_at "zzz") => `(tactic| (k_here; (with_reducible show wpAny _ _ (call (Value.ref _) [Value.int _ _]) _ _ _); (refine' KeyOn.useK (by assumption) (by assumption) (by k_asm) (by k_asm) ?k1 ?k2 ?kd ?ku ?_); (case k1 => (with_unfolding_all assumption)); (case k2 => (with_unfolding_all assumption)); (case kd => (dsimp only [mkA, Around.deeper]; omega)); (case ku => (dsimp only [mkA, Around.deeper]; omega)); (intro t' h' tk' F' N'); (try dsimp only)))
local macro_rules | `(tactic| walk_at "call ref") => `(tactic| (refine hold ?_))

theorem c_ins0 (hB : Keeps B s.heap) (X : (KK w.params).In B) (T : Top p loose mean mg mb B) (hdep : dp + 18 < recursionLimit) (hun : un + 160 < cLine)
    {ra q : Addr} {c : Nat} {P : Addr → Obj → Prop} {f : Int → Int} {pl : Int} {tx : Tok}
    (hrow : s.heap.get? ra = some (W.listOf #[] c)) (hra : B.get? ra = none) (hkey : KeyOn w P q f) (hP : Has P s.heap) (hPr : ∀ o, ¬ P ra o) (hqf : FnAt q s.heap) (hqr : q ≠ ra) (p0 : 0 ≤ pl) (p3 : pl < 3)
    (ret : ∀ its c' h' tk', (∀ b o, b ≠ ra → s.heap.get? b = some o → h'.get? b = some o) → h'.get? ra = some (W.listOf (List.toArray its) c') → IntsAre its [pl] → R (.ok (.ret .none)) { s with heap := h', toks := tk' }) :
    codeAny (model prg w) (mkA dp un fr gd) (.call (.ref 96) ⟨[.ref ra, .int pl tx], [(Str.ofString "key", .ref q)]⟩) R s := by
  refine' enterK (K := KK w.params) B [(ra, W.listOf #[] c)] hB X T ?kn ?k6 ?k7 ?kr ?k9 ?kB ?_ ?c2 ?c3 ?c4 ?c5
  case kn => exact List.forall_mem_cons.mpr ⟨⟨hrow, hra⟩, List.forall_mem_nil _⟩
  case k6 => k_is
  case k7 => k_is
  case kr => (show dp < recursionLimit; omega)
  case k9 => (have XS := X.keeps hB; first | exact BindsTo.of_eq rfl | exact binds_K XS rfl (by k_is) rfl rfl rfl)
  case c5 => decide
  case kB => exact locs rfl
  case c2 => exact rfl
  case c3 => exact rfl
  case c4 => exact rfl
  k_whole
  intro g' L' h' F' N' X' T' hlt hgk
  have hlt' := allLt_of hlt
  simp only [AllLt] at hlt'
  clear hlt X T
  have hPg : Has P g' := fun b o e => hgk b o (hP b o e) (fun hm => by simp only [List.map_cons, List.map_nil, List.mem_cons, List.not_mem_nil, or_false] at hm; subst hm; exact hPr o e)
  have hfn : FnAt q g' := by
    obtain ⟨oc, od, fd, sl, e⟩ := hqf
    exact ⟨oc, od, fd, sl, hgk _ _ e (fun hm => by simp only [List.map_cons, List.map_nil, List.mem_cons, List.not_mem_nil, or_false] at hm; exact hqr hm)⟩
  (try dsimp only)
  (try k_fold)
  k_steps
  unfold Hold
  refine KeyOn.useK hkey hPg (by k_asm) (by k_asm) p0 p3 (by show dp + 1 + 10 < recursionLimit; omega) (by show un + 3 + 100 < cLine; omega) ?_
  intro t1 h1 tk1 F1 N1
  k_steps
  unfold Hold
  refine k_bisP0 (by k_asm) (by k_asm) X' T' (by show dp + 1 + 14 < recursionLimit; omega) (by show un + 3 + 120 < cLine; omega) (by k_mem) hkey hPg hPr hfn hqr  ?_
  intro t2 h2 tk2 F2 N2
  repeat' split
  all_goals k_steps
  all_goals
    dsimp only
    have kN := (by k_asm : News g' L' _ [_])
    have kF := (by k_asm : Fr g' L' _ _)
    refine ret [_] (c + 1) _ _ (fun b o hb e => kF.keep b o (hgk b o e fun hm => hb (List.mem_singleton.mp hm))) (kN _ (.head _)).1 ?_
    (repeat' first | rw [if_pos (by assumption)] | rw [if_neg (by assumption)])
    exact .cons _ _ (.nil)

end
end Mine
end
namespace Mine
theorem freshAtI1 : True := by
  (try (walk1; fail))
  w_top off
  trivial
end Mine
section
open PySem PySem.W PySem.Calls PyProof.Rows
namespace Mine
set_option maxRecDepth 100000
set_option maxHeartbeats 8000000
theorem fillOfI1 : PySem.Challenge.rw_rl0102_01 = PySem.Challenge.rw_rl0102_01 ∧ KK = KK := by
  k_fill
  exact ⟨rfl, rfl⟩
variable {w : World} {dp un : Nat} {fr : Option (List Env)} {gd : Option (List Code)} {s : Shared} {B : Heap} {R : Result → Shared → Prop} {p : Program} {loose : List Str} {mean : ExcName → Option Value} {mg mb : Str → Option Value}
section
local macro_rules | `(tactic| walk_at "callWith ref") => `(tactic| (k_here; (with_reducible show wpAny _ _ (callWith _ (Value.ref _) [] _ []) _ _ _); k_dflt (refine' callWith_F ?k1 ?_; (case k1 => exact fnAt_keep (by assumption) (by k_asm)); k_whole)))
local macro_rules | `(tactic| walk_at "FnAt") => `(tactic| (exact fnAt_keep (by assumption) (by k_asm)))
local macro_rules | `(tactic| walk_at "zzz") => `(tactic| (k_here; (with_reducible show wpAny _ _ (call (Value.ref _) [Value.int _ _]) _ _ _); (refine' KeyOn.useK (by assumption) (by assumption) (by k_asm) (by k_asm) ?k1 ?k2 ?kd ?ku ?_); (case k1 => (with_unfolding_all assumption)); (case k2 => (with_unfolding_all assumption)); (case kd => (dsimp only [mkA, Around.deeper]; omega)); (case ku => (dsimp only [mkA, Around.deeper]; omega)); (intro t' h' tk' F' N'); (try dsimp only)))
local macro_rules | `(tactic| walk_at "call ref") => `(tactic| (refine hold ?_))

theorem c_ins1 (hB : Keeps B s.heap) (X : (KK w.params).In B) (T : Top p loose mean mg mb B) (hdep : dp + 18 < recursionLimit) (hun : un + 160 < cLine)
    {ra q : Addr} {c : Nat} {P : Addr → Obj → Prop} {f : Int → Int} {pl : Int} {tx : Tok} {k0 : Int} {t0 : Tok}
    (hrow : s.heap.get? ra = some (W.listOf #[.int k0 t0] c)) (hra : B.get? ra = none) (hkey : KeyOn w P q f) (hP : Has P s.heap) (hPr : ∀ o, ¬ P ra o) (hqf : FnAt q s.heap) (hqr : q ≠ ra) (b0 : 0 ≤ k0) (d0 : k0 < 3) (p0 : 0 ≤ pl) (p3 : pl < 3)
    (ret : ∀ its c' h' tk', (∀ b o, b ≠ ra → s.heap.get? b = some o → h'.get? b = some o) → h'.get? ra = some (W.listOf (List.toArray its) c') → IntsAre its (if f pl < f k0 then [pl, k0] else [k0, pl]) → R (.ok (.ret .none)) { s with heap := h', toks := tk' }) :
    codeAny (model prg w) (mkA dp un fr gd) (.call (.ref 96) ⟨[.ref ra, .int pl tx], [(Str.ofString "key", .ref q)]⟩) R s := by
  refine' enterK (K := KK w.params) B [(ra, W.listOf #[.int k0 t0] c)] hB X T ?kn ?k6 ?k7 ?kr ?k9 ?kB ?_ ?c2 ?c3 ?c4 ?c5
  case kn => exact List.forall_mem_cons.mpr ⟨⟨hrow, hra⟩, List.forall_mem_nil _⟩
  case k6 => k_is
  case k7 => k_is
  case kr => (show dp < recursionLimit; omega)
  case k9 => (have XS := X.keeps hB; first | exact BindsTo.of_eq rfl | exact binds_K XS rfl (by k_is) rfl rfl rfl)
  case c5 => decide
  case kB => exact locs rfl
  case c2 => exact rfl
  case c3 => exact rfl
  case c4 => exact rfl
  k_whole
  intro g' L' h' F' N' X' T' hlt hgk
  have hlt' := allLt_of hlt
  simp only [AllLt] at hlt'
  clear hlt X T
  have hPg : Has P g' := fun b o e => hgk b o (hP b o e) (fun hm => by simp only [List.map_cons, List.map_nil, List.mem_cons, List.not_mem_nil, or_false] at hm; subst hm; exact hPr o e)
  have hfn : FnAt q g' := by
    obtain ⟨oc, od, fd, sl, e⟩ := hqf
    exact ⟨oc, od, fd, sl, hgk _ _ e (fun hm => by simp only [List.map_cons, List.map_nil, List.mem_cons, List.not_mem_nil, or_false] at hm; exact hqr hm)⟩
  (try dsimp only)
  (try k_fold)
  k_steps
  unfold Hold
  refine KeyOn.useK hkey hPg (by k_asm) (by k_asm) p0 p3 (by show dp + 1 + 10 < recursionLimit; omega) (by show un + 3 + 100 < cLine; omega) ?_
  intro t1 h1 tk1 F1 N1
  k_steps
  unfold Hold
  refine k_bisP1 (by k_asm) (by k_asm) X' T' (by show dp + 1 + 14 < recursionLimit; omega) (by show un + 3 + 120 < cLine; omega) (by k_mem) hkey hPg hPr hfn hqr b0 d0 ?_
  intro t2 h2 tk2 F2 N2
  repeat' split
  all_goals k_steps
  all_goals
    dsimp only
    have kN := (by k_asm : News g' L' _ [_])
    have kF := (by k_asm : Fr g' L' _ _)
    refine ret [_, _] (c + 1) _ _ (fun b o hb e => kF.keep b o (hgk b o e fun hm => hb (List.mem_singleton.mp hm))) (kN _ (.head _)).1 ?_
    (repeat' first | rw [if_pos (by assumption)] | rw [if_neg (by assumption)])
    exact .cons _ _ (.cons _ _ (.nil))

end
end Mine
end
namespace Mine
theorem freshAtI2 : True := by
  (try (walk1; fail))
  w_top off
  trivial
end Mine
section
open PySem PySem.W PySem.Calls PyProof.Rows
namespace Mine
set_option maxRecDepth 100000
set_option maxHeartbeats 8000000
theorem fillOfI2 : PySem.Challenge.rw_rl0102_01 = PySem.Challenge.rw_rl0102_01 ∧ KK = KK := by
  k_fill
  exact ⟨rfl, rfl⟩
variable {w : World} {dp un : Nat} {fr : Option (List Env)} {gd : Option (List Code)} {s : Shared} {B : Heap} {R : Result → Shared → Prop} {p : Program} {loose : List Str} {mean : ExcName → Option Value} {mg mb : Str → Option Value}
section
local macro_rules | `(tactic| walk_at "callWith ref") => `(tactic| (k_here; (with_reducible show wpAny _ _ (callWith _ (Value.ref _) [] _ []) _ _ _); k_dflt (refine' callWith_F ?k1 ?_; (case k1 => exact fnAt_keep (by assumption) (by k_asm)); k_whole)))
local macro_rules | `(tactic| walk_at "FnAt") => `(tactic| (exact fnAt_keep (by assumption) (by k_asm)))
local macro_rules | `(tactic| walk_at "zzz") => `(tactic| (k_here; (with_reducible show wpAny _ _ (call (Value.ref _) [Value.int _ _]) _ _ _); (refine' KeyOn.useK (by assumption) (by assumption) (by k_asm) (by k_asm) ?k1 ?k2 ?kd ?ku ?_); (case k1 => (with_unfolding_all assumption)); (case k2 => (with_unfolding_all assumption)); (case kd => (dsimp only [mkA, Around.deeper]; omega)); (case ku => (dsimp only [mkA, Around.deeper]; omega)); (intro t' h' tk' F' N'); (try dsimp only)))
local macro_rules | `(tactic| walk_at "call ref") => `(tactic| (refine hold ?_))

theorem c_ins2 (hB : Keeps B s.heap) (X : (KK w.params).In B) (T : Top p loose mean mg mb B) (hdep : dp + 18 < recursionLimit) (hun : un + 160 < cLine)
    {ra q : Addr} {c : Nat} {P : Addr → Obj → Prop} {f : Int → Int} {pl : Int} {tx : Tok} {k0 k1 : Int} {t0 t1 : Tok}
    (hrow : s.heap.get? ra = some (W.listOf #[.int k0 t0, .int k1 t1] c)) (hra : B.get? ra = none) (hkey : KeyOn w P q f) (hP : Has P s.heap) (hPr : ∀ o, ¬ P ra o) (hqf : FnAt q s.heap) (hqr : q ≠ ra) (b0 : 0 ≤ k0) (d0 : k0 < 3) (b1 : 0 ≤ k1) (d1 : k1 < 3) (p0 : 0 ≤ pl) (p3 : pl < 3)
    (ret : ∀ its c' h' tk', (∀ b o, b ≠ ra → s.heap.get? b = some o → h'.get? b = some o) → h'.get? ra = some (W.listOf (List.toArray its) c') → IntsAre its (if f pl < f k1 then (if f pl < f k0 then [pl, k0, k1] else [k0, pl, k1]) else [k0, k1, pl]) → R (.ok (.ret .none)) { s with heap := h', toks := tk' }) :
    codeAny (model prg w) (mkA dp un fr gd) (.call (.ref 96) ⟨[.ref ra, .int pl tx], [(Str.ofString "key", .ref q)]⟩) R s := by
  refine' enterK (K := KK w.params) B [(ra, W.listOf #[.int k0 t0, .int k1 t1] c)] hB X T ?kn ?k6 ?k7 ?kr ?k9 ?kB ?_ ?c2 ?c3 ?c4 ?c5
  case kn => exact List.forall_mem_cons.mpr ⟨⟨hrow, hra⟩, List.forall_mem_nil _⟩
  case k6 => k_is
  case k7 => k_is
  case kr => (show dp < recursionLimit; omega)
  case k9 => (have XS := X.keeps hB; first | exact BindsTo.of_eq rfl | exact binds_K XS rfl (by k_is) rfl rfl rfl)
  case c5 => decide
  case kB => exact locs rfl
  case c2 => exact rfl
  case c3 => exact rfl
  case c4 => exact rfl
  k_whole
  intro g' L' h' F' N' X' T' hlt hgk
  have hlt' := allLt_of hlt
  simp only [AllLt] at hlt'
  clear hlt X T
  have hPg : Has P g' := fun b o e => hgk b o (hP b o e) (fun hm => by simp only [List.map_cons, List.map_nil, List.mem_cons, List.not_mem_nil, or_false] at hm; subst hm; exact hPr o e)
  have hfn : FnAt q g' := by
    obtain ⟨oc, od, fd, sl, e⟩ := hqf
    exact ⟨oc, od, fd, sl, hgk _ _ e (fun hm => by simp only [List.map_cons, List.map_nil, List.mem_cons, List.not_mem_nil, or_false] at hm; exact hqr hm)⟩
  (try dsimp only)
  (try k_fold)
  k_steps
  unfold Hold
  refine KeyOn.useK hkey hPg (by k_asm) (by k_asm) p0 p3 (by show dp + 1 + 10 < recursionLimit; omega) (by show un + 3 + 100 < cLine; omega) ?_
  intro t1 h1 tk1 F1 N1
  k_steps
  unfold Hold
  refine k_bisP2 (by k_asm) (by k_asm) X' T' (by show dp + 1 + 14 < recursionLimit; omega) (by show un + 3 + 120 < cLine; omega) (by k_mem) hkey hPg hPr hfn hqr b0 d0 b1 d1 ?_
  intro t2 h2 tk2 F2 N2
  repeat' split
  all_goals k_steps
  all_goals
    dsimp only
    have kN := (by k_asm : News g' L' _ [_])
    have kF := (by k_asm : Fr g' L' _ _)
    refine ret [_, _, _] (c + 1) _ _ (fun b o hb e => kF.keep b o (hgk b o e fun hm => hb (List.mem_singleton.mp hm))) (kN _ (.head _)).1 ?_
    (repeat' first | rw [if_pos (by assumption)] | rw [if_neg (by assumption)])
    exact .cons _ _ (.cons _ _ (.cons _ _ (.nil)))

end
end Mine
end
namespace Mine
theorem freshAtZ1 : True := by
  (try (walk1; fail))
  w_top off
  trivial
end Mine
section
open PySem PySem.W PySem.Calls PyProof.Rows PyProof.Rows.LCg
set_option autoImplicit false
namespace Mine
set_option maxRecDepth 100000
set_option maxHeartbeats 8000000
theorem fillOfZ1 : PySem.Challenge.rw_rl0102_01 = PySem.Challenge.rw_rl0102_01 ∧ KK = KK := by
  k_fill
  exact ⟨rfl, rfl⟩
variable {w : World} {dp un : Nat} {fr : Option (List Env)} {gd : Option (List Code)} {s : Shared} {h₀ : Heap} {L fa : Addr} {m : Str → Option Value} {news : List (Addr × Obj)} {p : Program} {loose : List Str} {mean : ExcName → Option Value} {mg mb : Str → Option Value}

def insL (f : Int → Int) (pl : Int) : List Int → List Int
  | [] => [pl]
  | [k0] => if f pl < f k0 then [pl, k0] else [k0, pl]
  | [k0, k1] => if f pl < f k1 then (if f pl < f k0 then [pl, k0, k1] else [k0, pl, k1]) else [k0, k1, pl]
  | l => l
theorem c_ins {w : World} {dp un : Nat} {fr : Option (List Env)} {gd : Option (List Code)} {s : Shared} {B : Heap} {R : Result → Shared → Prop} {p : Program} {loose : List Str} {mean : ExcName → Option Value} {mg mb : Str → Option Value} (hB : Keeps B s.heap) (X : (KK w.params).In B) (T : Top p loose mean mg mb B) (hdep : dp + 18 < recursionLimit) (hun : un + 160 < cLine)
    {ra q : Addr} {c : Nat} {P : Addr → Obj → Prop} {f : Int → Int} {pl : Int} {tx : Tok} {its : List Value} {ns : List Int} (hi : IntsAre its ns) (hn : ns.length ≤ 2) (hk : ∀ k ∈ ns, 0 ≤ k ∧ k < 3)
    (hrow : s.heap.get? ra = some (PySem.W.listOf (List.toArray its) c)) (hra : B.get? ra = none) (hkey : KeyOn w P q f) (hP : Has P s.heap) (hPr : ∀ o, ¬ P ra o) (hqf : FnAt q s.heap) (hqr : q ≠ ra) (p0 : 0 ≤ pl) (p3 : pl < 3)
    (ret : ∀ its' c' h' tk', (∀ b o, b ≠ ra → s.heap.get? b = some o → h'.get? b = some o) → h'.get? ra = some (PySem.W.listOf (List.toArray its') c') → IntsAre its' (insL f pl ns) → R (.ok (.ret .none)) { s with heap := h', toks := tk' }) :
    codeAny (model prg w) (mkA dp un fr gd) (.call (.ref 96) ⟨[.ref ra, .int pl tx], [(Str.ofString "key", .ref q)]⟩) R s := by
  rcases hi with _ | ⟨k0, t0, hi⟩
  · exact c_ins0 hB X T hdep hun hrow hra hkey hP hPr hqf hqr p0 p3 ret
  have b0 := hk k0 (.head _)
  rcases hi with _ | ⟨k1, t1, hi⟩
  · exact c_ins1 hB X T hdep hun hrow hra hkey hP hPr hqf hqr b0.1 b0.2 p0 p3 ret
  have b1 := hk k1 (.tail _ (.head _))
  rcases hi with _ | ⟨k2, t2, hi⟩
  · exact c_ins2 hB X T hdep hun hrow hra hkey hP hPr hqf hqr b0.1 b0.2 b1.1 b1.2 p0 p3 ret
  · simp at hn
section
local macro_rules | `(tactic| walk_at "eval Lambda") => `(tactic| (refine hold ?_))
local macro_rules | `(tactic| walk_at "call ref") => `(tactic| (refine hold ?_))
local macro_rules | `(tactic| walk_at "eval Name") => `(tactic| (k_here; k_dflt (refine nameX_L (by k_asm) (by assumption) ?_ (by rfl) (by rfl) (by decide))))

theorem t_ins (X : (KK w.params).In h₀) (T : Top p loose mean mg mb h₀) (hdep : dp + 40 < recursionLimit) (hun : un + 300 < cLine) (CH : CodeHd h₀ 171 169) (F : Fr h₀ L s.heap m) {pre post led : Led} {ps : Array Value} {ra : Addr} {its : List Value} {c : Nat} (N : News h₀ L s.heap ((ra, PySem.W.listOf (List.toArray its) c) :: (pre ++ (169, tabObj ps) :: post))) (h1 : ∀ p ∈ pre, p.1 ≠ 169 ∧ p.1 ≠ ra) (h2 : ∀ p ∈ post, p.1 ≠ 169 ∧ p.1 ≠ ra) (h3 : ra ≠ 169) (K : TabOk led ps) (hKl : ∀ p ∈ led, p ∈ pre ++ post) {Q : Flow → Shared → Prop} {E : Value → Shared → Prop}
    {ns : List Int} (hi : IntsAre its ns) (hn : ns.length ≤ 2) (hk : ∀ k ∈ ns, 0 ≤ k ∧ k < 3) {pl : Int} {tx : Tok} (p0 : 0 ≤ pl) (p3 : pl < 3) (hmr : m (Str.ofString "row") = some (.ref ra)) (hmp : m (Str.ofString "place") = some (.int pl tx))
    {ad : Addr} {ol oz : Obj} {sz : Int} {tz : Tok} (hol : ol.data = .cell (some (.ref ad))) (hlm : (L + 1 + 1 + 1 + 1 + 1, ol) ∈ pre ++ post) (hoz : oz.data = .cell (some (.int sz tz))) (hzm : (L + 1 + 1 + 1, oz) ∈ pre ++ post) (hz : 1 ≤ sz ∧ sz ≤ 9)
    {q0 q1 q2 : WS} (hL : Leads (pre ++ post) ad q0 q1 q2) (bq : (q0.1.length ≤ 9 ∧ (∀ c ∈ q0.1, 0 ≤ c ∧ c ≤ 60)) ∧ (q1.1.length ≤ 9 ∧ (∀ c ∈ q1.1, 0 ≤ c ∧ c ≤ 60)) ∧ (q2.1.length ≤ 9 ∧ (∀ c ∈ q2.1, 0 ≤ c ∧ c ≤ 60)))
    (ret : ∀ its' c' ps' ex h' tk', s.toks ≤ tk' → Fr h₀ L h' m → News h₀ L h' ((ra, PySem.W.listOf (List.toArray its') c') :: ((ex ++ pre) ++ (169, tabObj ps') :: post)) → Fresh ex ((ra, PySem.W.listOf (List.toArray its) c) :: (pre ++ (169, tabObj ps) :: post)) → TabOk (ex ++ led) ps' → IntsAre its' (insL (f3 (indF q0.1 q0.2.1 q0.2.2.2 sz) (indF q1.1 q1.2.1 q1.2.2.2 sz) (indF q2.1 q2.2.1 q2.2.2.2 sz)) pl ns) → Q .next { s with heap := h', toks := tk' }) :
    wpAny (model prg w) (mkA dp un fr gd) (exec (nth (bodyOf (nth sizeBody 3)) 0) (LE L fa)) Q E s := by
  refine wpAny_with_toks (n := s.toks) (Nat.le_refl _) ?_
  have N₀ : Hold (News h₀ L s.heap ((ra, PySem.W.listOf (List.toArray its) c) :: (pre ++ (169, tabObj ps) :: post))) := N
  have N2 : News h₀ L s.heap [] := fun _ h => nomatch h
  clear N
  show wpAny _ _ (exec (Stmt.Expr (Expr.Call _ _ [⟨_, Expr.Lambda _ _ _ _, _⟩] _) _) _) _ _ _
  k_steps
  unfold Hold
  clear N2
  refine s_lam (clos := lcl2 L) (pre := (ra, PySem.W.listOf (List.toArray its) c) :: pre) (post := post) (ps := ps) F (show News h₀ L s.heap ((ra, PySem.W.listOf (List.toArray its) c) :: (pre ++ (169, tabObj ps) :: post)) from N₀) T CH (fun p hp => (List.mem_cons.mp hp).elim (fun e => e ▸ h3) fun hp => (h1 p hp).1) (fun p hp => (h2 p hp).1) K (by rfl) (by rfl) ?_
  intro f c' ctv ps' ex h' tk' F' N' fr K' hf hcd
  k_steps
  unfold Hold
  have hra : h₀.get? ra = none := (show News h₀ L s.heap ((ra, PySem.W.listOf (List.toArray its) c) :: (pre ++ (169, tabObj ps) :: post)) from N₀).fresh (.head _)
  have fr1 : ∀ p ∈ ex, ra ≠ p.1 := fun p hp => fr p hp _ (.head _)
  have hled : ∀ p ∈ ex ++ (pre ++ post), (∃ q ∈ (ra, PySem.W.listOf (List.toArray its) c) :: (pre ++ (169, tabObj ps') :: post), p = q ∧ p.1 ≠ ra) ∨ (p ∈ ex ∧ p.1 ≠ ra) := fun p hp => by
    rcases List.mem_append.mp hp with hp | hp
    · exact .inr ⟨hp, Ne.symm (fr1 p hp)⟩
    · rcases List.mem_append.mp hp with hp | hp
      · exact .inl ⟨p, .tail _ (List.mem_append_left _ hp), rfl, (h1 p hp).2⟩
      · exact .inl ⟨p, .tail _ (List.mem_append_right _ (.tail _ hp)), rfl, (h2 p hp).2⟩
  have Nl : News h₀ L h' (ex ++ (pre ++ post)) := fun p hp => by
    rcases hled p hp with ⟨q, hq, rfl, _⟩ | ⟨hp, _⟩
    · exact N' _ (List.mem_append_right _ hq)
    · exact N' _ (List.mem_append_left _ hp)
  have nra : ∀ p ∈ ex ++ (pre ++ post), p.1 ≠ ra := fun p hp => by
    rcases hled p hp with ⟨q, hq, e, h⟩ | ⟨_, h⟩ <;> exact h
  have key := key_I X T (led := ex ++ (pre ++ post)) (fun p hp => (Nl p hp).2.2) (q := f) (c' := c') (List.mem_append_left _ hf) (hcd.mono fun p hp => (List.mem_append.mp hp).elim (fun hp => List.mem_append_left _ hp) fun hp => List.mem_append_right _ (hKl p hp)) hol (List.mem_append_right _ hlm) hoz (List.mem_append_right _ hzm) hz (hL.mono fun p hp => List.mem_append_right _ hp) bq
  have hPl : Has (PLed h₀ (ex ++ (pre ++ post))) h' := fun b o e => e.elim (fun e => F'.keep b o e) fun e => (Nl _ e).1
  refine wpAny_call (c_ins (B := h₀) (by exact F'.keep) X T (by omega) (by omega) hi hn hk (by exact (N' _ (List.mem_append_right _ (.head _))).1) hra key (by exact hPl) (fun o e => e.elim (fun e => by rw [hra] at e; cases e) fun e => nra _ e rfl) (by exact ⟨_, _, _, _, (N' _ (List.mem_append_left _ hf)).1⟩) (fun e => fr1 _ hf e.symm) p0 p3 ?_)
  intro its' c2 h2' tk2 hk2 hr2 hi2
  dsimp only
  intro htk
  have nr := N' (ra, PySem.W.listOf (List.toArray its) c) (List.mem_append_right _ (.head _))
  have nt : ∀ p ∈ (ex ++ pre) ++ (169, tabObj ps') :: post, p ∈ ex ++ ((ra, PySem.W.listOf (List.toArray its) c) :: pre ++ (169, tabObj ps') :: post) ∧ p.1 ≠ ra := fun p hp => by
    rcases List.mem_append.mp hp with hp | hp
    · rcases List.mem_append.mp hp with hp | hp
      · exact ⟨List.mem_append_left _ hp, Ne.symm (fr1 p hp)⟩
      · exact ⟨List.mem_append_right _ (.tail _ (List.mem_append_left _ hp)), (h1 p hp).2⟩
    · rcases List.mem_cons.mp hp with rfl | hp
      · exact ⟨List.mem_append_right _ (.tail _ (List.mem_append_right _ (.head _))), Ne.symm h3⟩
      · exact ⟨List.mem_append_right _ (.tail _ (List.mem_append_right _ (.tail _ hp))), (h2 p hp).2⟩
  refine ret its' c2 ps' ex h2' tk2 htk (fr_at F' (fun b x hb e => hk2 b x hb e) nr.2.1 nr.2.2) (fun p hp => ?_) fr K' hi2
  rcases List.mem_cons.mp hp with rfl | hp
  · exact ⟨hr2, nr.2⟩
  · have z := N' p (nt p hp).1
    exact ⟨hk2 _ _ (nt p hp).2 z.1, z.2⟩
end
def rowI (f : Int → Int) : Nat → List Int
  | 0 => []
  | i + 1 => insL f i (rowI f i)
theorem insL_mem {f : Int → Int} {pl : Int} {l : List Int} (hn : l.length ≤ 2) : ∀ k ∈ insL f pl l, k = pl ∨ k ∈ l := by
  rcases l with _ | ⟨a, _ | ⟨b, _ | ⟨c, r⟩⟩⟩
  · simp [insL]
  · intro k hk
    simp only [insL] at hk
    split at hk <;> simp at hk ⊢ <;> omega
  · intro k hk
    simp only [insL] at hk
    (repeat' split at hk) <;> simp at hk ⊢ <;> omega
  · simp at hn
theorem insL_len {f : Int → Int} {pl : Int} {l : List Int} (hn : l.length ≤ 2) : (insL f pl l).length = l.length + 1 := by
  rcases l with _ | ⟨a, _ | ⟨b, _ | ⟨c, r⟩⟩⟩
  · rfl
  · simp only [insL]; split <;> rfl
  · simp only [insL]; (repeat' split) <;> rfl
  · simp at hn
theorem rowI_ok (f : Int → Int) : ∀ i, i ≤ 3 → (rowI f i).length = i ∧ ∀ k ∈ rowI f i, 0 ≤ k ∧ k < 3 ∧ k < (i : Int)
  | 0, _ => ⟨rfl, fun _ h => nomatch h⟩
  | i + 1, h => by
    obtain ⟨h1, h2⟩ := rowI_ok f i (by omega)
    refine ⟨by rw [rowI, insL_len (by omega), h1], fun k hk => ?_⟩
    rcases insL_mem (by omega) k hk with rfl | hk
    · omega
    · have := h2 k hk; omega
end Mine
end
namespace Mine
theorem freshAtZ2 : True := by
  (try (walk1; fail))
  w_top off
  trivial
end Mine
section
open PySem PySem.W PySem.Calls PyProof.Rows PyProof.Rows.LCg
set_option autoImplicit false
namespace Mine
set_option maxRecDepth 100000
set_option maxHeartbeats 8000000
theorem fillOfZ2 : PySem.Challenge.rw_rl0102_01 = PySem.Challenge.rw_rl0102_01 ∧ KK = KK := by
  k_fill
  exact ⟨rfl, rfl⟩
variable {w : World} {dp un : Nat} {fr : Option (List Env)} {gd : Option (List Code)} {s : Shared} {h₀ : Heap} {L fa : Addr} {m : Str → Option Value} {news : List (Addr × Obj)} {p : Program} {loose : List Str} {mean : ExcName → Option Value} {mg mb : Str → Option Value}

def OffA (ex : Led) (ra : Addr) (rest : Led) : Prop := ∀ p ∈ ex, p.1 ≠ ra ∧ p.1 ≠ 169 ∧ ∀ q ∈ rest, q.1 ≠ p.1
/-- what holds between the turns of the insort loop -/
def JI (f : Int → Int) (m₀ : Str → Option Value) (ra : Addr) (pre post led : Led) (i : Nat) (m' : Str → Option Value) (news : Led) : Prop :=
  ∃ its c ps' ex, news = (ra, PySem.W.listOf (List.toArray its) c) :: ((ex ++ pre) ++ (169, tabObj ps') :: post) ∧ (∀ x, x ≠ Str.ofString "place" → m' x = m₀ x) ∧ OffA ex ra (pre ++ post) ∧ TabOk (ex ++ led) ps' ∧ IntsAre its (rowI f i)
def StopAt (P : Value → Shared → Prop) (v : Value) (s : Shared) : Prop := P v s
theorem s_ins (X : (KK w.params).In h₀) (T : Top p loose mean mg mb h₀) (hdep : dp + 40 < recursionLimit) (hun : un + 300 < cLine) (CH : CodeHd h₀ 171 169) (F : Fr h₀ L s.heap m) {pre post led : Led} {ps : Array Value} {ra : Addr} {c : Nat} (N : News h₀ L s.heap ((ra, PySem.W.listOf #[] c) :: (pre ++ (169, tabObj ps) :: post))) (h1 : ∀ p ∈ pre, p.1 ≠ 169 ∧ p.1 ≠ ra) (h2 : ∀ p ∈ post, p.1 ≠ 169 ∧ p.1 ≠ ra) (h3 : ra ≠ 169) (K : TabOk led ps) (hKl : ∀ p ∈ led, p ∈ pre ++ post) {Q : Flow → Shared → Prop}
    (hmr : m (Str.ofString "row") = some (.ref ra)) {ad : Addr} {ol oz : Obj} {sz : Int} {tz : Tok} (hol : ol.data = .cell (some (.ref ad))) (hlm : (L + 1 + 1 + 1 + 1 + 1, ol) ∈ pre ++ post) (hoz : oz.data = .cell (some (.int sz tz))) (hzm : (L + 1 + 1 + 1, oz) ∈ pre ++ post) (hz : 1 ≤ sz ∧ sz ≤ 9) {q0 q1 q2 : WS} (hL : Leads (pre ++ post) ad q0 q1 q2) (bq : (q0.1.length ≤ 9 ∧ (∀ c ∈ q0.1, 0 ≤ c ∧ c ≤ 60)) ∧ (q1.1.length ≤ 9 ∧ (∀ c ∈ q1.1, 0 ≤ c ∧ c ≤ 60)) ∧ (q2.1.length ≤ 9 ∧ (∀ c ∈ q2.1, 0 ≤ c ∧ c ≤ 60)))
    (ret : ∀ m' its c' ps' ex h' tk', s.toks ≤ tk' → (∀ x, x ≠ Str.ofString "place" → m' x = m x) → Fr h₀ L h' m' → News h₀ L h' ((ra, PySem.W.listOf (List.toArray its) c') :: ((ex ++ pre) ++ (169, tabObj ps') :: post)) → OffA ex ra (pre ++ post) → TabOk (ex ++ led) ps' → IntsAre its (rowI (f3 (indF q0.1 q0.2.1 q0.2.2.2 sz) (indF q1.1 q1.2.1 q1.2.2.2 sz) (indF q2.1 q2.2.1 q2.2.2.2 sz)) 3) → Q .next { s with heap := h', toks := tk' }) :
    wpAny (model prg w) (mkA dp un fr gd) (exec (nth sizeBody 3) (LE L fa)) Q (fun _ _ => False) s := by
  with_unfolding_all show wpAny _ _ (exec (Stmt.For (Expr.Name _ _) _ _ [] _) _) _ _ _
  refine for_range (h₀ := h₀) (L := L) (b₀ := 3) (n := 3) rfl (JI (f3 (indF q0.1 q0.2.1 q0.2.2.2 sz) (indF q1.1 q1.2.1 q1.2.2.2 sz) (indF q2.1 q2.2.1 q2.2.2.2 sz)) m ra pre post led) PassesOwn.never (by decide) (by decide) ?_ ?_ ?_
  · refine wpAny_with_toks (n := s.toks) (Nat.le_refl _) ?_
    refine wpAny_mono (Q := StopAt _) ?_ (fun _ _ x => x) (fun _ _ x _ => x)
    k_steps
    unfold StopAt
    intro htk
    exact ⟨_, _, _, _, m, _, rfl, ⟨_, _, rfl⟩, by assumption, by assumption, by assumption, ⟨[], c, ps, [], rfl, fun _ _ => rfl, (fun _ h => nomatch h), K, .nil⟩, htk⟩
  · rintro i t m' news own h tk hi ⟨its, c', ps', ex, rfl, hm', off, K', hI⟩ F' N' o1 htk
    have hro := rowI_ok (f3 (indF q0.1 q0.2.1 q0.2.2.2 sz) (indF q1.1 q1.2.1 q1.2.2.2 sz) (indF q2.1 q2.2.1 q2.2.2.2 sz)) i (by omega)
    refine wpAny_assign_Name (storeX_L F' N' (fun h' F'' N'' => ?_) rfl (by with_unfolding_all rfl))
    have e1 : ∀ p ∈ ex ++ pre, p.1 ≠ 169 ∧ p.1 ≠ ra := fun p hp => (List.mem_append.mp hp).elim (fun hp => ⟨(off p hp).2.1, (off p hp).1⟩) (h1 p)
    have e2 : ∀ p ∈ post ++ own, p.1 ≠ 169 ∧ p.1 ≠ ra := fun p hp => (List.mem_append.mp hp).elim (h2 p) fun hp => ⟨Ne.symm (o1 _ (.tail _ (List.mem_append_right _ (.head _))) p hp), Ne.symm (o1 _ (.head _) p hp)⟩
    have N3 : News h₀ L h' ((ra, PySem.W.listOf (List.toArray its) c') :: ((ex ++ pre) ++ (169, tabObj ps') :: (post ++ own))) := news_sub N'' fun p hp => by
      rcases List.mem_cons.mp hp with rfl | hp
      · exact List.mem_append_right _ (.head _)
      · rcases List.mem_append.mp hp with hp | hp
        · exact List.mem_append_right _ (.tail _ (List.mem_append_left _ hp))
        · rcases List.mem_cons.mp hp with rfl | hp
          · exact List.mem_append_right _ (.tail _ (List.mem_append_right _ (.head _)))
          · rcases List.mem_append.mp hp with hp | hp
            · exact List.mem_append_right _ (.tail _ (List.mem_append_right _ (.tail _ hp)))
            · exact List.mem_append_left _ hp
    have up : ∀ p ∈ pre ++ post, p ∈ (ex ++ pre) ++ (post ++ own) := fun p hp => (List.mem_append.mp hp).elim (fun hp => List.mem_append_left _ (List.mem_append_right _ hp)) fun hp => List.mem_append_right _ (List.mem_append_left _ hp)
    have hup : ∀ p ∈ ex ++ led, p ∈ (ex ++ pre) ++ (post ++ own) := fun p hp => (List.mem_append.mp hp).elim (fun hp => List.mem_append_left _ (List.mem_append_left _ hp)) fun hp => up p (hKl p hp)
    refine wpAny_execs_cons (t_ins X T hdep hun CH F'' N3 e1 e2 h3 K' hup hI (by omega) (fun k hk => ⟨(hro.2 k hk).1, (hro.2 k hk).2.1⟩) (pl := i) (tx := t) (by omega) (by omega) ?_ ?_ hol (up _ hlm) hoz (up _ hzm) hz (hL.mono up) bq ?_)
    · show (if _ = _ then _ else _) = _
      rw [if_neg (by decide)]; exact (hm' _ (by decide)).trans hmr
    · show (if _ = _ then _ else _) = _
      rw [if_pos rfl]
    intro its2 c2 ps2 ex2 h2' tk2 htk2 F2 N2 fr2 K2 hI2
    refine wpAny_execs_nil ?_
    dsimp only
    refine ⟨h2', tk2, _, (ra, PySem.W.listOf (List.toArray its2) c2) :: (((ex2 ++ ex) ++ pre) ++ (169, tabObj ps2) :: post), rfl, F2, news_sub N2 fun p hp => ?_, fun p hp q hq => ?_, its2, c2, ps2, ex2 ++ ex, rfl, fun x hx => ?_, fun p hp => ?_, by rw [List.append_assoc]; exact K2, hI2⟩
    · rcases List.mem_append.mp hp with hp | hp
      · exact .tail _ (List.mem_append_right _ (.tail _ (List.mem_append_right _ hp)))
      · rcases List.mem_cons.mp hp with rfl | hp
        · exact .head _
        · rcases List.mem_append.mp hp with hp | hp
          · exact .tail _ (List.mem_append_left _ (by rw [← List.append_assoc]; exact hp))
          · rcases List.mem_cons.mp hp with rfl | hp
            · exact .tail _ (List.mem_append_right _ (.head _))
            · exact .tail _ (List.mem_append_right _ (.tail _ (List.mem_append_left _ hp)))
    · rcases List.mem_cons.mp hp with rfl | hp
      · exact Ne.symm (e2 q (List.mem_append_right _ hq)).2
      · rcases List.mem_append.mp hp with hp | hp
        · rcases List.mem_append.mp hp with hp | hp
          · rcases List.mem_append.mp hp with hp | hp
            · exact Ne.symm (fr2 p hp q (.tail _ (List.mem_append_right _ (.tail _ (List.mem_append_right _ hq)))))
            · exact o1 p (.tail _ (List.mem_append_left _ (List.mem_append_left _ hp))) q hq
          · exact o1 p (.tail _ (List.mem_append_left _ (List.mem_append_right _ hp))) q hq
        · rcases List.mem_cons.mp hp with rfl | hp
          · exact Ne.symm (e2 q (List.mem_append_right _ hq)).1
          · exact o1 p (.tail _ (List.mem_append_right _ (.tail _ hp))) q hq
    · show (if _ = _ then _ else _) = _
      rw [if_neg hx]; exact hm' x hx
    · rcases List.mem_append.mp hp with hp | hp
      · refine ⟨Ne.symm (fr2 p hp _ (.head _)), Ne.symm (fr2 p hp _ (.tail _ (List.mem_append_right _ (.head _)))), fun q hq => fr2 p hp q (.tail _ ?_)⟩
        rcases List.mem_append.mp hq with hq | hq
        · exact List.mem_append_left _ (List.mem_append_right _ hq)
        · exact List.mem_append_right _ (.tail _ (List.mem_append_left _ hq))
      · exact off p hp
  · rintro m' news h tk ⟨its, c', ps', ex, rfl, hm', off, K', hI⟩ F' N' htk
    exact ret m' its c' ps' ex h tk htk hm' F' N' off K' hI
end Mine
end
namespace Mine
theorem freshAtSort3 : True := by
  (try (walk1; fail))
  w_top off
  trivial
end Mine
section
open PySem PySem.W PySem.Calls PyProof.Rows PyProof.Rows.LCg
set_option autoImplicit false
namespace Mine
set_option maxRecDepth 100000
set_option maxHeartbeats 8000000
def runT {α : Type} (f : Nat → Nat → Bool) : KasT α → α
  | .ret a => a
  | .ask i j k => runT f (k (f i j))
def okT {α : Type} : KasT α → Bool
  | .ret _ => true
  | .ask i j k => decide (i < 3) && decide (j < 3) && okT (k true) && okT (k false)
theorem kas_run {α : Type} {cmp : Nat → Nat → (Bool → Shared → Prop) → Shared → Prop} {f : Nat → Nat → Bool} {s : Shared} {G : α → Shared → Prop} (h : ∀ i j C, i < 3 → j < 3 → C (f i j) s → cmp i j C s) : ∀ t : KasT α, okT t = true → G (runT f t) s → t.kasWp cmp G s
  | .ret a, _, hg => hg
  | .ask i j k, ho, hg => by
    simp only [okT, Bool.and_eq_true, decide_eq_true_eq] at ho
    refine h i j _ ho.1.1.1 ho.1.1.2 (kas_run h (k (f i j)) ?_ hg)
    cases f i j
    · exact ho.2
    · exact ho.1.2
def fT (a b c : Bool) (i j : Nat) : Bool := match i, j with
  | 1, 0 => a
  | 0, 1 => !a
  | 2, 1 => b
  | 1, 2 => !b
  | 2, 0 => c
  | 0, 2 => !c
  | _, _ => false
theorem sort_ok : okT (kas_sort 3) = true := by decide +kernel
theorem sort_run : runT (fT false false false) (kas_sort 3) = #[0, 1, 2] ∧ runT (fT false true false) (kas_sort 3) = #[0, 2, 1] ∧ runT (fT false true true) (kas_sort 3) = #[2, 0, 1] ∧ runT (fT true false false) (kas_sort 3) = #[1, 0, 2] ∧ runT (fT true false true) (kas_sort 3) = #[1, 2, 0] ∧ runT (fT true true true) (kas_sort 3) = #[2, 1, 0] := by decide +kernel
def c3 (a b c : Int) (i : Nat) : Int := match i with
  | 0 => a
  | 1 => b
  | _ => c
def lexlt (a b c : Int) (i j : Nat) : Bool := decide (c3 a b c i < c3 a b c j) || (decide (c3 a b c i = c3 a b c j) && decide (i < j))
theorem lex_fT (a b c : Int) : ∀ i j, i < 3 → j < 3 → lexlt a b c i j = fT (decide (b < a)) (decide (c < b)) (decide (c < a)) i j := by
  intro i j hi hj
  have hi' : i = 0 ∨ i = 1 ∨ i = 2 := by omega
  have hj' : j = 0 ∨ j = 1 ∨ j = 2 := by omega
  rcases hi' with rfl | rfl | rfl <;> rcases hj' with rfl | rfl | rfl <;> simp only [lexlt, c3, fT] <;> (try simp) <;> (try (rw [Bool.eq_iff_iff]; simp; omega))
end Mine
end
namespace Mine
theorem freshAtSort4 : True := by
  (try (walk1; fail))
  w_top off
  trivial
end Mine
section
open PySem PySem.W PySem.Calls PyProof.Rows PyProof.Rows.LCg
set_option autoImplicit false
namespace Mine
set_option maxRecDepth 100000
set_option maxHeartbeats 8000000
section
variable {w : World} {A : Around} {E : Value → Shared → Prop} {s : Shared} {h₀ : Heap} {L : Addr} {m : Str → Option Value} {news : Led}
theorem row_sorted {a b c : Int} {u0 u1 u2 : Tok} : IntsAre ((runT (fT (decide (b < a)) (decide (c < b)) (decide (c < a))) (kas_sort 3)).toList.map fun i => [Value.int 0 u0, .int 1 u1, .int 2 u2].getD i Value.none) (rowI (f3 a b c) 3) := by
  obtain ⟨r1, r2, r3, r4, r5, r6⟩ := sort_run
  by_cases hA : b < a <;> by_cases hB : c < b <;> by_cases hC : c < a
  all_goals simp only [hA, hB, hC, decide_true, decide_false]
  all_goals first
    | (exfalso; omega)
    | (first | rw [r1] | rw [r2] | rw [r3] | rw [r4] | rw [r5] | rw [r6])
  all_goals
    simp only [rowI, insL, f3]
    simp [hA, hB, hC]
    try exact .cons _ _ (.cons _ _ (.cons _ _ .nil))
theorem ask_lex {κ : SortKind} {T0 T1 T2 : Addr} {a b c : Int} {t0 t1 t2 u0 u1 u2 : Tok} {n0 n1 n2 : Nat} (g0 : s.heap.get? T0 = some (tupOf #[.int a t0, .int 0 u0] n0)) (g1 : s.heap.get? T1 = some (tupOf #[.int b t1, .int 1 u1] n1)) (g2 : s.heap.get? T2 = some (tupOf #[.int c t2, .int 2 u2] n2)) (hκ : κ = tuples' true)
    (i j : Nat) (C : Bool → Shared → Prop) (hi : i < 3) (hj : j < 3) (h : C (lexlt a b c i j) s) : kas_ask prg w A κ [.ref T0, .ref T1, .ref T2] i j C s := by
  subst hκ
  have core : ∀ {x y : Addr} {ci cj : Int} {p q : Int} {v v' z z' : Tok} {k l : Nat}, s.heap.get? x = some (tupOf #[.int ci v, .int p z] k) → s.heap.get? y = some (tupOf #[.int cj v', .int q z'] l) → C (decide (ci < cj) || (decide (ci = cj) && decide (p < q))) s → wpAny (model prg w) A (keyLt' (tuples' true) (.ref x) (.ref y)) C (fun _ _ => False) s := by
    intro x y ci cj p q v v' z z' k l hx hy hc
    refine kat_lt hx rfl hy rfl ?_
    show KatLex prg w A true false C [(.int ci v, .int cj v'), (.int p z, .int q z')] 0 s
    refine kat_cons (wpAny_eqBool_int ?_)
    by_cases e : ci = cj
    · have e1 : (ci == cj) = true := by simpa using e
      rw [e1]
      refine kat_yes (kat_cons (wpAny_eqBool_int ?_))
      subst e
      by_cases e2 : p = q
      · have e3 : (p == q) = true := by simpa using e2
        rw [e3]
        refine kat_yes (kat_nil ?_)
        subst e2
        simpa using hc
      · have e3 : (p == q) = false := by simpa using e2
        rw [e3]
        refine kat_no (kat_one _ _ ?_)
        refine wpAny_lt_int ?_
        show C (decide (p < q)) s
        simpa using hc
    · have e1 : (ci == cj) = false := by simpa using e
      rw [e1]
      refine kat_no (oneLt_int ?_)
      simpa [e] using hc
  have hi' : i = 0 ∨ i = 1 ∨ i = 2 := by omega
  have hj' : j = 0 ∨ j = 1 ∨ j = 2 := by omega
  unfold kas_ask
  rcases hi' with rfl | rfl | rfl <;> rcases hj' with rfl | rfl | rfl
  · exact core g0 g0 h
  · exact core g0 g1 h
  · exact core g0 g2 h
  · exact core g1 g0 h
  · exact core g1 g1 h
  · exact core g1 g2 h
  · exact core g2 g0 h
  · exact core g2 g1 h
  · exact core g2 g2 h
theorem sorted3 {l q : Addr} {a b c : Int} {u0 u1 u2 : Tok} {cl : Nat} {Q : Value → Shared → Prop} (F : Fr h₀ L s.heap m) (N : News h₀ L s.heap news) (hl : (l, PySem.W.listOf #[.int 0 u0, .int 1 u1, .int 2 u2] cl) ∈ news)
    (hkey : ∀ (k : Nat) (u : Tok) (s' : Shared) (news' : Led) (Q' : Value → Shared → Prop), k < 3 → Fr h₀ L s'.heap m → News h₀ L s'.heap news' → (∀ p ∈ news, p ∈ news') → (∀ T t' n h' tk', Fr h₀ L h' m → News h₀ L h' ((T, tupOf #[.int (c3 a b c k) t', .int k u] n) :: news') → (∀ q ∈ news', q.1 ≠ T) → Q' (.ref T) { s' with heap := h', toks := tk' }) →
      wpAny (model prg w) A.in1.in1 (call (.ref q) [.int k u]) Q' (fun _ _ => False) s')
    (h : ∀ D out n h' tk', Fr h₀ L h' m → News h₀ L h' ((D, PySem.W.listOf (List.toArray out) n) :: news) → (∀ q ∈ news, q.1 ≠ D) → IntsAre out (rowI (f3 a b c) 3) → Q (.ref D) { s with heap := h', toks := tk' }) :
    wpAny (model prg w) A (call (.builtin "sorted") [.ref l] [(Str.ofString "key", .ref q)]) Q E s := by
  refine kat_sortedK (vs := [.int 0 u0, .int 1 u1, .int 2 u2]) (b := false) (f := .ref q) F N ⟨_, (N _ hl).1, rfl, _, rfl⟩ (by show 2 ≤ 3; omega) (by show 3 < 64; omega) (ksk_s1 _ _) (fun x => ksk_l1 _ _) (fun x => ksk_t1 q x) fun D kS e1 h' F1 N1 l0 l1 => ?_
  have hkD : D ≠ kS := Nat.ne_of_lt l0
  have nD : ∀ p ∈ news, p.1 ≠ D := fun p hp => Nat.ne_of_lt (l1 p hp)
  have nk : ∀ p ∈ (D, seqObj "list" #[] e1) :: news, p.1 ≠ kS := fun p hp => by
    rcases List.mem_cons.mp hp with rfl | hp
    · exact hkD
    · exact Nat.ne_of_lt (Nat.lt_trans (l1 p hp) l0)
  refine KatKeys.cons (hkey 0 u0 _ _ _ (by omega) F1 N1 (fun p hp => .tail _ (.tail _ hp)) fun T0 t0 n0 h2 tk2 F2 N2 f2 => ?_)
  refine KatBack.intro F2 N2 (.tail (Ne.symm (f2 _ (.head _))) (.head nk)) fun h3 e3 F3 N3 => ?_
  refine KatKeys.cons (hkey 1 u1 _ _ _ (by omega) F3 N3 (fun p hp => .tail _ (.tail _ (.tail _ hp))) fun T1 t1 n1 h4 tk4 F4 N4 f4 => ?_)
  refine KatBack.intro F4 N4 (.tail (Ne.symm (f4 _ (.tail _ (.head _)))) (.tail (Ne.symm (f2 _ (.head _))) (.head nk))) fun h5 e5 F5 N5 => ?_
  refine KatKeys.cons (hkey 2 u2 _ _ _ (by omega) F5 N5 (fun p hp => .tail _ (.tail _ (.tail _ (.tail _ hp)))) fun T2 t2 n2 h6 tk6 F6 N6 f6 => ?_)
  refine KatBack.intro F6 N6 (.tail (Ne.symm (f6 _ (.tail _ (.tail _ (.head _))))) (.tail (Ne.symm (f4 _ (.tail _ (.head _)))) (.tail (Ne.symm (f2 _ (.head _))) (.head nk)))) fun h7 e7 F7 N7 => ?_
  refine KatKeys.nil ?_
  have g2 := (N7 _ (.head _)).1
  have g1 := (N7 _ (.tail _ (.head _))).1
  have g0 := (N7 _ (.tail _ (.tail _ (.head _)))).1
  refine kat_kind (T := .type "int") (fs := [.int (c3 a b c 0) t0, .int (c3 a b c 1) t1, .int (c3 a b c 2) t2]) (KatTups.cons g0 rfl rfl rfl (KatTups.cons g1 rfl rfl rfl (KatTups.cons g2 rfl rfl rfl KatTups.nil))) (by show 0 < 3; omega) ?ty (by decide) ?_
  case ty =>
    intro v hv
    simp only [List.mem_cons, List.not_mem_nil, or_false] at hv
    rcases hv with rfl | rfl | rfl <;> exact Looks.of_pure rfl
  refine kas_run (f := fT (decide (b < a)) (decide (c < b)) (decide (c < a))) (fun i j C hi hj hC => ask_lex (a := a) (b := b) (c := c) g0 g1 g2 (by rfl) i j C hi hj (by rw [lex_fT a b c i j hi hj]; exact hC)) (kas_sort 3) sort_ok ?_
  refine KatFin.intro F7 N7 (.tail (Ne.symm (f6 _ (.tail _ (.tail _ (.head _))))) (.tail (Ne.symm (f4 _ (.tail _ (.head _)))) (.tail (Ne.symm (f2 _ (.head _))) (.head nk)))) fun h8 e8 F8 N8 => ?_
  refine KasFin.intro F8 N8 (.tail (Ne.symm (f6 _ (.tail _ (.tail _ (.tail _ (.head _)))))) (.tail (Ne.symm (f4 _ (.tail _ (.tail _ (.head _))))) (.tail (Ne.symm (f2 _ (.tail _ (.head _)))) (.tail (Ne.symm hkD) (.head nD))))) fun h9 e9 F9 N9 => ?_
  refine h D _ e9 h9 _ F9 (news_sub N9 fun p hp => ?_) nD (row_sorted (a := a) (b := b) (c := c) (u0 := u0) (u1 := u1) (u2 := u2))
  rcases List.mem_cons.mp hp with rfl | hp
  · exact .tail _ (.tail _ (.tail _ (.tail _ (.head _))))
  · exact .tail _ (.tail _ (.tail _ (.tail _ (.tail _ hp))))
end
end Mine
end
namespace Mine
theorem freshAtZ3 : True := by
  (try (walk1; fail))
  w_top off
  trivial
end Mine
section
open PySem PySem.W PySem.Calls PyProof.Rows PyProof.Rows.LCg
set_option autoImplicit false
namespace Mine
set_option maxRecDepth 100000
set_option maxHeartbeats 8000000
theorem fillOfZ3 : PySem.Challenge.rw_rl0102_01 = PySem.Challenge.rw_rl0102_01 ∧ KK = KK := by
  k_fill
  exact ⟨rfl, rfl⟩
variable {w : World} {dp un : Nat} {fr : Option (List Env)} {gd : Option (List Code)} {s : Shared} {h₀ : Heap} {L fa : Addr} {m : Str → Option Value} {news : List (Addr × Obj)} {p : Program} {loose : List Str} {mean : ExcName → Option Value} {mg mb : Str → Option Value}

section
local macro_rules | `(tactic| walk_at "newTuple") => `(tactic| (refine hold ?_))
local macro_rules | `(tactic| walk_at "newTuple cons") => `(tactic| (refine hold ?_))
local macro_rules | `(tactic| walk_at "eval Name") => `(tactic| (k_here; k_dflt (first | (refine nameX_F (by k_asm) (by rfl) (by k_mem) (by assumption) ?_ (by rfl) (by rfl) (by decide) (by decide)) | (refine nameX_L (by k_asm) (by rfl) ?_ (by rfl) (by rfl) (by decide)))))
abbrev lclS (L : Addr) : List (Str × Addr) := [(Str.ofString "columns", L + 1 + 1 + 1 + 1)]
theorem key_S (X : (KK w.params).In h₀) (T : Top p loose mean mg mb h₀) {led : Led} (hl : ∀ p ∈ led, h₀.get? p.1 = none) {q c' : Addr} {pm ctv : Value} (ho : (q, kla_obj "<lambda>" lamq lamS.1 lamS.2.1 lamS.2.2.1 (lclS L) pm c' ctv) ∈ led) (hcd : CodeIn led lamq (.ref c'))
    {ac : Addr} {oc : Obj} (hoc : oc.data = .cell (some (.ref ac))) (hcm : (L + 1 + 1 + 1 + 1, oc) ∈ led) {a b c : Int} (hC : Cols led ac a b c)
    {dp un : Nat} {fr : Option (List Env)} {gd : Option (List Code)} {s : Shared} {Q : Value → Shared → Prop} {k : Nat} {u : Tok} (hP : Has (PLed h₀ led) s.heap) (hk : k < 3) (hdep : dp + 10 < recursionLimit) (hun : un + 100 < cLine)
    (ret : ∀ T t' n h' tk', Keeps s.heap h' → h'.get? T = some (tupOf #[.int (c3 a b c k) t', .int k u] n) → (∀ b o, s.heap.get? b = some o → b ≠ T) → Q (.ref T) { s with heap := h', toks := tk' }) :
    wpAny (model prg w) (mkA dp un fr gd) (call (.ref q) [.int k u]) Q (fun _ _ => False) s := by
  refine enterL (K := KK w.params) (binds := [(Str.ofString "one", .int k u)]) led hP hl X T ho hcd (by dsimp only [mkA]; omega) ?bi ?lo ?_ ?a1 ?a2 ?a3 ?a4
  case bi => exact rfl
  case lo => exact locs rfl
  case a1 => exact rfl
  case a2 => exact rfl
  case a3 => exact rfl
  case a4 => decide
  intro g L' h₁ F' N' X' T' hgk
  have N₀ : Hold (News g L' h₁ led) := N'
  obtain ⟨vs, n, hax, hi⟩ := hC
  rcases hi with _ | ⟨_, t0, hi⟩
  rcases hi with _ | ⟨_, t1, hi⟩
  rcases hi with _ | ⟨_, t2, hi⟩
  cases hi
  have hax' : (ac, PySem.W.listOf #[.int a t0, .int b t1, .int c t2] n) ∈ led := hax
  have N2 : News g L' h₁ [(L + 1 + 1 + 1 + 1, oc), (ac, PySem.W.listOf #[.int a t0, .int b t1, .int c t2] n)] := news_sub N' (List.forall_mem_cons.mpr ⟨hcm, List.forall_mem_cons.mpr ⟨hax', List.forall_mem_nil _⟩⟩)
  have kp : ∀ (h' : Heap) (m' : Str → Option Value), Fr g L' h' m' → News g L' h' led → Keeps s.heap h' := fun h' m' F1 N1 => keeps_of hgk (PLed.led hP) F1 N1 fun p hp => hp
  have kp0 := kp _ _ F' N'
  clear N' hgk
  show wpAny _ _ (eval (Expr.Tuple _ _ _) (envX _ (Scope.mk _ [(_, _), (_, _)] _ _ _) _ _ _ _)) _ _ _
  have hk' : k = 0 ∨ k = 1 ∨ k = 2 := by omega
  rcases hk' with rfl | rfl | rfl
  all_goals k_steps
  all_goals unfold Hold
  all_goals refine newTuple_N F' N₀ (fun h' F1 N1 => ?_) (by show 2 ≤ sizeLine; decide)
  all_goals exact ret _ _ _ _ _ (kp _ _ F1 fun p hp => N1 p (.tail _ hp)) (N1 _ (.head _)).1 (fun b o e => Nat.ne_of_lt (Heap.lt_size (kp0 b o e)))
end
end Mine
end
namespace Mine
theorem freshAtZ4 : True := by
  (try (walk1; fail))
  w_top off
  trivial
end Mine
section
open PySem PySem.W PySem.Calls PyProof.Rows PyProof.Rows.LCg
set_option autoImplicit false
namespace Mine
set_option maxRecDepth 100000
set_option maxHeartbeats 8000000
theorem fillOfZ4 : PySem.Challenge.rw_rl0102_01 = PySem.Challenge.rw_rl0102_01 ∧ KK = KK := by
  k_fill
  exact ⟨rfl, rfl⟩
variable {w : World} {dp un : Nat} {fr : Option (List Env)} {gd : Option (List Code)} {s : Shared} {h₀ : Heap} {L fa : Addr} {m : Str → Option Value} {news : List (Addr × Obj)} {p : Program} {loose : List Str} {mean : ExcName → Option Value} {mg mb : Str → Option Value}

section
local macro_rules | `(tactic| walk_at "eval Lambda") => `(tactic| (refine hold ?_))
local macro_rules | `(tactic| walk_at "call builtin") => `(tactic| (refine hold ?_))
local macro_rules | `(tactic| walk_at "call ref") => `(tactic| (refine hold ?_))
local macro_rules | `(tactic| walk_at "newList") => `(tactic| (refine hold ?_))
local macro_rules | `(tactic| walk_at "newList cons") => `(tactic| (refine hold ?_))
local macro_rules | `(tactic| walk_at "eval Name") => `(tactic| (k_here; k_dflt (refine nameX_L (by k_asm) (by assumption) ?_ (by rfl) (by rfl) (by decide))))
theorem s_row (X : (KK w.params).In h₀) (T : Top p loose mean mg mb h₀) (hdep : dp + 40 < recursionLimit) (hun : un + 300 < cLine) (F : Fr h₀ L s.heap m) (N : News h₀ L s.heap news) {Q : Flow → Shared → Prop} {E : Value → Shared → Prop}
    (ret : ∀ D h' tk', s.toks ≤ tk' → Fr h₀ L h' (setm m (Str.ofString "row") (.ref D)) → News h₀ L h' ((D, PySem.W.listOf #[] 0) :: news) → (∀ p ∈ news, p.1 ≠ D) → Q .next { s with heap := h', toks := tk' }) :
    wpAny (model prg w) (mkA dp un fr gd) (exec (nth sizeBody 2) (LE L fa)) Q E s := by
  refine wpAny_with_toks (n := s.toks) (Nat.le_refl _) ?_
  with_unfolding_all show wpAny _ _ (exec (Stmt.Assign [Expr.Name _ _] (Expr.List _ _) _) _) _ _ _
  k_steps
  unfold Hold
  refine newList_N F N (fun h' F' N' => ?_) (by show 0 ≤ sizeLine; decide)
  refine storeX_L F' N' (fun h2 F2 N2 => ?_) rfl (by with_unfolding_all rfl)
  intro htk
  exact ret _ h2 _ htk F2 N2 (fun p hp => Nat.ne_of_lt (Heap.lt_size (N p hp).1))
theorem s_sorted (X : (KK w.params).In h₀) (T : Top p loose mean mg mb h₀) (hdep : dp + 40 < recursionLimit) (hun : un + 300 < cLine) (CH : CodeHd h₀ 171 169) (F : Fr h₀ L s.heap m) {pre post led : Led} {ps : Array Value} (N : News h₀ L s.heap (pre ++ (169, tabObj ps) :: post)) (h1 : ∀ p ∈ pre, p.1 ≠ 169) (h2 : ∀ p ∈ post, p.1 ≠ 169) (K : TabOk led ps) (hKl : ∀ p ∈ led, p ∈ pre ++ post) {Q : Flow → Shared → Prop}
    {ra : Addr} {its : List Value} {cr : Nat} (hmr : m (Str.ofString "row") = some (.ref ra)) (hrow : (ra, PySem.W.listOf (List.toArray its) cr) ∈ pre ++ post) {ac : Addr} {oc : Obj} {a b c : Int} (hi : IntsAre its (rowI (f3 a b c) 3)) (hoc : oc.data = .cell (some (.ref ac))) (hcm : (L + 1 + 1 + 1 + 1, oc) ∈ pre ++ post) (hC : Cols (pre ++ post) ac a b c)
    (ret : ∀ ps' ex h' tk', s.toks ≤ tk' → Fr h₀ L h' m → News h₀ L h' (ex ++ (pre ++ (169, tabObj ps') :: post)) → Fresh ex (pre ++ (169, tabObj ps) :: post) → TabOk (ex ++ led) ps' → Q .next { s with heap := h', toks := tk' }) :
    wpAny (model prg w) (mkA dp un fr gd) (exec (nth sizeBody 4) (LE L fa)) Q (fun _ _ => False) s := by
  refine wpAny_with_toks (n := s.toks) (Nat.le_refl _) ?_
  have N₀ : Hold (News h₀ L s.heap (pre ++ (169, tabObj ps) :: post)) := N
  have N2 : News h₀ L s.heap [] := fun _ h => nomatch h
  clear N
  show wpAny _ _ (exec (Stmt.If (Expr.Compare _ _ [Expr.Call _ _ [⟨_, Expr.Lambda _ _ _ _, _⟩] _] _) _ _ _) _) _ _ _
  k_steps
  unfold Hold
  clear N2
  refine newList_N F N₀ (fun hA FA NA => ?_) (by show 3 ≤ sizeLine; decide)
  have fl : ∀ p ∈ pre ++ (169, tabObj ps) :: post, p.1 ≠ s.heap.objs.size := fun p hp => Nat.ne_of_lt (Heap.lt_size (N₀ p hp).1)
  revert NA
  generalize s.heap.objs.size = l at *
  intro NA
  have NA₀ : Hold (News h₀ L hA _) := NA
  have N2 : News h₀ L hA [] := fun _ h => nomatch h
  clear NA
  k_steps
  unfold Hold
  clear N2
  refine s_lam (clos := lclS L) (pre := (l, _) :: pre) (post := post) (ps := ps) FA NA₀ T CH (fun p hp => (List.mem_cons.mp hp).elim (fun e => e ▸ Ne.symm (fl _ (List.mem_append_right _ (.head _)))) fun hp => h1 p hp) h2 K (by rfl) (by rfl) ?_
  intro f c' ctv ps' ex h' tk' F' N' fr K' hf hcd
  have N₀' : Hold (News h₀ L h' _) := N'
  have N2 : News h₀ L h' [] := fun _ h => nomatch h
  clear N'
  k_steps
  show wpAny _ _ (call (.builtin "sorted") [.ref l] [(Str.ofString "key", .ref f)]) _ _ _
  have Nb : News h₀ L h' (ex ++ ((l, _) :: pre ++ (169, tabObj ps') :: post)) := N₀'
  have sub : ∀ p ∈ ex ++ (pre ++ post), p ∈ ex ++ ((l, PySem.W.listOf #[.int 0 s.toks, .int 1 (s.toks + 1), .int 2 (s.toks + 1 + 1)] 0) :: pre ++ (169, tabObj ps') :: post) := fun p hp => by
    rcases List.mem_append.mp hp with hp | hp
    · exact List.mem_append_left _ hp
    · rcases List.mem_append.mp hp with hp | hp
      · exact List.mem_append_right _ (.tail _ (List.mem_append_left _ hp))
      · exact List.mem_append_right _ (.tail _ (List.mem_append_right _ (.tail _ hp)))
  have subK : ∀ p ∈ ex ++ led, p ∈ ex ++ (pre ++ post) := fun p hp => (List.mem_append.mp hp).elim (fun hp => List.mem_append_left _ hp) fun hp => List.mem_append_right _ (hKl p hp)
  refine sorted3 (q := f) (a := a) (b := b) (c := c) F' Nb (List.mem_append_right _ (.head _)) ?_ ?_
  · intro k u s' news' Q' hk F2 N3 hsub ret2
    refine key_S (dp := dp) (un := un + 1 + 1) X T (led := ex ++ (pre ++ post)) (fun p hp => (Nb p (sub p hp)).2.2) (List.mem_append_left _ hf) (hcd.mono subK) hoc (List.mem_append_right _ hcm) (Nts.mono (fun p hp => List.mem_append_right _ hp) hC) (fun b o e => e.elim (fun e => F2.keep b o e) fun e => (N3 _ (hsub _ (sub _ e))).1) hk (by omega) (by omega) ?_
    intro T' t' n h2 tk2 kp e2 hfr
    obtain ⟨oL, _, _, hL, _⟩ := F2.ns
    refine ret2 T' t' n h2 tk2 (F2.keeps kp) (fun p hp => ?_) (fun q hq => hfr _ _ (N3 q hq).1)
    rcases List.mem_cons.mp hp with rfl | hp
    · refine ⟨e2, Ne.symm (hfr _ _ hL), ?_⟩
      cases e : h₀.get? T' with
      | none => rfl
      | some o => exact absurd rfl (hfr _ _ (F2.keep _ _ e))
    · exact ⟨kp _ _ (N3 p hp).1, (N3 p hp).2⟩
  intro D out n h3 tk3 F3 N3 fD hO
  refine ne_nts N3 ⟨its, cr, ?_, hi⟩ ⟨out, n, .head _, hO⟩ (by dsimp only [mkA]; omega) ?_
  · exact .tail _ (sub _ (List.mem_append_right _ hrow))
  rw [decide_eq_true rfl]
  refine wpAny_truthy_bool (wpAny_execs_nil ?_)
  intro htk
  refine ret ps' ((D, PySem.W.listOf (List.toArray out) n) :: (l, PySem.W.listOf #[.int 0 s.toks, .int 1 (s.toks + 1), .int 2 (s.toks + 1 + 1)] 0) :: ex) h3 tk3 htk F3 (news_sub N3 fun p hp => ?_) (fun p hp q hq => ?_) (K'.mono fun p hp => ?_)
  · rcases List.mem_append.mp hp with hp | hp
    · rcases List.mem_cons.mp hp with rfl | hp
      · exact .head _
      · rcases List.mem_cons.mp hp with rfl | hp
        · exact .tail _ (List.mem_append_right _ (.head _))
        · exact .tail _ (List.mem_append_left _ hp)
    · exact .tail _ (List.mem_append_right _ (.tail _ hp))
  · have hq' : q.1 = 169 ∨ q ∈ pre ++ post := by
      rcases List.mem_append.mp hq with hq | hq
      · exact .inr (List.mem_append_left _ hq)
      · rcases List.mem_cons.mp hq with rfl | hq
        · exact .inl rfl
        · exact .inr (List.mem_append_right _ hq)
    rcases List.mem_cons.mp hp with rfl | hp
    · rcases hq' with e | hq'
      · exact fun e' => fD (169, tabObj ps') (List.mem_append_right _ (.tail _ (List.mem_append_right _ (.head _)))) (e.symm.trans e')
      · exact fD _ (sub _ (List.mem_append_right _ hq'))
    · rcases List.mem_cons.mp hp with rfl | hp
      · exact fl q hq
      · exact fr p hp q (.tail _ hq)
  · rcases List.mem_append.mp hp with hp | hp
    · exact List.mem_append_left _ (.tail _ (.tail _ hp))
    · exact List.mem_append_right _ hp
end
end Mine
end
namespace Mine
theorem freshAtZ5 : True := by
  (try (walk1; fail))
  w_top off
  trivial
end Mine
section
open PySem PySem.W PySem.Calls PyProof.Rows PyProof.Rows.LCg
set_option autoImplicit false
namespace Mine
set_option maxRecDepth 100000
set_option maxHeartbeats 8000000
theorem fillOfZ5 : PySem.Challenge.rw_rl0102_01 = PySem.Challenge.rw_rl0102_01 ∧ KK = KK := by
  k_fill
  exact ⟨rfl, rfl⟩
variable {w : World} {dp un : Nat} {fr : Option (List Env)} {gd : Option (List Code)} {s : Shared} {h₀ : Heap} {L fa : Addr} {m : Str → Option Value} {news : List (Addr × Obj)} {p : Program} {loose : List Str} {mean : ExcName → Option Value} {mg mb : Str → Option Value}

section
local macro_rules | `(tactic| walk_at "eval Lambda") => `(tactic| (refine hold ?_))
local macro_rules | `(tactic| walk_at "call ref") => `(tactic| (refine hold ?_))
local macro_rules | `(tactic| walk_at "eval Name") => `(tactic| (k_here; k_dflt (first | (refine nameX_C (by k_asm) (by rfl) (by k_mem) (by assumption) ?_ (by rfl) (by rfl) (by decide)) | (refine nameX_L (by k_asm) (by assumption) ?_ (by rfl) (by rfl) (by decide)))))

theorem s_low (X : (KK w.params).In h₀) (T : Top p loose mean mg mb h₀) (hdep : dp + 40 < recursionLimit) (hun : un + 300 < cLine) (CH : CodeHd h₀ 171 169) (F : Fr h₀ L s.heap m) {pre post led : Led} {ps : Array Value} {ra : Addr} {its : List Value} {cr : Nat} (N : News h₀ L s.heap ((ra, PySem.W.listOf (List.toArray its) cr) :: (pre ++ (169, tabObj ps) :: post))) (h1 : ∀ p ∈ pre, p.1 ≠ 169 ∧ p.1 ≠ ra) (h2 : ∀ p ∈ post, p.1 ≠ 169 ∧ p.1 ≠ ra) (h3 : ra ≠ 169) (K : TabOk led ps) (hKl : ∀ p ∈ led, p ∈ pre ++ post) {Q : Flow → Shared → Prop} {E : Value → Shared → Prop}
    (hmr : m (Str.ofString "row") = some (.ref ra)) {k0 k1 k2 : Int} (hi : IntsAre its [k0, k1, k2]) (b0 : 0 ≤ k0 ∧ k0 < 3) (b1 : 0 ≤ k1 ∧ k1 < 3) (b2 : 0 ≤ k2 ∧ k2 < 3)
    {ac : Addr} {oc : Obj} {a b c : Int} (hoc : oc.data = .cell (some (.ref ac))) (hcm : (L + 1 + 1 + 1 + 1, oc) ∈ pre ++ post) (hC : Cols (pre ++ post) ac a b c)
    {ad : Addr} {ol oz : Obj} {sz : Int} {tz : Tok} (hol : ol.data = .cell (some (.ref ad))) (hlm : (L + 1 + 1 + 1 + 1 + 1, ol) ∈ pre ++ post) (hoz : oz.data = .cell (some (.int sz tz))) (hzm : (L + 1 + 1 + 1, oz) ∈ pre ++ post) (hz : 1 ≤ sz ∧ sz ≤ 9)
    {q0 q1 q2 : WS} (hL : Leads (pre ++ post) ad q0 q1 q2) (bq : (q0.1.length ≤ 9 ∧ (∀ c ∈ q0.1, 0 ≤ c ∧ c ≤ 60)) ∧ (q1.1.length ≤ 9 ∧ (∀ c ∈ q1.1, 0 ≤ c ∧ c ≤ 60)) ∧ (q2.1.length ≤ 9 ∧ (∀ c ∈ q2.1, 0 ≤ c ∧ c ≤ 60))) {f : Int → Int} (hf3 : f = f3 (indF q0.1 q0.2.1 q0.2.2.2 sz) (indF q1.1 q1.2.1 q1.2.2.2 sz) (indF q2.1 q2.2.1 q2.2.2.2 sz))
    (ret : ∀ t' ps' ex h' tk', s.toks ≤ tk' → Fr h₀ L h' (setm m (Str.ofString "low") (.int (if f k1 < a then (if f k2 < a then 3 else 2) else (if f k0 < a then 1 else 0)) t')) → News h₀ L h' (ex ++ ((ra, PySem.W.listOf (List.toArray its) cr) :: (pre ++ (169, tabObj ps') :: post))) → Fresh ex ((ra, PySem.W.listOf (List.toArray its) cr) :: (pre ++ (169, tabObj ps) :: post)) → TabOk (ex ++ led) ps' → Q .next { s with heap := h', toks := tk' }) :
    wpAny (model prg w) (mkA dp un fr gd) (exec (nth sizeBody 5) (LE L fa)) Q E s := by
  subst hf3
  refine wpAny_with_toks (n := s.toks) (Nat.le_refl _) ?_
  rcases hi with _ | ⟨_, t0, hi⟩
  rcases hi with _ | ⟨_, t1, hi⟩
  rcases hi with _ | ⟨_, t2, hi⟩
  cases hi
  obtain ⟨vs, n, hax, hi⟩ := hC
  rcases hi with _ | ⟨_, u0, hi⟩
  rcases hi with _ | ⟨_, u1, hi⟩
  rcases hi with _ | ⟨_, u2, hi⟩
  cases hi
  have hax' : (ac, PySem.W.listOf #[.int a u0, .int b u1, .int c u2] n) ∈ pre ++ post := hax
  have N₀ : Hold (News h₀ L s.heap ((ra, PySem.W.listOf (List.toArray [.int k0 t0, .int k1 t1, .int k2 t2]) cr) :: (pre ++ (169, tabObj ps) :: post))) := N
  have up : ∀ p ∈ pre ++ post, p ∈ (ra, PySem.W.listOf (List.toArray [.int k0 t0, .int k1 t1, .int k2 t2]) cr) :: (pre ++ (169, tabObj ps) :: post) := fun p hp => .tail _ ((List.mem_append.mp hp).elim (fun hp => List.mem_append_left _ hp) fun hp => List.mem_append_right _ (.tail _ hp))
  have N2 : News h₀ L s.heap [(L + 1 + 1 + 1 + 1, oc), (ac, PySem.W.listOf #[.int a u0, .int b u1, .int c u2] n)] := news_sub N (List.forall_mem_cons.mpr ⟨up _ hcm, List.forall_mem_cons.mpr ⟨up _ hax', List.forall_mem_nil _⟩⟩)
  clear N
  show wpAny _ _ (exec (Stmt.Assign [Expr.Name _ _] (Expr.Call _ _ [⟨_, Expr.Lambda _ _ _ _, _⟩] _) _) _) _ _ _
  k_steps
  unfold Hold
  clear N2
  refine s_lam (clos := lcl2 L) (pre := (ra, PySem.W.listOf (List.toArray [.int k0 t0, .int k1 t1, .int k2 t2]) cr) :: pre) (post := post) (ps := ps) F (show News h₀ L s.heap ((ra, PySem.W.listOf (List.toArray [.int k0 t0, .int k1 t1, .int k2 t2]) cr) :: (pre ++ (169, tabObj ps) :: post)) from N₀) T CH (fun p hp => (List.mem_cons.mp hp).elim (fun e => e ▸ h3) fun hp => (h1 p hp).1) (fun p hp => (h2 p hp).1) K (by rfl) (by rfl) ?_
  intro f c' ctv ps' ex h' tk' F' N' fr K' hf hcd
  have N₀' : Hold (News h₀ L h' _) := N'
  have N2 : News h₀ L h' [] := fun _ h => nomatch h
  clear N'
  k_steps
  unfold Hold
  have N' : News h₀ L h' (ex ++ ((ra, PySem.W.listOf (List.toArray [.int k0 t0, .int k1 t1, .int k2 t2]) cr) :: pre ++ (169, tabObj ps') :: post)) := N₀'
  have hra : h₀.get? ra = none := (show News h₀ L s.heap ((ra, PySem.W.listOf (List.toArray [.int k0 t0, .int k1 t1, .int k2 t2]) cr) :: (pre ++ (169, tabObj ps) :: post)) from N₀).fresh (.head _)
  have fr1 : ∀ p ∈ ex, ra ≠ p.1 := fun p hp => fr p hp _ (.head _)
  have Nl : ∀ p ∈ ex ++ (pre ++ post), p ∈ ex ++ ((ra, PySem.W.listOf (List.toArray [.int k0 t0, .int k1 t1, .int k2 t2]) cr) :: pre ++ (169, tabObj ps') :: post) ∧ p.1 ≠ ra := fun p hp => by
    rcases List.mem_append.mp hp with hp | hp
    · exact ⟨List.mem_append_left _ hp, Ne.symm (fr1 p hp)⟩
    · rcases List.mem_append.mp hp with hp | hp
      · exact ⟨List.mem_append_right _ (.tail _ (List.mem_append_left _ hp)), (h1 p hp).2⟩
      · exact ⟨List.mem_append_right _ (.tail _ (List.mem_append_right _ (.tail _ hp))), (h2 p hp).2⟩
  have key := key_L X T (led := ex ++ (pre ++ post)) (fun p hp => (N' p (Nl p hp).1).2.2) (q := f) (c' := c') (List.mem_append_left _ hf) (hcd.mono fun p hp => (List.mem_append.mp hp).elim (fun hp => List.mem_append_left _ hp) fun hp => List.mem_append_right _ (hKl p hp)) hol (List.mem_append_right _ hlm) hoz (List.mem_append_right _ hzm) hz (hL.mono fun p hp => List.mem_append_right _ hp) bq
  have hPl : Has (PLed h₀ (ex ++ (pre ++ post))) h' := fun b o e => e.elim (fun e => F'.keep b o e) fun e => (N' _ (Nl _ e).1).1
  refine wpAny_call (c_bisL3 (B := h₀) (by exact F'.keep) X T (by omega) (by omega) (by exact (N' _ (List.mem_append_right _ (.head _))).1) hra key (by exact hPl) (fun o e => e.elim (fun e => by rw [hra] at e; cases e) fun e => (Nl _ e).2 rfl) (by exact ⟨_, _, _, _, (N' _ (List.mem_append_left _ hf)).1⟩) (fun e => fr1 _ hf e.symm) b0.1 b0.2 b1.1 b1.2 b2.1 b2.2 ?_)
  intro t' h2 tk2 kp
  refine storeX_L (h₀ := h₀) (F'.keeps kp) (fun p hp => ⟨kp _ _ (N' p hp).1, (N' p hp).2⟩ : News h₀ L h2 _) (fun h3 F3 N3 => ?_) rfl (by with_unfolding_all rfl)
  intro htk
  exact ret t' ps' ex h3 _ htk F3 N3 fr K'

theorem s_high (X : (KK w.params).In h₀) (T : Top p loose mean mg mb h₀) (hdep : dp + 40 < recursionLimit) (hun : un + 300 < cLine) (CH : CodeHd h₀ 171 169) (F : Fr h₀ L s.heap m) {pre post led : Led} {ps : Array Value} {ra : Addr} {its : List Value} {cr : Nat} (N : News h₀ L s.heap ((ra, PySem.W.listOf (List.toArray its) cr) :: (pre ++ (169, tabObj ps) :: post))) (h1 : ∀ p ∈ pre, p.1 ≠ 169 ∧ p.1 ≠ ra) (h2 : ∀ p ∈ post, p.1 ≠ 169 ∧ p.1 ≠ ra) (h3 : ra ≠ 169) (K : TabOk led ps) (hKl : ∀ p ∈ led, p ∈ pre ++ post) {Q : Flow → Shared → Prop} {E : Value → Shared → Prop}
    (hmr : m (Str.ofString "row") = some (.ref ra)) {k0 k1 k2 : Int} (hi : IntsAre its [k0, k1, k2]) (b0 : 0 ≤ k0 ∧ k0 < 3) (b1 : 0 ≤ k1 ∧ k1 < 3) (b2 : 0 ≤ k2 ∧ k2 < 3)
    {ac : Addr} {oc : Obj} {a b c : Int} (hoc : oc.data = .cell (some (.ref ac))) (hcm : (L + 1 + 1 + 1 + 1, oc) ∈ pre ++ post) (hC : Cols (pre ++ post) ac a b c)
    {ad : Addr} {ol oz : Obj} {sz : Int} {tz : Tok} (hol : ol.data = .cell (some (.ref ad))) (hlm : (L + 1 + 1 + 1 + 1 + 1, ol) ∈ pre ++ post) (hoz : oz.data = .cell (some (.int sz tz))) (hzm : (L + 1 + 1 + 1, oz) ∈ pre ++ post) (hz : 1 ≤ sz ∧ sz ≤ 9)
    {q0 q1 q2 : WS} (hL : Leads (pre ++ post) ad q0 q1 q2) (bq : (q0.1.length ≤ 9 ∧ (∀ c ∈ q0.1, 0 ≤ c ∧ c ≤ 60)) ∧ (q1.1.length ≤ 9 ∧ (∀ c ∈ q1.1, 0 ≤ c ∧ c ≤ 60)) ∧ (q2.1.length ≤ 9 ∧ (∀ c ∈ q2.1, 0 ≤ c ∧ c ≤ 60))) {f : Int → Int} (hf3 : f = f3 (indF q0.1 q0.2.1 q0.2.2.2 sz) (indF q1.1 q1.2.1 q1.2.2.2 sz) (indF q2.1 q2.2.1 q2.2.2.2 sz))
    (ret : ∀ t' ps' ex h' tk', s.toks ≤ tk' → Fr h₀ L h' (setm m (Str.ofString "high") (.int (if a < f k1 then (if a < f k0 then 0 else 1) else (if a < f k2 then 2 else 3)) t')) → News h₀ L h' (ex ++ ((ra, PySem.W.listOf (List.toArray its) cr) :: (pre ++ (169, tabObj ps') :: post))) → Fresh ex ((ra, PySem.W.listOf (List.toArray its) cr) :: (pre ++ (169, tabObj ps) :: post)) → TabOk (ex ++ led) ps' → Q .next { s with heap := h', toks := tk' }) :
    wpAny (model prg w) (mkA dp un fr gd) (exec (nth sizeBody 6) (LE L fa)) Q E s := by
  subst hf3
  refine wpAny_with_toks (n := s.toks) (Nat.le_refl _) ?_
  rcases hi with _ | ⟨_, t0, hi⟩
  rcases hi with _ | ⟨_, t1, hi⟩
  rcases hi with _ | ⟨_, t2, hi⟩
  cases hi
  obtain ⟨vs, n, hax, hi⟩ := hC
  rcases hi with _ | ⟨_, u0, hi⟩
  rcases hi with _ | ⟨_, u1, hi⟩
  rcases hi with _ | ⟨_, u2, hi⟩
  cases hi
  have hax' : (ac, PySem.W.listOf #[.int a u0, .int b u1, .int c u2] n) ∈ pre ++ post := hax
  have N₀ : Hold (News h₀ L s.heap ((ra, PySem.W.listOf (List.toArray [.int k0 t0, .int k1 t1, .int k2 t2]) cr) :: (pre ++ (169, tabObj ps) :: post))) := N
  have up : ∀ p ∈ pre ++ post, p ∈ (ra, PySem.W.listOf (List.toArray [.int k0 t0, .int k1 t1, .int k2 t2]) cr) :: (pre ++ (169, tabObj ps) :: post) := fun p hp => .tail _ ((List.mem_append.mp hp).elim (fun hp => List.mem_append_left _ hp) fun hp => List.mem_append_right _ (.tail _ hp))
  have N2 : News h₀ L s.heap [(L + 1 + 1 + 1 + 1, oc), (ac, PySem.W.listOf #[.int a u0, .int b u1, .int c u2] n)] := news_sub N (List.forall_mem_cons.mpr ⟨up _ hcm, List.forall_mem_cons.mpr ⟨up _ hax', List.forall_mem_nil _⟩⟩)
  clear N
  show wpAny _ _ (exec (Stmt.Assign [Expr.Name _ _] (Expr.Call _ _ [⟨_, Expr.Lambda _ _ _ _, _⟩] _) _) _) _ _ _
  k_steps
  unfold Hold
  clear N2
  refine s_lam (clos := lcl2 L) (pre := (ra, PySem.W.listOf (List.toArray [.int k0 t0, .int k1 t1, .int k2 t2]) cr) :: pre) (post := post) (ps := ps) F (show News h₀ L s.heap ((ra, PySem.W.listOf (List.toArray [.int k0 t0, .int k1 t1, .int k2 t2]) cr) :: (pre ++ (169, tabObj ps) :: post)) from N₀) T CH (fun p hp => (List.mem_cons.mp hp).elim (fun e => e ▸ h3) fun hp => (h1 p hp).1) (fun p hp => (h2 p hp).1) K (by rfl) (by rfl) ?_
  intro f c' ctv ps' ex h' tk' F' N' fr K' hf hcd
  have N₀' : Hold (News h₀ L h' _) := N'
  have N2 : News h₀ L h' [] := fun _ h => nomatch h
  clear N'
  k_steps
  unfold Hold
  have N' : News h₀ L h' (ex ++ ((ra, PySem.W.listOf (List.toArray [.int k0 t0, .int k1 t1, .int k2 t2]) cr) :: pre ++ (169, tabObj ps') :: post)) := N₀'
  have hra : h₀.get? ra = none := (show News h₀ L s.heap ((ra, PySem.W.listOf (List.toArray [.int k0 t0, .int k1 t1, .int k2 t2]) cr) :: (pre ++ (169, tabObj ps) :: post)) from N₀).fresh (.head _)
  have fr1 : ∀ p ∈ ex, ra ≠ p.1 := fun p hp => fr p hp _ (.head _)
  have Nl : ∀ p ∈ ex ++ (pre ++ post), p ∈ ex ++ ((ra, PySem.W.listOf (List.toArray [.int k0 t0, .int k1 t1, .int k2 t2]) cr) :: pre ++ (169, tabObj ps') :: post) ∧ p.1 ≠ ra := fun p hp => by
    rcases List.mem_append.mp hp with hp | hp
    · exact ⟨List.mem_append_left _ hp, Ne.symm (fr1 p hp)⟩
    · rcases List.mem_append.mp hp with hp | hp
      · exact ⟨List.mem_append_right _ (.tail _ (List.mem_append_left _ hp)), (h1 p hp).2⟩
      · exact ⟨List.mem_append_right _ (.tail _ (List.mem_append_right _ (.tail _ hp))), (h2 p hp).2⟩
  have key := key_R X T (led := ex ++ (pre ++ post)) (fun p hp => (N' p (Nl p hp).1).2.2) (q := f) (c' := c') (List.mem_append_left _ hf) (hcd.mono fun p hp => (List.mem_append.mp hp).elim (fun hp => List.mem_append_left _ hp) fun hp => List.mem_append_right _ (hKl p hp)) hol (List.mem_append_right _ hlm) hoz (List.mem_append_right _ hzm) hz (hL.mono fun p hp => List.mem_append_right _ hp) bq
  have hPl : Has (PLed h₀ (ex ++ (pre ++ post))) h' := fun b o e => e.elim (fun e => F'.keep b o e) fun e => (N' _ (Nl _ e).1).1
  refine wpAny_call (c_bisR3 (B := h₀) (by exact F'.keep) X T (by omega) (by omega) (by exact (N' _ (List.mem_append_right _ (.head _))).1) hra key (by exact hPl) (fun o e => e.elim (fun e => by rw [hra] at e; cases e) fun e => (Nl _ e).2 rfl) (by exact ⟨_, _, _, _, (N' _ (List.mem_append_left _ hf)).1⟩) (fun e => fr1 _ hf e.symm) b0.1 b0.2 b1.1 b1.2 b2.1 b2.2 ?_)
  intro t' h2 tk2 kp
  refine storeX_L (h₀ := h₀) (F'.keeps kp) (fun p hp => ⟨kp _ _ (N' p hp).1, (N' p hp).2⟩ : News h₀ L h2 _) (fun h3 F3 N3 => ?_) rfl (by with_unfolding_all rfl)
  intro htk
  exact ret t' ps' ex h3 _ htk F3 N3 fr K'
end
end Mine
end
namespace Mine
theorem freshAtZ6 : True := by
  (try (walk1; fail))
  w_top off
  trivial
end Mine
section
open PySem PySem.W PySem.Calls PyProof.Rows PyProof.Rows.LCg
set_option autoImplicit false
namespace Mine
set_option maxRecDepth 100000
set_option maxHeartbeats 8000000
theorem fillOfZ6 : PySem.Challenge.rw_rl0102_01 = PySem.Challenge.rw_rl0102_01 ∧ KK = KK := by
  k_fill
  exact ⟨rfl, rfl⟩
variable {w : World} {dp un : Nat} {fr : Option (List Env)} {gd : Option (List Code)} {s : Shared} {h₀ : Heap} {L fa : Addr} {m : Str → Option Value} {news : List (Addr × Obj)} {p : Program} {loose : List Str} {mean : ExcName → Option Value} {mg mb : Str → Option Value}

section
local macro_rules | `(tactic| walk_at "eval ListComp") => `(tactic| (refine hold ?_))
local macro_rules | `(tactic| walk_at "call builtin") => `(tactic| (refine hold ?_))

def cntE (i : Nat) : Expr := match valOf (nth sizeBody 7) with
  | .BoolOp _ l _ => argOf (rhsOf (l.getD i (.Constant .none 0 ⟨0,0,0,0⟩)))
  | e => e
def testOf : Expr → Expr
  | .ListComp _ [⟨_, _, [t], _⟩] _ _ => t
  | e => e

theorem t_cnt0 (X : (KK w.params).In h₀) (T : Top p loose mean mg mb h₀) (hdep : dp + 40 < recursionLimit) (hun : un + 300 < cLine) (F : Fr h₀ L s.heap m) (N : News h₀ L s.heap news) {Q E : Value → Shared → Prop} {ac : Addr} {oc : Obj} {a b c : Int} (hoc : oc.data = .cell (some (.ref ac))) (hcm : (L + 1 + 1 + 1 + 1, oc) ∈ news) (hC : Cols news ac a b c)
    (ret : ∀ D (ys : List Value) h' tk', Fr h₀ L h' m → News h₀ L h' news → h'.IsList D ys.toArray → ys.length = ([a, b, c].filter fun x => decide (x < a)).length → Q (.ref D) { s with heap := h', toks := tk' }) :
    wpAny (model prg w) (mkA dp un fr gd) (eval (cntE 0) (LE L fa)) Q E s := by
  obtain ⟨vs, n, hax, hi⟩ := hC
  rcases hi with _ | ⟨_, u0, hi⟩
  rcases hi with _ | ⟨_, u1, hi⟩
  rcases hi with _ | ⟨_, u2, hi⟩
  cases hi
  have hax' : (ac, PySem.W.listOf #[.int a u0, .int b u1, .int c u2] n) ∈ news := hax
  clear hax
  with_unfolding_all show wpAny _ _ (eval (Expr.ListComp _ [⟨Expr.Name _ _, _, [_], 0⟩] _ _) _) _ _ _
  refine ListComp_DC (K := ItemKind.int) (pz := fun x => decide (x < a)) (d := PyData.int) (h₀ := h₀) (L := L) (m := m) (news := news) (cl := [((Str.ofString "columns"), L + 1 + 1 + 1 + 1)]) rfl (by with_unfolding_all rfl) (by decide) rfl (by decide) rfl ?_ (by intro _; rfl)
  refine nameX_C (c := L + 1 + 1 + 1 + 1) N (by with_unfolding_all rfl) hcm hoc ?_ rfl (by with_unfolding_all rfl) (by decide)
  refine ⟨ac, [.int a u0, .int b u1, .int c u2], [a, b, c], rfl, ⟨_, (N _ hax').1, rfl, _, rfl⟩, .cons ⟨_, rfl⟩ (.cons ⟨_, rfl⟩ (.cons ⟨_, rfl⟩ .nil)), by show 3 ≤ sizeLine; decide, F, N, ?_, ?_, ?_⟩
  · intro C x v s₂ m₂ E' hx hv hn hm hk
    obtain ⟨tv, rfl⟩ := hv
    refine wpAny_tests_one ?_
    refine wpAny_isTrue_Compare1 ?_
    refine wpAny_Name (wpAny_loadName_local rfl rfl hn hm ?_) (by decide)
    have F2 : Fr h₀ L s₂.heap m := F.keeps hk
    have N2 : News h₀ L s₂.heap [(L + 1 + 1 + 1 + 1, oc), (ac, PySem.W.listOf #[.int a u0, .int b u1, .int c u2] n)] := by
      have N3 := news_sub (l' := [(L + 1 + 1 + 1 + 1, oc), (ac, PySem.W.listOf #[.int a u0, .int b u1, .int c u2] n)]) N (List.forall_mem_cons.mpr ⟨hcm, List.forall_mem_cons.mpr ⟨hax', List.forall_mem_nil _⟩⟩)
      exact fun p hp => ⟨hk _ _ (N3 p hp).1, (N3 p hp).2⟩
    clear F N hn
    k_steps
    all_goals exact ⟨_, _, rfl, fun _ _ e => e⟩
  · intro C x v s₂ m₂ E' hx hv hb hn hm hk
    obtain ⟨tv, rfl⟩ := hv
    exact wpAny_Name (wpAny_loadName_local rfl rfl hn hm ⟨.int _ _, _, _, rfl, fun _ _ e => e⟩) (by decide)
  · intro D ys h' tk F' N' h0 hl hc
    refine ret D ys h' tk F' N' hl ?_
    have z : ∀ {l : List Value} {d : List PyData}, CarriedAll l d → l.length = d.length := fun h => by
      induction h with
      | nil => rfl
      | cons _ _ ih => simp [ih]
    rw [z hc, List.length_map]

theorem t_cnt1 (X : (KK w.params).In h₀) (T : Top p loose mean mg mb h₀) (hdep : dp + 40 < recursionLimit) (hun : un + 300 < cLine) (F : Fr h₀ L s.heap m) (N : News h₀ L s.heap news) {Q E : Value → Shared → Prop} {ac : Addr} {oc : Obj} {a b c : Int} (hoc : oc.data = .cell (some (.ref ac))) (hcm : (L + 1 + 1 + 1 + 1, oc) ∈ news) (hC : Cols news ac a b c)
    (ret : ∀ D (ys : List Value) h' tk', Fr h₀ L h' m → News h₀ L h' news → h'.IsList D ys.toArray → ys.length = ([a, b, c].filter fun x => decide (x ≤ a)).length → Q (.ref D) { s with heap := h', toks := tk' }) :
    wpAny (model prg w) (mkA dp un fr gd) (eval (cntE 1) (LE L fa)) Q E s := by
  obtain ⟨vs, n, hax, hi⟩ := hC
  rcases hi with _ | ⟨_, u0, hi⟩
  rcases hi with _ | ⟨_, u1, hi⟩
  rcases hi with _ | ⟨_, u2, hi⟩
  cases hi
  have hax' : (ac, PySem.W.listOf #[.int a u0, .int b u1, .int c u2] n) ∈ news := hax
  clear hax
  with_unfolding_all show wpAny _ _ (eval (Expr.ListComp _ [⟨Expr.Name _ _, _, [_], 0⟩] _ _) _) _ _ _
  refine ListComp_DC (K := ItemKind.int) (pz := fun x => decide (x ≤ a)) (d := PyData.int) (h₀ := h₀) (L := L) (m := m) (news := news) (cl := [((Str.ofString "columns"), L + 1 + 1 + 1 + 1)]) rfl (by with_unfolding_all rfl) (by decide) rfl (by decide) rfl ?_ (by intro _; rfl)
  refine nameX_C (c := L + 1 + 1 + 1 + 1) N (by with_unfolding_all rfl) hcm hoc ?_ rfl (by with_unfolding_all rfl) (by decide)
  refine ⟨ac, [.int a u0, .int b u1, .int c u2], [a, b, c], rfl, ⟨_, (N _ hax').1, rfl, _, rfl⟩, .cons ⟨_, rfl⟩ (.cons ⟨_, rfl⟩ (.cons ⟨_, rfl⟩ .nil)), by show 3 ≤ sizeLine; decide, F, N, ?_, ?_, ?_⟩
  · intro C x v s₂ m₂ E' hx hv hn hm hk
    obtain ⟨tv, rfl⟩ := hv
    refine wpAny_tests_one ?_
    refine wpAny_isTrue_Compare1 ?_
    refine wpAny_Name (wpAny_loadName_local rfl rfl hn hm ?_) (by decide)
    have F2 : Fr h₀ L s₂.heap m := F.keeps hk
    have N2 : News h₀ L s₂.heap [(L + 1 + 1 + 1 + 1, oc), (ac, PySem.W.listOf #[.int a u0, .int b u1, .int c u2] n)] := by
      have N3 := news_sub (l' := [(L + 1 + 1 + 1 + 1, oc), (ac, PySem.W.listOf #[.int a u0, .int b u1, .int c u2] n)]) N (List.forall_mem_cons.mpr ⟨hcm, List.forall_mem_cons.mpr ⟨hax', List.forall_mem_nil _⟩⟩)
      exact fun p hp => ⟨hk _ _ (N3 p hp).1, (N3 p hp).2⟩
    clear F N hn
    k_steps
    all_goals exact ⟨_, _, rfl, fun _ _ e => e⟩
  · intro C x v s₂ m₂ E' hx hv hb hn hm hk
    obtain ⟨tv, rfl⟩ := hv
    exact wpAny_Name (wpAny_loadName_local rfl rfl hn hm ⟨.int _ _, _, _, rfl, fun _ _ e => e⟩) (by decide)
  · intro D ys h' tk F' N' h0 hl hc
    refine ret D ys h' tk F' N' hl ?_
    have z : ∀ {l : List Value} {d : List PyData}, CarriedAll l d → l.length = d.length := fun h => by
      induction h with
      | nil => rfl
      | cons _ _ ih => simp [ih]
    rw [z hc, List.length_map]

local macro_rules | `(tactic| walk_at "eval Name") => `(tactic| (k_here; k_dflt (refine nameX_L (by k_asm) (by assumption) ?_ (by rfl) (by rfl) (by decide))))

theorem s_cnt (X : (KK w.params).In h₀) (T : Top p loose mean mg mb h₀) (hdep : dp + 40 < recursionLimit) (hun : un + 300 < cLine) (F : Fr h₀ L s.heap m) (N : News h₀ L s.heap news) {Q : Flow → Shared → Prop} {E : Value → Shared → Prop} {ac : Addr} {oc : Obj} {a b c : Int} (hoc : oc.data = .cell (some (.ref ac))) (hcm : (L + 1 + 1 + 1 + 1, oc) ∈ news) (hC : Cols news ac a b c)
    {lo hi : Int} {tl th : Tok} (hml : m (Str.ofString "low") = some (.int lo tl)) (hmh : m (Str.ofString "high") = some (.int hi th)) (el : lo = (([a, b, c].filter fun x => decide (x < a)).length : Int)) (eh : hi = (([a, b, c].filter fun x => decide (x ≤ a)).length : Int))
    (ret : ∀ h' tk', s.toks ≤ tk' → Fr h₀ L h' m → News h₀ L h' news → Q .next { s with heap := h', toks := tk' }) :
    wpAny (model prg w) (mkA dp un fr gd) (exec (nth sizeBody 7) (LE L fa)) Q E s := by
  refine wpAny_with_toks (n := s.toks) (Nat.le_refl _) ?_
  have hsm : ∀ p : Int → Bool, (([a, b, c].filter p).length : Int) < 2 ^ 63 := fun p => by
    have := List.length_filter_le p [a, b, c]
    simp only [List.length_cons, List.length_nil] at this
    omega
  show wpAny _ _ (exec (Stmt.If (Expr.BoolOp _ [Expr.Compare (Expr.Name _ _) [_] [Expr.Call _ [Expr.ListComp _ _ _ _] _ _] _, Expr.Compare (Expr.Name _ _) [_] [Expr.Call _ [Expr.ListComp _ _ _ _] _ _] _] _) _ _ _) _) _ _ _
  k_steps
  unfold Hold
  refine t_cnt0 X T hdep hun F N hoc hcm hC fun D ys h1 tk1 F1 N1 hl1 e1 => ?_
  have z1 : ((ys.toArray.size : Nat) : Int) = lo := by rw [List.size_toArray, e1, el]
  clear F
  k_steps
  refine len_list hl1 (by rw [z1, el]; exact hsm _) ?_
  rw [z1]
  k_steps
  · exfalso
    exact (by assumption : lo ≠ lo) rfl
  unfold Hold
  refine t_cnt1 X T hdep hun F1 N1 hoc hcm hC fun D ys h2 tk2 F2 N2 hl2 e2 => ?_
  have z2 : ((ys.toArray.size : Nat) : Int) = hi := by rw [List.size_toArray, e2, eh]
  clear F1 N1
  k_steps
  refine len_list hl2 (by rw [z2, eh]; exact hsm _) ?_
  rw [z2]
  k_steps
  · exfalso
    exact (by assumption : hi ≠ hi) rfl
  · exact ret _ _ (by assumption) F2 N2
end
end Mine
end
namespace Mine
theorem freshAtSz1 : True := by
  (try (walk1; fail))
  w_top off
  trivial
end Mine
section
open PySem PySem.W PySem.Calls PyProof.Rows PyProof.Rows.LCg
set_option autoImplicit false
namespace Mine
set_option maxRecDepth 100000
set_option maxHeartbeats 8000000
theorem fillOfSz1 : PySem.Challenge.rw_rl0102_01 = PySem.Challenge.rw_rl0102_01 ∧ KK = KK := by
  k_fill
  exact ⟨rfl, rfl⟩
variable {w : World} {dp un : Nat} {fr : Option (List Env)} {gd : Option (List Code)} {s : Shared} {h₀ : Heap} {L fa : Addr} {m : Str → Option Value} {news : List (Addr × Obj)} {p : Program} {loose : List Str} {mean : ExcName → Option Value} {mg mb : Str → Option Value}

theorem row_three (a b c : Int) : ∃ k0 k1 k2, rowI (f3 a b c) 3 = [k0, k1, k2] ∧ (0 ≤ k0 ∧ k0 < 3) ∧ (0 ≤ k1 ∧ k1 < 3) ∧ (0 ≤ k2 ∧ k2 < 3) ∧
    ((if f3 a b c k1 < a then (if f3 a b c k2 < a then 3 else 2) else (if f3 a b c k0 < a then 1 else 0) : Int) = (([a, b, c].filter fun x => decide (x < a)).length : Int)) ∧
    ((if a < f3 a b c k1 then (if a < f3 a b c k0 then 0 else 1) else (if a < f3 a b c k2 then 2 else 3) : Int) = (([a, b, c].filter fun x => decide (x ≤ a)).length : Int)) := by
  have e0 : f3 a b c 0 = a := rfl
  have e1 : f3 a b c 1 = b := rfl
  have e2 : f3 a b c 2 = c := rfl
  have low : ∀ x y z : Int, ((([x, y, z].filter fun v => decide (v < x)).length : Nat) : Int) = (if y < x then 1 else 0) + (if z < x then 1 else 0) := fun x y z => by
    by_cases h1 : y < x <;> by_cases h2 : z < x <;> simp [List.filter_cons, h1, h2]
  have high : ∀ x y z : Int, ((([x, y, z].filter fun v => decide (v ≤ x)).length : Nat) : Int) = 1 + (if y ≤ x then 1 else 0) + (if z ≤ x then 1 else 0) := fun x y z => by
    by_cases h1 : y ≤ x <;> by_cases h2 : z ≤ x <;> simp [List.filter_cons, h1, h2]
  have r : rowI (f3 a b c) 3 = if b < a then (if c < a then (if c < b then [2, 1, 0] else [1, 2, 0]) else [1, 0, 2]) else (if c < b then (if c < a then [2, 0, 1] else [0, 2, 1]) else [0, 1, 2]) := by
    by_cases hA : b < a <;> by_cases hB : c < b <;> by_cases hC : c < a
    all_goals
      simp only [rowI, insL, f3]
      simp [hA, hB, hC]
    all_goals omega
  rw [low a b c, high a b c]
  by_cases hA : b < a <;> by_cases hB : c < b <;> by_cases hC : c < a
  all_goals simp only [hA, hB, hC, if_true, if_false] at r
  all_goals refine ⟨_, _, _, r, by omega, by omega, by omega, ?_, ?_⟩
  all_goals simp only [e0, e1, e2]
  all_goals repeat' split
  all_goals omega

abbrev six (L : Addr) (le co si ss po : Obj) (ps : Array Value) (led : Led) : Led := (L + 1 + 1 + 1 + 1 + 1, le) :: (L + 1 + 1 + 1 + 1, co) :: (L + 1 + 1 + 1, si) :: (L + 1 + 1, ss) :: (L + 1, po) :: (169, tabObj ps) :: led
def Off (L : Addr) (led : Led) : Prop := ∀ p ∈ led, p.1 ≠ L + 1 + 1 + 1 + 1 + 1 ∧ p.1 ≠ L + 1 + 1 + 1 + 1 ∧ p.1 ≠ L + 1 + 1 + 1 ∧ p.1 ≠ L + 1 + 1 ∧ p.1 ≠ L + 1 ∧ p.1 ≠ 169
theorem Off.nil {L : Addr} : Off L [] := fun _ h => nomatch h
theorem Off.app {L : Addr} {a b : Led} (h : Off L a) (h' : Off L b) : Off L (a ++ b) := fun p hp => (List.mem_append.mp hp).elim (h p) (h' p)
theorem low169 (CH : CodeHd h₀ 171 169) (F : Fr h₀ L s.heap m) : 169 < L := by
  obtain ⟨o, _, _, _, _, _, _, _, _, e, _⟩ := CH
  exact Nat.lt_of_lt_of_le (Nat.lt_of_le_of_lt (by omega) (Heap.lt_size e)) F.above
section
variable {le co si ss po : Obj} {ps : Array Value} {led ex : Led}
theorem off_fresh (h : Fresh ex (six L le co si ss po ps led)) : Off L ex := fun p hp =>
  ⟨Ne.symm (h p hp _ (.head _)), Ne.symm (h p hp _ (.tail _ (.head _))), Ne.symm (h p hp _ (.tail _ (.tail _ (.head _)))), Ne.symm (h p hp _ (.tail _ (.tail _ (.tail _ (.head _))))), Ne.symm (h p hp _ (.tail _ (.tail _ (.tail _ (.tail _ (.head _)))))), Ne.symm (h p hp _ (.tail _ (.tail _ (.tail _ (.tail _ (.tail _ (.head _)))))))⟩
theorem in_six {p : Addr × Obj} (h : p ∈ led) : p ∈ six L le co si ss po ps led := .tail _ (.tail _ (.tail _ (.tail _ (.tail _ (.tail _ h)))))
theorem six_cases {p : Addr × Obj} (h : p ∈ six L le co si ss po ps led) : p ∈ [(L + 1 + 1 + 1 + 1 + 1, le), (L + 1 + 1 + 1 + 1, co), (L + 1 + 1 + 1, si), (L + 1 + 1, ss), (L + 1, po)] ∨ p = (169, tabObj ps) ∨ p ∈ led := by
  simp only [six, List.mem_cons, List.not_mem_nil, or_false] at h ⊢
  rcases h with h | h | h | h | h | h | h
  · exact .inl (.inl h)
  · exact .inl (.inr (.inl h))
  · exact .inl (.inr (.inr (.inl h)))
  · exact .inl (.inr (.inr (.inr (.inl h))))
  · exact .inl (.inr (.inr (.inr (.inr h))))
  · exact .inr (.inl h)
  · exact .inr (.inr h)
theorem five_in {p : Addr × Obj} (h : p ∈ [(L + 1 + 1 + 1 + 1 + 1, le), (L + 1 + 1 + 1 + 1, co), (L + 1 + 1 + 1, si), (L + 1 + 1, ss), (L + 1, po)]) : p ∈ six L le co si ss po ps led := by
  simp only [six, List.mem_cons, List.not_mem_nil, or_false] at h ⊢
  rcases h with h | h | h | h | h
  · exact .inl h
  · exact .inr (.inl h)
  · exact .inr (.inr (.inl h))
  · exact .inr (.inr (.inr (.inl h)))
  · exact .inr (.inr (.inr (.inr (.inl h))))
/-- what is new goes behind the cells -/
theorem six_push {h : Heap} (N : News h₀ L h (ex ++ six L le co si ss po ps led)) : News h₀ L h (six L le co si ss po ps (ex ++ led)) := news_sub N fun p hp => by
  rcases six_cases hp with hp | rfl | hp
  · exact List.mem_append_right _ (five_in hp)
  · exact List.mem_append_right _ (.tail _ (.tail _ (.tail _ (.tail _ (.tail _ (.head _))))))
  · exact (List.mem_append.mp hp).elim (fun hp => List.mem_append_left _ hp) fun hp => List.mem_append_right _ (in_six hp)
theorem five_ne (hlt : 169 < L) {p : Addr × Obj} (h : p ∈ [(L + 1 + 1 + 1 + 1 + 1, le), (L + 1 + 1 + 1 + 1, co), (L + 1 + 1 + 1, si), (L + 1 + 1, ss), (L + 1, po)]) : p.1 ≠ 169 := by
  simp only [List.mem_cons, List.not_mem_nil, or_false] at h
  rcases h with rfl | rfl | rfl | rfl | rfl
  · exact Nat.ne_of_gt (Nat.lt_succ_of_lt (Nat.lt_succ_of_lt (Nat.lt_succ_of_lt (Nat.lt_succ_of_lt (Nat.lt_succ_of_lt hlt)))))
  · exact Nat.ne_of_gt (Nat.lt_succ_of_lt (Nat.lt_succ_of_lt (Nat.lt_succ_of_lt (Nat.lt_succ_of_lt hlt))))
  · exact Nat.ne_of_gt (Nat.lt_succ_of_lt (Nat.lt_succ_of_lt (Nat.lt_succ_of_lt hlt)))
  · exact Nat.ne_of_gt (Nat.lt_succ_of_lt (Nat.lt_succ_of_lt hlt))
  · exact Nat.ne_of_gt (Nat.lt_succ_of_lt hlt)
theorem five_off {a : Addr} (h1 : a ≠ L + 1 + 1 + 1 + 1 + 1 ∧ a ≠ L + 1 + 1 + 1 + 1 ∧ a ≠ L + 1 + 1 + 1 ∧ a ≠ L + 1 + 1 ∧ a ≠ L + 1 ∧ a ≠ 169) {p : Addr × Obj} (h : p ∈ [(L + 1 + 1 + 1 + 1 + 1, le), (L + 1 + 1 + 1 + 1, co), (L + 1 + 1 + 1, si), (L + 1 + 1, ss), (L + 1, po)]) : p.1 ≠ a := by
  simp only [List.mem_cons, List.not_mem_nil, or_false] at h
  rcases h with rfl | rfl | rfl | rfl | rfl <;> dsimp only
  · exact Ne.symm h1.1
  · exact Ne.symm h1.2.1
  · exact Ne.symm h1.2.2.1
  · exact Ne.symm h1.2.2.2.1
  · exact Ne.symm h1.2.2.2.2.1
end
end Mine
end
namespace Mine
theorem freshAtSz2 : True := by
  (try (walk1; fail))
  w_top off
  trivial
end Mine
section
open PySem PySem.W PySem.Calls PyProof.Rows PyProof.Rows.LCg
set_option autoImplicit false
namespace Mine
set_option maxRecDepth 100000
set_option maxHeartbeats 8000000
theorem fillOfSz2 : PySem.Challenge.rw_rl0102_01 = PySem.Challenge.rw_rl0102_01 ∧ KK = KK := by
  k_fill
  exact ⟨rfl, rfl⟩
variable {w : World} {dp un : Nat} {fr : Option (List Env)} {gd : Option (List Code)} {s : Shared} {h₀ : Heap} {L fa : Addr} {m : Str → Option Value} {news : List (Addr × Obj)} {p : Program} {loose : List Str} {mean : ExcName → Option Value} {mg mb : Str → Option Value}

theorem n_169 (n k : Nat) (h : 169 < n) : n + k ≠ 169 := by omega
theorem n_24 (n : Nat) : n + 1 + 1 ≠ n + 1 + 1 + 1 + 1 := by omega
theorem n_14 (n : Nat) : n + 1 ≠ n + 1 + 1 + 1 + 1 := by omega
theorem size_eq : sizeBody = [nth sizeBody 0, nth sizeBody 1, nth sizeBody 2, nth sizeBody 3, nth sizeBody 4, nth sizeBody 5, nth sizeBody 6, nth sizeBody 7] := by with_unfolding_all rfl
/-- what a turn of the power loop has laid -/
structure PowD (led : Led) (m : Str → Option Value) (le po : Obj) (ad al : Addr) (pw : Int) (l0 l1 l2 : List Int) (q0 q1 q2 : WS) : Prop where
  hle : le.data = .cell (some (.ref ad))
  hpo : ∃ tp, po.data = .cell (some (.int pw tp))
  hp : 1 ≤ pw ∧ pw ≤ 4
  hm : m (Str.ofString "lefts") = some (.ref al)
  hL : Lefts led al l0 l1 l2
  len : ((1 ≤ l0.length ∧ l0.length ≤ 3) ∧ (1 ≤ l1.length ∧ l1.length ≤ 3) ∧ (1 ≤ l2.length ∧ l2.length ≤ 3))
  bd : ((∀ r ∈ l0, 0 ≤ r ∧ r ≤ 8) ∧ (∀ r ∈ l1, 0 ≤ r ∧ r ≤ 8) ∧ (∀ r ∈ l2, 0 ≤ r ∧ r ≤ 8))
  hQ : Leads led ad q0 q1 q2
  bq : (q0.1.length ≤ 9 ∧ (∀ c ∈ q0.1, 0 ≤ c ∧ c ≤ 60)) ∧ (q1.1.length ≤ 9 ∧ (∀ c ∈ q1.1, 0 ≤ c ∧ c ≤ 60)) ∧ (q2.1.length ≤ 9 ∧ (∀ c ∈ q2.1, 0 ≤ c ∧ c ≤ 60))
theorem PowD.mono {led led' : Led} {m m' : Str → Option Value} {le po : Obj} {ad al : Addr} {pw : Int} {l0 l1 l2 : List Int} {q0 q1 q2 : WS} (h : PowD led m le po ad al pw l0 l1 l2 q0 q1 q2) (hs : ∀ p ∈ led, p ∈ led') (hm : m' (Str.ofString "lefts") = m (Str.ofString "lefts")) : PowD led' m' le po ad al pw l0 l1 l2 q0 q1 q2 :=
  ⟨h.hle, h.hpo, h.hp, hm.trans h.hm, h.hL.mono hs, h.len, h.bd, h.hQ.mono hs, h.bq⟩
def SameBut (xs : List Str) (m m' : Str → Option Value) : Prop := ∀ x, x ∉ xs → m' x = m x
theorem SameBut.refl {xs : List Str} (m : Str → Option Value) : SameBut xs m m := fun _ _ => rfl
theorem SameBut.set {xs : List Str} {m m' : Str → Option Value} {x : Str} {v : Value} (h : SameBut xs m m') (hx : x ∈ xs) : SameBut xs m (setm m' x v) := fun y hy => by
  have hne : y ≠ x := fun q => hy (by rw [q]; exact hx)
  show (if y = x then _ else _) = _
  rw [if_neg hne]; exact h y hy
theorem SameBut.trans {xs : List Str} {a b c : Str → Option Value} (h : SameBut xs a b) (h' : SameBut xs b c) : SameBut xs a c := fun x hx => (h' x hx).trans (h x hx)
abbrev sizeVars : List Str := [(Str.ofString "row"), (Str.ofString "place"), (Str.ofString "low"), (Str.ofString "high")]

theorem Fresh.app2 {a b led : Led} (h : Fresh a led) (h' : Fresh b led) : Fresh (a ++ b) led := fun p hp => (List.mem_append.mp hp).elim (h p) (h' p)
theorem row_push {h : Heap} {r : Addr × Obj} {five ex led : Led} {t : Addr × Obj} (N : News h₀ L h (ex ++ (r :: (five ++ t :: led)))) : News h₀ L h (r :: (five ++ t :: (ex ++ led))) := news_sub N fun p => by
  simp only [List.mem_append, List.mem_cons]
  rintro (h | h | h | h | h) <;> simp [h]
theorem row_body (X : (KK w.params).In h₀) (T : Top p loose mean mg mb h₀) (hdep : dp + 40 < recursionLimit) (hun : un + 300 < cLine) (CH : CodeHd h₀ 171 169) (F : Fr h₀ L s.heap m) {le co si ss po : Obj} {ps : Array Value} {led : Led} (N : News h₀ L s.heap (six L le co si ss po ps led)) (O : Off L led) {kl : Led} (K : TabOk kl ps) (hkl : ∀ p ∈ kl, p ∈ led) {ad ac : Addr} {q0 q1 q2 : WS} (hle : le.data = .cell (some (.ref ad))) (hQ : Leads led ad q0 q1 q2) (bq : (q0.1.length ≤ 9 ∧ (∀ c ∈ q0.1, 0 ≤ c ∧ c ≤ 60)) ∧ (q1.1.length ≤ 9 ∧ (∀ c ∈ q1.1, 0 ≤ c ∧ c ≤ 60)) ∧ (q2.1.length ≤ 9 ∧ (∀ c ∈ q2.1, 0 ≤ c ∧ c ≤ 60)))
    (hco : co.data = .cell (some (.ref ac))) {sz : Int} {tz : Tok} (hsi : si.data = .cell (some (.int sz tz))) (hz : 1 ≤ sz ∧ sz ≤ 9) (hC : Cols led ac (indF q0.1 q0.2.1 q0.2.2.2 sz) (indF q1.1 q1.2.1 q1.2.2.2 sz) (indF q2.1 q2.2.1 q2.2.2.2 sz)) {Q : Flow → Shared → Prop}
    (ret : ∀ m' ps' ex h' tk', s.toks ≤ tk' → SameBut sizeVars m m' → Fr h₀ L h' m' → News h₀ L h' (six L le co si ss po ps' (ex ++ led)) → Off L ex → Fresh ex led → TabOk (ex ++ kl) ps' → Q .next { s with heap := h', toks := tk' }) :
    wpAny (model prg w) (mkA dp un fr gd) (execs [nth sizeBody 2, nth sizeBody 3, nth sizeBody 4, nth sizeBody 5, nth sizeBody 6, nth sizeBody 7] (LE L fa)) Q (fun _ _ => False) s := by
  have hlt := low169 CH F
  refine wpAny_execs_cons (s_row X T hdep hun F N ?_)
  intro ra h3 tk3 htk3 F3 N3 hra
  dsimp only
  have hra0 : ra ≠ 169 := Ne.symm (hra _ (.tail _ (.tail _ (.tail _ (.tail _ (.tail _ (.head _)))))))
  have g1 : ∀ p ∈ [(L + 1 + 1 + 1 + 1 + 1, le), (L + 1 + 1 + 1 + 1, co), (L + 1 + 1 + 1, si), (L + 1 + 1, ss), (L + 1, po)], p.1 ≠ 169 ∧ p.1 ≠ ra := fun p hp => ⟨five_ne hlt hp, hra _ (five_in hp)⟩
  have g2 : ∀ p ∈ led, p.1 ≠ 169 ∧ p.1 ≠ ra := fun p hp => ⟨(O p hp).2.2.2.2.2, hra _ (in_six hp)⟩
  have r0 : ∀ {v : Option Value} {mm : Str → Option Value}, mm (Str.ofString "row") = v → ∀ (y : Str) (u : Value), (Str.ofString "row") ≠ y → (setm mm y u) (Str.ofString "row") = v := fun h y u hne => by
    show (if _ = _ then _ else _) = _
    rw [if_neg hne]; exact h
  refine wpAny_execs_cons (s_ins X T hdep hun CH (pre := [(L + 1 + 1 + 1 + 1 + 1, le), (L + 1 + 1 + 1 + 1, co), (L + 1 + 1 + 1, si), (L + 1 + 1, ss), (L + 1, po)]) (post := led) (led := kl) (by exact F3) (by exact N3) g1 g2 hra0 K (fun p hp => List.mem_append_right _ (hkl p hp)) (by show (if _ = _ then _ else _) = _; rw [if_pos rfl]) hle (List.mem_append_left _ (.head _)) hsi (List.mem_append_left _ (.tail _ (.tail _ (.head _)))) hz (hQ.mono fun p hp => List.mem_append_right _ hp) bq ?_)
  intro m4 its c4 ps4 ex4 h4 tk4 htk4 hm4 F4 N4 off4 K4 hI
  dsimp only at htk4 ⊢
  have N4' : News h₀ L h4 ((ra, PySem.W.listOf (List.toArray its) c4) :: ([(L + 1 + 1 + 1 + 1 + 1, le), (L + 1 + 1 + 1 + 1, co), (L + 1 + 1 + 1, si), (L + 1 + 1, ss), (L + 1, po)] ++ (169, tabObj ps4) :: (ex4 ++ led))) := news_sub N4 fun p => by
    simp only [List.mem_append, List.mem_cons]
    rintro (h | (h | h | h | h | h | h) | h | h | h) <;> simp [h]
  have O4 : Off L ex4 := fun p hp => by
    have z := (off4 p hp).2.2
    exact ⟨Ne.symm (z _ (List.mem_append_left _ (.head _))), Ne.symm (z _ (List.mem_append_left _ (.tail _ (.head _)))), Ne.symm (z _ (List.mem_append_left _ (.tail _ (.tail _ (.head _))))), Ne.symm (z _ (List.mem_append_left _ (.tail _ (.tail _ (.tail _ (.head _)))))), Ne.symm (z _ (List.mem_append_left _ (.tail _ (.tail _ (.tail _ (.tail _ (.head _))))))), (off4 p hp).2.1⟩
  have g4 : ∀ p ∈ ex4 ++ led, p.1 ≠ 169 ∧ p.1 ≠ ra := fun p hp => (List.mem_append.mp hp).elim (fun hp => ⟨(off4 p hp).2.1, (off4 p hp).1⟩) (g2 p)
  have hr4 : m4 (Str.ofString "row") = some (.ref ra) := (hm4 _ (by decide)).trans (by show (if _ = _ then _ else _) = _; rw [if_pos rfl])
  have u4 : ∀ p ∈ led, p ∈ ex4 ++ led := fun p hp => List.mem_append_right _ hp
  have e4 : SameBut sizeVars m m4 := fun x hx => by
    refine (hm4 x (fun e => hx (by rw [e]; decide))).trans ?_
    show (if _ = _ then _ else _) = _
    rw [if_neg (fun e => hx (by rw [e]; decide))]
  have f4 : Fresh ex4 led := fun p hp q hq => (off4 p hp).2.2 q (List.mem_append_right _ hq)
  clear hm4 N4 off4
  have v4 : ∀ p ∈ ex4 ++ kl, p ∈ ex4 ++ led := fun p hp => (List.mem_append.mp hp).elim (fun hp => List.mem_append_left _ hp) fun hp => List.mem_append_right _ (hkl p hp)
  generalize hl4 : ex4 ++ led = led4 at *
  generalize hk4 : ex4 ++ kl = kl4 at *
  refine wpAny_execs_cons (s_sorted X T hdep hun CH (pre := (ra, PySem.W.listOf (List.toArray its) c4) :: [(L + 1 + 1 + 1 + 1 + 1, le), (L + 1 + 1 + 1 + 1, co), (L + 1 + 1 + 1, si), (L + 1 + 1, ss), (L + 1, po)]) (post := led4) (led := kl4) (by exact F4) (by exact N4') (fun p hp => (List.mem_cons.mp hp).elim (fun e => e ▸ hra0) fun hp => (g1 p hp).1) (fun p hp => (g4 p hp).1) K4 (fun p hp => List.mem_append_right _ (v4 p hp)) hr4 (.head _) hI hco (List.mem_append_left _ (.tail _ (.tail _ (.head _)))) (Nts.mono (fun p hp => List.mem_append_right _ (u4 p hp)) hC) ?_)
  intro ps5 ex5 h5 tk5 htk5 F5 N5 fr5 K5
  dsimp only at htk5 ⊢
  have N5' : News h₀ L h5 ((ra, PySem.W.listOf (List.toArray its) c4) :: ([(L + 1 + 1 + 1 + 1 + 1, le), (L + 1 + 1 + 1 + 1, co), (L + 1 + 1 + 1, si), (L + 1 + 1, ss), (L + 1, po)] ++ (169, tabObj ps5) :: (ex5 ++ led4))) := row_push (by exact N5)
  have O5 : Off L ex5 := off_fresh (fun p hp q hq => fr5 p hp q (.tail _ hq))
  have g5 : ∀ p ∈ ex5 ++ led4, p.1 ≠ 169 ∧ p.1 ≠ ra := fun p hp => (List.mem_append.mp hp).elim (fun hp => ⟨(O5 p hp).2.2.2.2.2, Ne.symm (fr5 p hp _ (.head _))⟩) (g4 p)
  have u5 : ∀ p ∈ led, p ∈ ex5 ++ led4 := fun p hp => List.mem_append_right _ (u4 p hp)
  have f5 : Fresh ex5 led := fun p hp q hq => fr5 p hp q (.tail _ (List.mem_append_right _ (.tail _ (u4 q hq))))
  clear N5 fr5
  have v5 : ∀ p ∈ ex5 ++ kl4, p ∈ ex5 ++ led4 := fun p hp => (List.mem_append.mp hp).elim (fun hp => List.mem_append_left _ hp) fun hp => List.mem_append_right _ (v4 p hp)
  generalize hl5 : ex5 ++ led4 = led5 at *
  generalize hk5 : ex5 ++ kl4 = kl5 at *
  obtain ⟨k0, k1, k2, hrow, b0, b1, b2, elo, ehi⟩ := row_three (indF q0.1 q0.2.1 q0.2.2.2 sz) (indF q1.1 q1.2.1 q1.2.2.2 sz) (indF q2.1 q2.2.1 q2.2.2.2 sz)
  rw [hrow] at hI
  refine wpAny_execs_cons (s_low X T hdep hun CH (pre := [(L + 1 + 1 + 1 + 1 + 1, le), (L + 1 + 1 + 1 + 1, co), (L + 1 + 1 + 1, si), (L + 1 + 1, ss), (L + 1, po)]) (post := led5) (led := kl5) (by exact F5) (by exact N5') g1 g5 hra0 K5 (fun p hp => List.mem_append_right _ (v5 p hp)) hr4 hI b0 b1 b2 hco (List.mem_append_left _ (.tail _ (.head _))) (Nts.mono (fun p hp => List.mem_append_right _ (u5 p hp)) hC) hle (List.mem_append_left _ (.head _)) hsi (List.mem_append_left _ (.tail _ (.tail _ (.head _)))) hz (hQ.mono fun p hp => List.mem_append_right _ (u5 p hp)) bq rfl ?_)
  intro tl ps6 ex6 h6 tk6 htk6 F6 N6 fr6 K6
  dsimp only at htk6 ⊢
  have N6' : News h₀ L h6 ((ra, PySem.W.listOf (List.toArray its) c4) :: ([(L + 1 + 1 + 1 + 1 + 1, le), (L + 1 + 1 + 1 + 1, co), (L + 1 + 1 + 1, si), (L + 1 + 1, ss), (L + 1, po)] ++ (169, tabObj ps6) :: (ex6 ++ led5))) := row_push (by exact N6)
  have O6 : Off L ex6 := off_fresh (fun p hp q hq => fr6 p hp q (.tail _ hq))
  have g6 : ∀ p ∈ ex6 ++ led5, p.1 ≠ 169 ∧ p.1 ≠ ra := fun p hp => (List.mem_append.mp hp).elim (fun hp => ⟨(O6 p hp).2.2.2.2.2, Ne.symm (fr6 p hp _ (.head _))⟩) (g5 p)
  have u6 : ∀ p ∈ led, p ∈ ex6 ++ led5 := fun p hp => List.mem_append_right _ (u5 p hp)
  have f6 : Fresh ex6 led := fun p hp q hq => fr6 p hp q (.tail _ (List.mem_append_right _ (.tail _ (u5 q hq))))
  clear N6 fr6
  have v6 : ∀ p ∈ ex6 ++ kl5, p ∈ ex6 ++ led5 := fun p hp => (List.mem_append.mp hp).elim (fun hp => List.mem_append_left _ hp) fun hp => List.mem_append_right _ (v5 p hp)
  generalize hl6 : ex6 ++ led5 = led6 at *
  generalize hk6 : ex6 ++ kl5 = kl6 at *
  refine wpAny_execs_cons (s_high X T hdep hun CH (pre := [(L + 1 + 1 + 1 + 1 + 1, le), (L + 1 + 1 + 1 + 1, co), (L + 1 + 1 + 1, si), (L + 1 + 1, ss), (L + 1, po)]) (post := led6) (led := kl6) (by exact F6) (by exact N6') g1 g6 hra0 K6 (fun p hp => List.mem_append_right _ (v6 p hp)) (r0 hr4 _ _ (by decide)) hI b0 b1 b2 hco (List.mem_append_left _ (.tail _ (.head _))) (Nts.mono (fun p hp => List.mem_append_right _ (u6 p hp)) hC) hle (List.mem_append_left _ (.head _)) hsi (List.mem_append_left _ (.tail _ (.tail _ (.head _)))) hz (hQ.mono fun p hp => List.mem_append_right _ (u6 p hp)) bq rfl ?_)
  intro th ps7 ex7 h7 tk7 htk7 F7 N7 fr7 K7
  dsimp only at htk7 ⊢
  have N7' : News h₀ L h7 ((ra, PySem.W.listOf (List.toArray its) c4) :: ([(L + 1 + 1 + 1 + 1 + 1, le), (L + 1 + 1 + 1 + 1, co), (L + 1 + 1 + 1, si), (L + 1 + 1, ss), (L + 1, po)] ++ (169, tabObj ps7) :: (ex7 ++ led6))) := row_push (by exact N7)
  have O7 : Off L ex7 := off_fresh (fun p hp q hq => fr7 p hp q (.tail _ hq))
  have f7 : Fresh ex7 led := fun p hp q hq => fr7 p hp q (.tail _ (List.mem_append_right _ (.tail _ (u6 q hq))))
  have Ns : News h₀ L h7 (six L le co si ss po ps7 (ex7 ++ led6)) := fun p hp => N7' p (.tail _ hp)
  refine wpAny_execs_cons (s_cnt X T hdep hun (by exact F7) (by exact Ns) hco (.tail _ (.head _)) (Nts.mono (fun p hp => in_six (List.mem_append_right _ (u6 p hp))) hC) (by show (if _ = _ then _ else (if _ = _ then _ else _)) = _; rw [if_neg (by decide), if_pos rfl]) (by show (if _ = _ then _ else _) = _; rw [if_pos rfl]) elo ehi ?_)
  intro h8 tk8 htk8 F8 N8
  dsimp only at htk8 ⊢
  refine wpAny_execs_nil ?_
  subst hk6
  subst hk5
  subst hk4
  subst hl6
  subst hl5
  subst hl4
  have ask : ex7 ++ (ex6 ++ (ex5 ++ (ex4 ++ kl))) = (ex7 ++ (ex6 ++ (ex5 ++ ex4))) ++ kl := by simp only [List.append_assoc]
  have ass : ex7 ++ (ex6 ++ (ex5 ++ (ex4 ++ led))) = (ex7 ++ (ex6 ++ (ex5 ++ ex4))) ++ led := by simp only [List.append_assoc]
  refine ret _ ps7 (ex7 ++ (ex6 ++ (ex5 ++ ex4))) h8 tk8 (by omega) ?_ F8 (by rw [← ass]; exact N8) (O7.app (O6.app (O5.app O4))) (f7.app2 (f6.app2 (f5.app2 f4))) (by rw [← ask]; exact K7)
  exact (e4.set (by decide)).set (by decide)

theorem size_body (X : (KK w.params).In h₀) (T : Top p loose mean mg mb h₀) (hdep : dp + 40 < recursionLimit) (hun : un + 300 < cLine) (CH : CodeHd h₀ 171 169) (F : Fr h₀ L s.heap m) {le co si ss po : Obj} {ps : Array Value} {led : Led} (N : News h₀ L s.heap (six L le co si ss po ps led)) (O : Off L led) {kl : Led} (K : TabOk kl ps) (hkl : ∀ p ∈ kl, p ∈ led) {ad al : Addr} {pw : Int} {l0 l1 l2 : List Int} {q0 q1 q2 : WS} (D : PowD led m le po ad al pw l0 l1 l2 q0 q1 q2)
    {vco : Option Value} (hco : co.data = .cell vco) {sz : Int} {tz : Tok} (hsi : si.data = .cell (some (.int sz tz))) (hz : 1 ≤ sz ∧ sz ≤ 9) (hW : 1 ≤ sz * pw ∧ sz * pw ≤ 36) (e : (indF q0.1 q0.2.1 q0.2.2.2 sz) = colF l0 pw sz ∧ (indF q1.1 q1.2.1 q1.2.2.2 sz) = colF l1 pw sz ∧ (indF q2.1 q2.2.1 q2.2.2.2 sz) = colF l2 pw sz) {Q : Flow → Shared → Prop}
    (ret : ∀ m' co' vco' ps' ex h' tk', s.toks ≤ tk' → SameBut sizeVars m m' → Fr h₀ L h' m' → News h₀ L h' (six L le co' si ss po ps' (ex ++ led)) → Off L ex → Fresh ex led → TabOk (ex ++ kl) ps' → co'.data = .cell vco' → Q .next { s with heap := h', toks := tk' }) :
    wpAny (model prg w) (mkA dp un fr gd) (execs sizeBody (LE L fa)) Q (fun _ _ => False) s := by
  obtain ⟨tp, hpo⟩ := D.hpo
  have hlt := low169 CH F
  have h5 : ∀ (k : Nat), (L : Nat) + k ≠ 169 := fun k => n_169 L k hlt
  rw [size_eq]
  refine wpAny_execs_cons (s_col X T hdep hun (pre := [(L + 1 + 1 + 1 + 1 + 1, le)]) (post := (L + 1 + 1 + 1, si) :: (L + 1 + 1, ss) :: (L + 1, po) :: (169, tabObj ps) :: led) F N (fun p hp => ?_) (fun p hp => ?_) hco hpo (.tail _ (.tail _ (.tail _ (.tail _ (.head _))))) hsi (.tail _ (.tail _ (.head _))) D.hp hz hW D.hm (D.hL.mono fun p hp => in_six hp) D.len D.bd ?_)
  · rw [List.mem_singleton.mp hp]
    exact Nat.succ_ne_self _
  · simp only [List.mem_cons] at hp
    rcases hp with rfl | rfl | rfl | rfl | hp
    · exact Ne.symm (Nat.succ_ne_self _)
    · exact n_24 L
    · exact n_14 L
    · exact Ne.symm (h5 4)
    · exact (O p hp).2.1
  intro ac co' ex0 h1 tk1 htk1 F1 N1 fr1 hoc hC
  dsimp only
  have N1' : News h₀ L h1 (six L le co' si ss po ps (ex0 ++ led)) := six_push (by exact N1)
  have O1 : Off L ex0 := off_fresh (by exact fr1)
  have up1 : ∀ p ∈ ex0, p ∈ ex0 ++ led := fun p hp => List.mem_append_left _ hp
  have ul1 : ∀ p ∈ led, p ∈ ex0 ++ led := fun p hp => List.mem_append_right _ hp
  -- s_ind
  refine wpAny_execs_cons (s_ind X T hdep hun (by exact F1) (by exact N1') D.hle (.head _) hsi (.tail _ (.tail _ (.head _))) hoc (.tail _ (.head _)) hz (D.hQ.mono fun p hp => in_six (ul1 p hp)) D.bq (Nts.mono (fun p hp => in_six (up1 p hp)) hC) e ?_)
  intro ex1 h2 tk2 htk2 F2 N2 fr2
  dsimp only at htk2 ⊢
  have N2' : News h₀ L h2 (six L le co' si ss po ps (ex1 ++ (ex0 ++ led))) := six_push N2
  have O2 : Off L ex1 := off_fresh fr2
  refine row_body X T hdep hun CH (by exact F2) (by exact N2') (O2.app (O1.app O)) (kl := ex1 ++ (ex0 ++ kl)) (K.mono fun p hp => List.mem_append_right _ (List.mem_append_right _ hp)) (fun p hp => (List.mem_append.mp hp).elim (fun hp => List.mem_append_left _ hp) fun hp => (List.mem_append.mp hp).elim (fun hp => List.mem_append_right _ (List.mem_append_left _ hp)) fun hp => List.mem_append_right _ (ul1 p (hkl p hp))) D.hle (D.hQ.mono fun p hp => List.mem_append_right _ (ul1 p hp)) D.bq hoc hsi hz (by rw [e.1, e.2.1, e.2.2]; exact Nts.mono (fun p hp => List.mem_append_right _ (up1 p hp)) hC) ?_
  intro m' ps' ex h' tk' htk hm' F' N' O' f' K'
  dsimp only at htk
  have ask : ex ++ (ex1 ++ (ex0 ++ kl)) = (ex ++ (ex1 ++ ex0)) ++ kl := by simp only [List.append_assoc]
  have ass : ex ++ (ex1 ++ (ex0 ++ led)) = (ex ++ (ex1 ++ ex0)) ++ led := by simp only [List.append_assoc]
  exact ret m' co' _ ps' (ex ++ (ex1 ++ ex0)) h' tk' (by omega) hm' F' (by rw [← ass]; exact N') (O'.app (O2.app O1)) (Fresh.app2 (fun p hp q hq => f' p hp q (List.mem_append_right _ (ul1 q hq))) (Fresh.app2 (fun p hp q hq => fr2 p hp q (in_six (ul1 q hq))) (fun p hp q hq => fr1 p hp q (.tail _ (.tail _ (.tail _ (.tail _ (.tail _ (.tail _ hq))))))))) (by rw [← ask]; exact K') hoc
end Mine
end
namespace Mine
theorem freshAtSz3 : True := by
  (try (walk1; fail))
  w_top off
  trivial
end Mine
section
open PySem PySem.W PySem.Calls PyProof.Rows PyProof.Rows.LCg
set_option autoImplicit false
namespace Mine
set_option maxRecDepth 100000
set_option maxHeartbeats 8000000
theorem fillOfSz3 : PySem.Challenge.rw_rl0102_01 = PySem.Challenge.rw_rl0102_01 ∧ KK = KK := by
  k_fill
  exact ⟨rfl, rfl⟩
variable {w : World} {dp un : Nat} {fr : Option (List Env)} {gd : Option (List Code)} {s : Shared} {h₀ : Heap} {L fa : Addr} {m : Str → Option Value} {news : List (Addr × Obj)} {p : Program} {loose : List Str} {mean : ExcName → Option Value} {mg mb : Str → Option Value}

section
local macro_rules | `(tactic| walk_at "newTuple") => `(tactic| (refine hold ?_))
theorem n_35 (n : Nat) : n + 1 + 1 + 1 + 1 + 1 ≠ n + 1 + 1 + 1 := by omega
theorem n_34 (n : Nat) : n + 1 + 1 + 1 + 1 ≠ n + 1 + 1 + 1 := by omega
theorem n_32 (n : Nat) : n + 1 + 1 ≠ n + 1 + 1 + 1 := by omega
theorem n_31 (n : Nat) : n + 1 ≠ n + 1 + 1 + 1 := by omega
theorem s_size (X : (KK w.params).In h₀) (T : Top p loose mean mg mb h₀) (hdep : dp + 40 < recursionLimit) (hun : un + 300 < cLine) (CH : CodeHd h₀ 171 169) (F : Fr h₀ L s.heap m) {le co si ss po : Obj} {ps : Array Value} {led : Led} (N : News h₀ L s.heap (six L le co si ss po ps led)) (O : Off L led) {kl : Led} (K : TabOk kl ps) (hkl : ∀ p ∈ kl, p ∈ led) {ad al : Addr} {pw : Int} {l0 l1 l2 : List Int} {q0 q1 q2 : WS} (D : PowD led m le po ad al pw l0 l1 l2 q0 q1 q2)
    {vco vsi : Option Value} (hco : co.data = .cell vco) (hsi : si.data = .cell vsi) (e : ∀ sz : Int, 1 ≤ sz → sz ≤ 3 → (indF q0.1 q0.2.1 q0.2.2.2 sz) = colF l0 pw sz ∧ (indF q1.1 q1.2.1 q1.2.2.2 sz) = colF l1 pw sz ∧ (indF q2.1 q2.2.1 q2.2.2.2 sz) = colF l2 pw sz) {Q : Flow → Shared → Prop}
    (ret : ∀ m' co' si' vco' vsi' ps' ex h' tk', s.toks ≤ tk' → SameBut sizeVars m m' → Fr h₀ L h' m' → News h₀ L h' (six L le co' si' ss po ps' (ex ++ led)) → Off L ex → Fresh ex led → TabOk (ex ++ kl) ps' → co'.data = .cell vco' → si'.data = .cell vsi' → Q .next { s with heap := h', toks := tk' }) :
    wpAny (model prg w) (mkA dp un fr gd) (exec (nth powBody 4) (LE L fa)) Q (fun _ _ => False) s := by
  with_unfolding_all show wpAny _ _ (exec (Stmt.For (Expr.Name _ _) _ _ [] _) _) _ _ _
  refine for_tuple (h₀ := h₀) (L := L) (its := #[.int 1 (s.toks), .int 2 (s.toks + 1), .int 3 (s.toks + 1 + 1)]) rfl (fun _ m' news' => ∃ co' si' vco' vsi' ps' ex, news' = six L le co' si' ss po ps' (ex ++ led) ∧ SameBut sizeVars m m' ∧ Off L ex ∧ Fresh ex led ∧ TabOk (ex ++ kl) ps' ∧ co'.data = .cell vco' ∧ si'.data = .cell vsi') PassesOwn.never ?_ ?_ ?_
  · k_steps
    unfold Hold
    refine newTuple_N F N (fun h' F' N' => ?_) (by show 3 ≤ sizeLine; decide)
    refine ⟨_, _, m, _, rfl, ⟨h', _, rfl⟩, F', N', fun p hp => Nat.ne_of_lt (Heap.lt_size (N p hp).1), ⟨co, si, _, _, ps, [], rfl, SameBut.refl m, Off.nil, Fresh.nil _, K, hco, hsi⟩, ?_⟩
    show s.toks ≤ s.toks + 1 + 1 + 1
    omega
  · rintro i v m' news' own h tk hv ⟨co', si', vco', vsi', ps', ex, rfl, hm', O', f', K', hco', hsi'⟩ F' N' o1 htk
    obtain ⟨sz, tz, rfl, z1, z3⟩ : ∃ (sz : Int) (tz : Tok), v = .int sz tz ∧ 1 ≤ sz ∧ sz ≤ 3 := by
      rcases i with _ | _ | _ | i
      · exact ⟨1, s.toks, (Option.some.inj hv).symm, by omega, by omega⟩
      · exact ⟨2, s.toks + 1, (Option.some.inj hv).symm, by omega, by omega⟩
      · exact ⟨3, s.toks + 1 + 1, (Option.some.inj hv).symm, by omega, by omega⟩
      · simp at hv
    have hlt := low169 CH F
    have Oo : Off L own := off_fresh (fun p hp q hq => o1 q hq p hp)
    have Ol : Off L (own ++ (ex ++ led)) := Oo.app (O'.app O)
    have N2 : News h₀ L h (six L le co' si' ss po ps' (own ++ (ex ++ led))) := six_push N'
    refine wpAny_assign_Name (st_cell (pre := [(L + 1 + 1 + 1 + 1 + 1, le), (L + 1 + 1 + 1 + 1, co')]) (post := (L + 1 + 1, ss) :: (L + 1, po) :: (169, tabObj ps') :: (own ++ (ex ++ led))) F' N2 hsi' (fun p hp => ?_) (fun p hp => ?_) (fun si2 h2 hsi2 F2 N3 => ?_) (by with_unfolding_all rfl))
    · rcases List.mem_cons.mp hp with rfl | hp
      · exact n_35 L
      · rw [List.mem_singleton.mp hp]; exact n_34 L
    · simp only [List.mem_cons] at hp
      rcases hp with rfl | rfl | rfl | hp
      · exact n_32 L
      · exact n_31 L
      · exact Ne.symm (n_169 L 3 hlt)
      · exact (Ol p hp).2.2.1
    have hW : 1 ≤ sz * pw ∧ sz * pw ≤ 36 := by
      obtain ⟨p1, p4⟩ := D.hp
      have s3 : sz = 1 ∨ sz = 2 ∨ sz = 3 := by omega
      rcases s3 with rfl | rfl | rfl <;> omega
    refine size_body X T hdep hun CH (by exact F2) (ps := ps') (led := own ++ (ex ++ led)) (by exact N3) Ol K' (fun p hp => List.mem_append_right _ ((List.mem_append.mp hp).elim (fun hp => List.mem_append_left _ hp) fun hp => List.mem_append_right _ (hkl p hp))) (D.mono (fun p hp => List.mem_append_right _ (List.mem_append_right _ hp)) (hm' _ (by decide))) hco' hsi2 (by omega) hW (e sz z1 z3) ?_
    intro m2 co2 vco2 ps2 ex2 h3 tk3 htk3 hm2 F3 N4 O2 f2 K2 hco2
    dsimp only at htk3 ⊢
    have N5 : News h₀ L h3 (own ++ six L le co2 si2 ss po ps2 ((ex2 ++ ex) ++ led)) := news_sub N4 fun p => by
      simp only [six, List.mem_append, List.mem_cons]
      rintro (h | h | h | h | h | h | h | (h | h) | h) <;> simp [h]
    refine ⟨h3, tk3, m2, _, rfl, F3, N5, fun p hp q hq => ?_, co2, si2, vco2, _, ps2, ex2 ++ ex, rfl, hm'.trans hm2, O2.app O', Fresh.app2 (fun p hp q hq => f2 p hp q (List.mem_append_right _ (List.mem_append_right _ hq))) f', ?_, hco2, hsi2⟩
    · rcases six_cases hp with hp | rfl | hp
      · exact five_off (Oo q hq) hp
      · exact Ne.symm (Oo q hq).2.2.2.2.2
      · rcases List.mem_append.mp hp with hp | hp
        · rcases List.mem_append.mp hp with hp | hp
          · exact Ne.symm (f2 p hp q (List.mem_append_left _ hq))
          · exact o1 p (in_six (List.mem_append_left _ hp)) q hq
        · exact o1 p (in_six (List.mem_append_right _ hp)) q hq
    · rw [List.append_assoc]; exact K2
  · rintro m' news' h tk ⟨co', si', vco', vsi', ps', ex, rfl, hm', O', f', K', hco', hsi'⟩ F' N' htk
    exact ret m' co' si' vco' vsi' ps' ex h tk htk hm' F' N' O' f' K' hco' hsi'
end
end Mine
end
namespace Mine
theorem freshAtR1 : True := by
  (try (walk1; fail))
  w_top off
  trivial
end Mine
section
open PySem PySem.W PySem.Calls PyProof.Rows PyProof.Rows.LCg
set_option autoImplicit false
namespace Mine
set_option maxRecDepth 100000
set_option maxHeartbeats 8000000
theorem fillOfR1 : PySem.Challenge.rw_rl0102_01 = PySem.Challenge.rw_rl0102_01 ∧ KK = KK := by
  k_fill
  exact ⟨rfl, rfl⟩
variable {w : World} {dp un : Nat} {fr : Option (List Env)} {gd : Option (List Code)} {s : Shared} {h₀ : Heap} {L fa : Addr} {m : Str → Option Value} {news : List (Addr × Obj)} {p : Program} {loose : List Str} {mean : ExcName → Option Value} {mg mb : Str → Option Value}

def lcTabIn : Expr × Scope × Expr := eltOf lcTab.1
abbrev rngObj (a b : Int) (t u v : Tok) : Obj := { cls := .type "range", data := .fields #[.int a t, .int b u, .int 1 v] }
section
local macro_rules | `(tactic| walk_at "eval Name") => `(tactic| (k_here; k_dflt (first | (refine nameX_C (by k_asm) (by rfl) (by k_mem) (by assumption) ?_ (by rfl) (by rfl) (by decide)) | (refine nameX_L (by k_asm) (by assumption) ?_ (by rfl) (by rfl) (by decide)))))
theorem s_rng (X : (KK w.params).In h₀) (T : Top p loose mean mg mb h₀) (hdep : dp + 40 < recursionLimit) (hun : un + 300 < cLine) (F : Fr h₀ L s.heap m) (N : News h₀ L s.heap news) {Q : Flow → Shared → Prop} {E : Value → Shared → Prop} {po : Obj} {pw : Int} {tp : Tok} (hpo : po.data = .cell (some (.int pw tp))) (hpm : (L + 1, po) ∈ news) (hp : pw = 1 ∨ pw = 2 ∨ pw = 4)
    {pre post : Led} {oss : Obj} {vss : Option Value} (hn : news = pre ++ (L + 1 + 1, oss) :: post) (hd : oss.data = .cell vss) (h1 : ∀ p ∈ pre, p.1 ≠ L + 1 + 1) (h2 : ∀ p ∈ post, p.1 ≠ L + 1 + 1)
    (ret : ∀ r t u v oss' h' tk', s.toks ≤ tk' → Fr h₀ L h' m → News h₀ L h' ((r, rngObj 1 (Int.fdiv 8 pw + 2) t u v) :: (pre ++ (L + 1 + 1, oss') :: post)) → (∀ p ∈ pre ++ (L + 1 + 1, oss) :: post, p.1 ≠ r) → oss'.data = .cell (some (.ref r)) → Q .next { s with heap := h', toks := tk' }) :
    wpAny (model prg w) (mkA dp un fr gd) (exec (nth powBody 5) (LE L fa)) Q E s := by
  have hp' : 1 ≤ pw ∧ pw ≤ 4 := by omega
  refine wpAny_with_toks (n := s.toks) (Nat.le_refl _) ?_
  have hr0 := next_is_new F
  have hrL : L ≠ s.heap.objs.size := Nat.ne_of_lt F.ns.lt
  have fr0 : ∀ p ∈ news, p.1 ≠ s.heap.objs.size := fun p hp => Nat.ne_of_lt (Heap.lt_size (N p hp).1)
  with_unfolding_all show wpAny _ _ (exec (Stmt.Assign [Expr.Name _ _] (Expr.Call _ _ _ _) _) _) _ _ _
  k_steps
  subst hn
  rename IsRange _ _ _ _ _ _ _ _ => hR
  rename News _ _ _ _ => N'
  obtain ⟨t1, u1, v1, hR'⟩ : ∃ t u v, IsRange _ s.heap.objs.size 1 (Int.fdiv 8 pw + 2) 1 t u v := ⟨_, _, _, hR⟩
  rename Fr _ _ _ _ => F'
  refine st_cell (pre := (s.heap.objs.size, rngObj 1 (Int.fdiv 8 pw + 2) t1 u1 v1) :: pre) (post := post) F' (fun p hp => ?_) hd (fun p hp => ?_) h2 (fun oss' h2 hd' F2 N2 => ?_) (by with_unfolding_all rfl)
  · rcases List.mem_cons.mp hp with rfl | hp
    · exact ⟨hR', Ne.symm hrL, hr0⟩
    · exact N' p hp
  · rcases List.mem_cons.mp hp with rfl | hp
    · exact Ne.symm (fr0 (L + 1 + 1, oss) (List.mem_append_right _ (.head _)))
    · exact h1 p hp
  intro htk
  exact ret _ _ _ _ oss' h2 _ htk F2 N2 fr0 hd'
end
end Mine
end
namespace Mine
theorem freshAtR2 : True := by
  (try (walk1; fail))
  w_top off
  trivial
end Mine
section
open PySem PySem.W PySem.Calls PyProof.Rows PyProof.Rows.LCg
set_option autoImplicit false
namespace Mine
set_option maxRecDepth 100000
set_option maxHeartbeats 8000000
theorem fillOfR2 : PySem.Challenge.rw_rl0102_01 = PySem.Challenge.rw_rl0102_01 ∧ KK = KK := by
  k_fill
  exact ⟨rfl, rfl⟩
variable {w : World} {dp un : Nat} {fr : Option (List Env)} {gd : Option (List Code)} {s : Shared} {h₀ : Heap} {L fa : Addr} {m : Str → Option Value} {news : List (Addr × Obj)} {p : Program} {loose : List Str} {mean : ExcName → Option Value} {mg mb : Str → Option Value}

section
local macro_rules | `(tactic| walk_at "call ref") => `(tactic| (refine hold ?_))

theorem e_tab1 (X : (KK w.params).In h₀) (T : Top p loose mean mg mb h₀) (hdep : dp + 40 < recursionLimit) (hun : un + 300 < cLine) {C₁ cc : Addr} {oc op : Obj} {pw : Int} {tp : Tok} {ra : Addr} (hoc : oc.data = .cell (some (.ref ra))) (hop : op.data = .cell (some (.int pw tp))) {r0 : Int} {t0 : Tok} {c : Nat} (b0 : 0 ≤ r0 ∧ r0 ≤ 8) (hp : 1 ≤ pw ∧ pw ≤ 4) {sz : Int} {tz : Tok} (hz : 1 ≤ sz ∧ sz ≤ 9) (hW : 1 ≤ sz * pw ∧ sz * pw ≤ 36) :
    MElt prg w (mkA dp un fr gd) h₀ L m (compEnvC lcTab.2.1 (((Str.ofString "left"), cc) :: [((Str.ofString "sizes"), L + 1 + 1), ((Str.ofString "power"), L + 1)]) C₁ (LE L fa)) lcTabIn.1 (Str.ofString "size") lcTabIn.2.1 [((Str.ofString "power"), L + 1), ((Str.ofString "left"), cc)] [(cc, oc), (L + 1, op), (ra, PySem.W.listOf #[.int r0 t0] c)] (.int sz tz)
      (fun y ex => ex = [] ∧ ∃ t', y = .int (colF [r0] pw sz) t') := by
  intro C oC m₂ s Q E news hC hx F N hCm hneed ret
  have N2 : News h₀ L s.heap [(C, oC), (cc, oc), (L + 1, op), (ra, PySem.W.listOf #[.int r0 t0] c)] := news_sub N (List.forall_mem_cons.mpr ⟨hCm, hneed⟩)
  have N₀ : Hold (News h₀ L s.heap news) := N
  clear N
  with_unfolding_all show wpAny _ _ (eval (Expr.Call _ _ _ _) (compEnvC _ _ _ _)) _ _ _
  k_steps
  try unfold Hold
  refine wpAny_call (c_col1 F (show News h₀ L s.heap news from N₀) X T (by omega) (by omega) (hneed _ (.tail _ (.tail _ (.head _)))) hp hz hW b0 fun t' h' tk' F' N' => ?_)
  exact ret _ [] _ _ F' N' (List.forall_mem_nil _) ⟨rfl, t', rfl⟩

theorem e_tab2 (X : (KK w.params).In h₀) (T : Top p loose mean mg mb h₀) (hdep : dp + 40 < recursionLimit) (hun : un + 300 < cLine) {C₁ cc : Addr} {oc op : Obj} {pw : Int} {tp : Tok} {ra : Addr} (hoc : oc.data = .cell (some (.ref ra))) (hop : op.data = .cell (some (.int pw tp))) {r0 r1 : Int} {t0 t1 : Tok} {c : Nat} (b0 : 0 ≤ r0 ∧ r0 ≤ 8) (b1 : 0 ≤ r1 ∧ r1 ≤ 8) (hp : 1 ≤ pw ∧ pw ≤ 4) {sz : Int} {tz : Tok} (hz : 1 ≤ sz ∧ sz ≤ 9) (hW : 1 ≤ sz * pw ∧ sz * pw ≤ 36) :
    MElt prg w (mkA dp un fr gd) h₀ L m (compEnvC lcTab.2.1 (((Str.ofString "left"), cc) :: [((Str.ofString "sizes"), L + 1 + 1), ((Str.ofString "power"), L + 1)]) C₁ (LE L fa)) lcTabIn.1 (Str.ofString "size") lcTabIn.2.1 [((Str.ofString "power"), L + 1), ((Str.ofString "left"), cc)] [(cc, oc), (L + 1, op), (ra, PySem.W.listOf #[.int r0 t0, .int r1 t1] c)] (.int sz tz)
      (fun y ex => ex = [] ∧ ∃ t', y = .int (colF [r0, r1] pw sz) t') := by
  intro C oC m₂ s Q E news hC hx F N hCm hneed ret
  have N2 : News h₀ L s.heap [(C, oC), (cc, oc), (L + 1, op), (ra, PySem.W.listOf #[.int r0 t0, .int r1 t1] c)] := news_sub N (List.forall_mem_cons.mpr ⟨hCm, hneed⟩)
  have N₀ : Hold (News h₀ L s.heap news) := N
  clear N
  with_unfolding_all show wpAny _ _ (eval (Expr.Call _ _ _ _) (compEnvC _ _ _ _)) _ _ _
  k_steps
  try unfold Hold
  refine wpAny_call (c_col2 F (show News h₀ L s.heap news from N₀) X T (by omega) (by omega) (hneed _ (.tail _ (.tail _ (.head _)))) hp hz hW b0 b1 fun t' h' tk' F' N' => ?_)
  exact ret _ [] _ _ F' N' (List.forall_mem_nil _) ⟨rfl, t', rfl⟩

theorem e_tab3 (X : (KK w.params).In h₀) (T : Top p loose mean mg mb h₀) (hdep : dp + 40 < recursionLimit) (hun : un + 300 < cLine) {C₁ cc : Addr} {oc op : Obj} {pw : Int} {tp : Tok} {ra : Addr} (hoc : oc.data = .cell (some (.ref ra))) (hop : op.data = .cell (some (.int pw tp))) {r0 r1 r2 : Int} {t0 t1 t2 : Tok} {c : Nat} (b0 : 0 ≤ r0 ∧ r0 ≤ 8) (b1 : 0 ≤ r1 ∧ r1 ≤ 8) (b2 : 0 ≤ r2 ∧ r2 ≤ 8) (hp : 1 ≤ pw ∧ pw ≤ 4) {sz : Int} {tz : Tok} (hz : 1 ≤ sz ∧ sz ≤ 9) (hW : 1 ≤ sz * pw ∧ sz * pw ≤ 36) :
    MElt prg w (mkA dp un fr gd) h₀ L m (compEnvC lcTab.2.1 (((Str.ofString "left"), cc) :: [((Str.ofString "sizes"), L + 1 + 1), ((Str.ofString "power"), L + 1)]) C₁ (LE L fa)) lcTabIn.1 (Str.ofString "size") lcTabIn.2.1 [((Str.ofString "power"), L + 1), ((Str.ofString "left"), cc)] [(cc, oc), (L + 1, op), (ra, PySem.W.listOf #[.int r0 t0, .int r1 t1, .int r2 t2] c)] (.int sz tz)
      (fun y ex => ex = [] ∧ ∃ t', y = .int (colF [r0, r1, r2] pw sz) t') := by
  intro C oC m₂ s Q E news hC hx F N hCm hneed ret
  have N2 : News h₀ L s.heap [(C, oC), (cc, oc), (L + 1, op), (ra, PySem.W.listOf #[.int r0 t0, .int r1 t1, .int r2 t2] c)] := news_sub N (List.forall_mem_cons.mpr ⟨hCm, hneed⟩)
  have N₀ : Hold (News h₀ L s.heap news) := N
  clear N
  with_unfolding_all show wpAny _ _ (eval (Expr.Call _ _ _ _) (compEnvC _ _ _ _)) _ _ _
  k_steps
  try unfold Hold
  refine wpAny_call (c_col3 F (show News h₀ L s.heap news from N₀) X T (by omega) (by omega) (hneed _ (.tail _ (.tail _ (.head _)))) hp hz hW b0 b1 b2 fun t' h' tk' F' N' => ?_)
  exact ret _ [] _ _ F' N' (List.forall_mem_nil _) ⟨rfl, t', rfl⟩
end
end Mine
end
namespace Mine
theorem freshAtR3 : True := by
  (try (walk1; fail))
  w_top off
  trivial
end Mine
section
open PySem PySem.W PySem.Calls PyProof.Rows PyProof.Rows.LCg
set_option autoImplicit false
namespace Mine
set_option maxRecDepth 100000
set_option maxHeartbeats 8000000
theorem fillOfR3 : PySem.Challenge.rw_rl0102_01 = PySem.Challenge.rw_rl0102_01 ∧ KK = KK := by
  k_fill
  exact ⟨rfl, rfl⟩
variable {w : World} {dp un : Nat} {fr : Option (List Env)} {gd : Option (List Code)} {s : Shared} {h₀ : Heap} {L fa : Addr} {m : Str → Option Value} {news : List (Addr × Obj)} {p : Program} {loose : List Str} {mean : ExcName → Option Value} {mg mb : Str → Option Value}

theorem e_tab (X : (KK w.params).In h₀) (T : Top p loose mean mg mb h₀) (hdep : dp + 40 < recursionLimit) (hun : un + 300 < cLine) {C₁ cc : Addr} {oc op : Obj} {pw : Int} {tp : Tok} {ra : Addr} (hoc : oc.data = .cell (some (.ref ra))) (hop : op.data = .cell (some (.int pw tp))) {vs : List Value} {c : Nat} {l : List Int} (hi : IntsAre vs l) (hl : 1 ≤ l.length ∧ l.length ≤ 3) (hb : ∀ r ∈ l, 0 ≤ r ∧ r ≤ 8) (hp : 1 ≤ pw ∧ pw ≤ 4) {sz : Int} {tz : Tok} (hz : 1 ≤ sz ∧ sz ≤ 9) (hW : 1 ≤ sz * pw ∧ sz * pw ≤ 36) :
    MElt prg w (mkA dp un fr gd) h₀ L m (compEnvC lcTab.2.1 (((Str.ofString "left"), cc) :: [((Str.ofString "sizes"), L + 1 + 1), ((Str.ofString "power"), L + 1)]) C₁ (LE L fa)) lcTabIn.1 (Str.ofString "size") lcTabIn.2.1 [((Str.ofString "power"), L + 1), ((Str.ofString "left"), cc)] [(cc, oc), (L + 1, op), (ra, PySem.W.listOf (List.toArray vs) c)] (.int sz tz)
      (fun y ex => ex = [] ∧ ∃ t', y = .int (colF l pw sz) t') := by
  rcases hi with _ | ⟨r0, t0, hi⟩
  · simp at hl
  have b0 := hb r0 (.head _)
  rcases hi with _ | ⟨r1, t1, hi⟩
  · exact e_tab1 X T hdep hun hoc hop b0 hp hz hW
  have b1 := hb r1 (.tail _ (.head _))
  rcases hi with _ | ⟨r2, t2, hi⟩
  · exact e_tab2 X T hdep hun hoc hop b0 b1 hp hz hW
  have b2 := hb r2 (.tail _ (.tail _ (.head _)))
  rcases hi with _ | ⟨r3, t3, hi⟩
  · exact e_tab3 X T hdep hun hoc hop b0 b1 b2 hp hz hW
  · simp at hl
theorem off1_mem {D : Addr} : ∀ {l : Led}, Off1 D l → ∀ p ∈ l, p.1 ≠ D
  | [], _, _, hp => nomatch hp
  | q :: l, h, p, hp => by
    rcases List.mem_cons.mp hp with rfl | hp
    · exact h.1
    · exact off1_mem h.2 p hp
def tabF (l : List Int) (pw : Int) (n : Nat) : List Int := (List.range' 0 n).map fun j : Nat => colF l pw (1 + (j : Int))
theorem ints_of {g : Nat → Int} : ∀ (zs : List Value) (i : Nat), (∀ j y, zs[j]? = some y → ∃ t, y = Value.int (g (i + j)) t) → IntsAre zs ((List.range' i zs.length).map g)
  | [], _, _ => .nil
  | z :: zs, i, h => by
    obtain ⟨t, rfl⟩ := h 0 z rfl
    have r := ints_of (g := g) zs (i + 1) fun j y hj => by
      obtain ⟨t, e⟩ := h (j + 1) y (by simpa using hj)
      exact ⟨t, by rw [e, show i + (j + 1) = i + 1 + j by omega]⟩
    rw [List.length_cons, List.range'_succ, List.map_cons]
    exact .cons _ t r
theorem t_tab (X : (KK w.params).In h₀) (T : Top p loose mean mg mb h₀) (hdep : dp + 40 < recursionLimit) (hun : un + 300 < cLine) {C₁ cc r : Addr} {t₀ n : Nat} {op oss : Obj} {pw b : Int} {tp ta tb tc : Tok} (hop : op.data = .cell (some (.int pw tp))) (hss : oss.data = .cell (some (.ref r))) {a : Addr} {vs : List Value} {c : Nat} {l : List Int} (hi : IntsAre vs l) (hl : 1 ≤ l.length ∧ l.length ≤ 3) (hb : ∀ r ∈ l, 0 ≤ r ∧ r ≤ 8) (hp : 1 ≤ pw ∧ pw ≤ 4)
    (hsm : Builtin.Range.small 1 b 1 = true) (hrs : Builtin.Range.rangeSize 1 b 1 = ((n : Nat) : Int)) (hn9 : n ≤ 9) (hW : ∀ k : Int, 1 ≤ k → k ≤ n → 1 ≤ k * pw ∧ k * pw ≤ 36) :
    ElT prg w (mkA dp un fr gd) h₀ L m (compEnvC lcTab.2.1 (((Str.ofString "left"), cc) :: [((Str.ofString "sizes"), L + 1 + 1), ((Str.ofString "power"), L + 1)]) C₁ (LE L fa)) lcTab.1 (VisC C₁ cc) t₀ [(L + 1, op), (L + 1 + 1, oss), (r, rngObj 1 b ta tb tc), (a, PySem.W.listOf (List.toArray vs) c)] (.ref a)
      (fun y ex => ∃ D ys, y = .ref D ∧ ex = [(D, lst ys)] ∧ IntsAre ys (tabF l pw n)) := by
  rintro os s Q E news ⟨oC, m₂, oc, rfl, hC, hd⟩ F N hos hneed htk ret
  have m1 := hneed (L + 1, op) (.head _)
  have m2 := hneed (L + 1 + 1, oss) (.tail _ (.head _))
  have m3 := hneed (r, rngObj 1 b ta tb tc) (.tail _ (.tail _ (.head _)))
  have m4 := hneed (a, PySem.W.listOf (List.toArray vs) c) (.tail _ (.tail _ (.tail _ (.head _))))
  have m0 := hos (cc, oc) (.tail _ (.head _))
  with_unfolding_all show wpAny _ _ (eval (Expr.ListComp _ [⟨Expr.Name _ _, Expr.Name _ _, [], 0⟩] _ _) (compEnvC _ _ _ _)) _ _ _
  refine ListComp_U F (cl := [((Str.ofString "power"), L + 1), ((Str.ofString "left"), cc)]) (by with_unfolding_all rfl) (by decide) rfl (by decide) rfl ?_ (by intro _; rfl)
  refine wpAny_Name (wpAny_loadName_cell rfl (by with_unfolding_all rfl) rfl ⟨oss, (N _ m2).1, hss⟩ ?_) (by decide)
  refine CompSrc.range rfl F N (t := ta) (u := tb) (v := tc) (N _ m3).1 hsm hrs (Nat.le_trans hn9 (by show 9 ≤ sizeLine; decide)) fun g => ?_
  refine restN (need := [(cc, oc), (L + 1, op), (a, PySem.W.listOf (List.toArray vs) c)]) (V := fun j y => ∃ t', y = .int (colF l pw (1 + (j : Int))) t') (List.forall_mem_cons.mpr ⟨m0, List.forall_mem_cons.mpr ⟨m1, List.forall_mem_cons.mpr ⟨m4, List.forall_mem_nil _⟩⟩⟩) trivial n 0 [] (fun j v _ hj hP => ?_) (fun zs hzl hz => ?_)
  · obtain ⟨t, rfl⟩ := hP
    exact e_tab X T hdep hun hd hop hi hl hb hp (by omega) (hW _ (by omega) (by omega))
  · intro D h tk F' N' o1
    refine ret (.ref D) [(D, lst ([] ++ zs))] h tk F' N' (fun p hp q hq => ?_) ⟨D, [] ++ zs, rfl, rfl, ?_⟩
    · rw [List.mem_singleton.mp hp]
      exact off1_mem o1 q hq
    · have z := ints_of (g := fun j : Nat => colF l pw (1 + (j : Int))) zs 0 (fun j y hj => hz j y hj)
      rw [hzl] at z
      exact z
theorem s_tab (X : (KK w.params).In h₀) (T : Top p loose mean mg mb h₀) (hdep : dp + 40 < recursionLimit) (hun : un + 300 < cLine) (F : Fr h₀ L s.heap m) (N : News h₀ L s.heap news) {Q : Flow → Shared → Prop} {E : Value → Shared → Prop} {al r : Addr} {n : Nat} {op oss : Obj} {pw b : Int} {tp ta tb tc : Tok} (hop : op.data = .cell (some (.int pw tp))) (hpm : (L + 1, op) ∈ news) (hss : oss.data = .cell (some (.ref r))) (hsm' : (L + 1 + 1, oss) ∈ news) (hrm : (r, rngObj 1 b ta tb tc) ∈ news) (hp : 1 ≤ pw ∧ pw ≤ 4)
    (hsm : Builtin.Range.small 1 b 1 = true) (hrs : Builtin.Range.rangeSize 1 b 1 = ((n : Nat) : Int)) (hn9 : n ≤ 9) (hW : ∀ k : Int, 1 ≤ k → k ≤ n → 1 ≤ k * pw ∧ k * pw ≤ 36)
    (hm : m (Str.ofString "lefts") = some (.ref al)) {l0 l1 l2 : List Int} (hL : Lefts news al l0 l1 l2) (len : (1 ≤ l0.length ∧ l0.length ≤ 3) ∧ (1 ≤ l1.length ∧ l1.length ≤ 3) ∧ (1 ≤ l2.length ∧ l2.length ≤ 3)) (bd : (∀ r ∈ l0, 0 ≤ r ∧ r ≤ 8) ∧ (∀ r ∈ l1, 0 ≤ r ∧ r ≤ 8) ∧ (∀ r ∈ l2, 0 ≤ r ∧ r ≤ 8))
    (ret : ∀ D ex h' tk', s.toks ≤ tk' → Fr h₀ L h' (setm m (Str.ofString "tables") (.ref D)) → News h₀ L h' (ex ++ news) → Fresh ex news → Lefts ex D (tabF l0 pw n) (tabF l1 pw n) (tabF l2 pw n) → Q .next { s with heap := h', toks := tk' }) :
    wpAny (model prg w) (mkA dp un fr gd) (exec (nth powBody 6) (LE L fa)) Q E s := by
  obtain ⟨a0, a1, a2, c, hax, ⟨v0, c0, h0, i0⟩, ⟨v1, c1, h1, i1⟩, ⟨v2, c2, h2, i2⟩⟩ := hL
  with_unfolding_all show wpAny _ _ (exec (Stmt.Assign [Expr.Name _ _] (Expr.ListComp _ [⟨Expr.Name _ _, _, [], 0⟩] _ _) _) _) _ _ _
  refine comp_cellA (cl := [((Str.ofString "sizes"), L + 1 + 1), ((Str.ofString "power"), L + 1)]) (need := [(L + 1, op), (L + 1 + 1, oss), (r, rngObj 1 b ta tb tc), (a0, PySem.W.listOf (List.toArray v0) c0), (a1, PySem.W.listOf (List.toArray v1) c1), (a2, PySem.W.listOf (List.toArray v2) c2)])
    rfl (by show 3 ≤ sizeLine; decide) (by with_unfolding_all rfl) (fun _ _ => by with_unfolding_all rfl) (fun _ => by with_unfolding_all rfl) rfl (by decide) (fun _ _ => by with_unfolding_all rfl) (fun E' Q' h' => nameX_L F hm h' rfl (by with_unfolding_all rfl) (by decide))
    (Ps := [_, _, _]) (its := #[.ref a0, .ref a1, .ref a2]) rfl
    (fun C cc => idx3 ((t_tab X T hdep hun hop hss i0 len.1 bd.1 hp hsm hrs hn9 hW).need (List.forall_mem_cons.mpr ⟨by k_mem, List.forall_mem_cons.mpr ⟨by k_mem, List.forall_mem_cons.mpr ⟨by k_mem, (List.forall_mem_cons.mpr ⟨by k_mem, List.forall_mem_nil _⟩)⟩⟩⟩)) ((t_tab X T hdep hun hop hss i1 len.2.1 bd.2.1 hp hsm hrs hn9 hW).need (List.forall_mem_cons.mpr ⟨by k_mem, List.forall_mem_cons.mpr ⟨by k_mem, List.forall_mem_cons.mpr ⟨by k_mem, (List.forall_mem_cons.mpr ⟨by k_mem, List.forall_mem_nil _⟩)⟩⟩⟩)) ((t_tab X T hdep hun hop hss i2 len.2.2 bd.2.2 hp hsm hrs hn9 hW).need (List.forall_mem_cons.mpr ⟨by k_mem, List.forall_mem_cons.mpr ⟨by k_mem, List.forall_mem_cons.mpr ⟨by k_mem, (List.forall_mem_cons.mpr ⟨by k_mem, List.forall_mem_nil _⟩)⟩⟩⟩)))
    rem3 (List.forall_mem_cons.mpr ⟨hpm, List.forall_mem_cons.mpr ⟨hsm', List.forall_mem_cons.mpr ⟨hrm, List.forall_mem_cons.mpr ⟨h0, List.forall_mem_cons.mpr ⟨h1, List.forall_mem_cons.mpr ⟨h2, List.forall_mem_nil _⟩⟩⟩⟩⟩⟩) hax F N ?_ rfl (by with_unfolding_all rfl) (by with_unfolding_all rfl) (by with_unfolding_all rfl)
  rintro D ys news' h tk htk ⟨y0, y1, y2, x0, x1, x2, ex, rfl, rfl, fr, ⟨D0, z0, rfl, rfl, j0⟩, ⟨D1, z1, rfl, rfl, j1⟩, ⟨D2, z2, rfl, rfl, j2⟩, k0, k1, k2⟩ F' N' off
  refine ret D ((D, lst [.ref D0, .ref D1, .ref D2]) :: ex) h tk htk F' N' (fun p hp q hq => ?_) ⟨D0, D1, D2, 3, .head _, ⟨z0, _, .tail _ (k0 _ (.head _)), j0⟩, ⟨z1, _, .tail _ (k1 _ (.head _)), j1⟩, ⟨z2, _, .tail _ (k2 _ (.head _)), j2⟩⟩
  rcases List.mem_cons.mp hp with rfl | hp
  · exact off q (List.mem_append_right _ hq)
  · exact fr p hp q hq
end Mine
end
namespace Mine
theorem freshAtZp1 : True := by
  (try (walk1; fail))
  w_top off
  trivial
end Mine
section
open PySem PySem.W PySem.Calls PyProof.Rows PyProof.Rows.LCg
set_option autoImplicit false
namespace Mine
set_option maxRecDepth 100000
set_option maxHeartbeats 8000000
theorem fillOfZp1 : PySem.Challenge.rw_rl0102_01 = PySem.Challenge.rw_rl0102_01 ∧ KK = KK := by
  k_fill
  exact ⟨rfl, rfl⟩
variable {w : World} {dp un : Nat} {fr : Option (List Env)} {gd : Option (List Code)} {s : Shared} {h₀ : Heap} {L fa : Addr} {m : Str → Option Value} {news : List (Addr × Obj)} {p : Program} {loose : List Str} {mean : ExcName → Option Value} {mg mb : Str → Option Value}

def zipG (nx ny : List Int) (i : Nat) : List Int := (((nx.zip ny).take i).filter fun p => decide (p.2 ≤ p.1)).map (·.1)
theorem zipG_step {nx ny : List Int} {i : Nat} {x y : Int} (hx : nx[i]? = some x) (hy : ny[i]? = some y) : zipG nx ny (i + 1) = zipG nx ny i ++ (if y ≤ x then [x] else []) := by
  have e : (nx.zip ny)[i]? = some (x, y) := by rw [List.getElem?_zip_eq_some]; exact ⟨hx, hy⟩
  unfold zipG
  rw [List.take_add_one, e]
  by_cases h : y ≤ x <;> simp [h]
section
variable {prog : Program} {A : Around}
theorem zip_loop {elt target iter test : Expr} {scope : Scope} {pos pe p1 p2 p3 pa pb pt : Pos} {kk : Nat} {xa xb : Str} {cenv : Env} {z TI TO i1 i2 l1 l2 D : Addr} {vx vy : List Value} {nx ny : List Int} {R : Result → Shared → Prop} {s : Shared} {mC : Str → Option Value}
    (hh : A.handled = none) (Z : ZipApart z TI TO i1 i2 l1 l2) (hix : IntsAre vx nx) (hiy : IntsAre vy ny) (hlen : nx.length = ny.length) (hsz : nx.length ≤ 60)
    (he : elt = .Name xa pe) (ht : test = .Compare (.Name xa p1) [.GtE] [.Name xb p2] p3) (htg : target = .Tuple [.Name xa pa, .Name xb pb] kk pt)
    (hka : cenv.kindOf xa = some .local) (hkb : cenv.kindOf xb = some .local) (hkf : cenv.scope.kind = .function) (hp : (cenv.scope.kind == .class || (cenv.scope.kind == .module && cenv.locals != cenv.globals)) = false) (hab : xa ≠ xb) (hda : (xa == ("__debug__" : Str)) = false) (hdb : (xb == ("__debug__" : Str)) = false)
    (hC : cenv.locals ∉ [z, TI, TO, i1, i2, l1, l2]) (hD : D ∉ [z, TI, TO, i1, i2, l1, l2]) (hDC : D ≠ cenv.locals)
    (hst : IsZip s.heap z TI TO .none ∧ IsPair s.heap TI (.ref i1) (.ref i2) ∧ (∃ a b, IsPair s.heap TO a b) ∧ s.heap.IsListIter i1 l1 0 ∧ s.heap.IsListIter i2 l2 0 ∧ s.heap.IsList l1 vx.toArray ∧ s.heap.IsList l2 vy.toArray)
    (hacc : s.heap.get? D = some (lst [])) (hn : s.heap.Ns cenv.locals mC)
    (hR : ∀ us h' tk m', IntsAre us (zipG nx ny nx.length) → h'.Ns cenv.locals m' → h'.get? D = some (lst us) → (∀ b o, b ≠ cenv.locals → b ∉ [z, TO, i1, i2] → b ≠ D → s.heap.get? b = some o → h'.get? b = some o) → R (.ok .next) { s with heap := h', toks := tk }) :
    codeAny (model prog w) A (.compLoop (.ListComp elt [⟨target, iter, [test], 0⟩] scope pos) 0 (.ref z) (.ref D) cenv) R s := by
  subst he ht htg
  have W := WalksT.zip2 (prog := prog) (w := w) hh z TI TO i1 i2 l1 l2 Z vx.toArray vy.toArray
  have hmin : min vx.toArray.size vy.toArray.size = nx.length := by rw [List.size_toArray, List.size_toArray, hix.length, hiy.length, ← hlen, Nat.min_self]
  rw [hmin] at W
  have hCw : cenv.locals ∉ [z, TO, i1, i2] := fun h => hC (W.sub _ h)
  have hDw : D ∉ [z, TO, i1, i2] := fun h => hD (W.sub _ h)
  refine kct_loop (fun k s' => ∃ h' tk m' us i, s' = { s with heap := h', toks := tk } ∧ (IsZip h' z TI TO .none ∧ IsPair h' TI (.ref i1) (.ref i2) ∧ (∃ a b, IsPair h' TO a b) ∧ h'.IsListIter i1 l1 i ∧ h'.IsListIter i2 l2 i ∧ h'.IsList l1 vx.toArray ∧ h'.IsList l2 vy.toArray) ∧ h'.get? D = some (lst us) ∧ h'.Ns cenv.locals m' ∧ IntsAre us (zipG nx ny i) ∧ us.length ≤ i ∧ i ≤ nx.length ∧ k = nx.length + 1 - i ∧
      (∀ b o, b ≠ cenv.locals → b ∉ [z, TO, i1, i2] → b ≠ D → s.heap.get? b = some o → h'.get? b = some o)) ?_ (nx.length + 1)
    ⟨s.heap, s.toks, mC, [], 0, rfl, hst, hacc, hn, .nil, Nat.le_refl _, Nat.zero_le _, rfl, fun _ _ _ _ _ e => e⟩
  rintro k s' ⟨H, tk, m', us, i, rfl, hst', hacc', hn', hus, hul, hi, rfl, hk⟩
  by_cases hlt : i < nx.length
  · refine W.item i _ _ _ hlt hst' fun T vals h₁ tk₁ hPt hT hTup hMid hk₁ => ?_
    obtain ⟨x, y, hx, hy, rfl⟩ := hPt
    obtain ⟨nx', tx, rfl, hnx⟩ := hix.at i x (by simpa using hx)
    obtain ⟨ny', ty, rfl, hny⟩ := hiy.at i y (by simpa using hy)
    refine W.go _ _ _ i T _ _ _ hMid fun h₂ hst₂ hk₂ => ?_
    have hTw : T ∉ [z, TO, i1, i2] := W.apart i T h₁ hMid
    have hTup₂ : h₂.IsTuple T #[.int nx' tx, .int ny' ty] := by
      obtain ⟨o, q, r⟩ := hTup
      exact ⟨o, hk₂ T o hTw q, r⟩
    have up₂ : ∀ b o, b ∉ [z, TO, i1, i2] → H.get? b = some o → h₂.get? b = some o := fun b o hb e => hk₂ b o hb (hk₁ b o hb e)
    refine kcp_assign hh hTup₂ hka hkb hp (hn'.at' fun o e => up₂ _ o hCw e) fun h₃ tk₃ hn₃ hk₃ => ?_
    have hst₃ := W.frame _ _ h₃ hst₂ fun b hb o e => hk₃ b o (fun q => hC (q ▸ hb)) e
    have up₃ : ∀ b o, b ≠ cenv.locals → b ∉ [z, TO, i1, i2] → H.get? b = some o → h₃.get? b = some o := fun b o hc hb e => hk₃ b o hc (up₂ b o hb e)
    have hacc₃ := up₃ D _ hDC hDw hacc'
    refine wpAny_isTrue_Compare1 ?_
    refine wpAny_Name (wpAny_loadName_local hkf hka hn₃ (v := .int nx' tx) (by simp [hab]) ?_) hda
    refine wpAny_Name (wpAny_loadName_local hkf hkb hn₃ (v := .int ny' ty) (by simp) ?_) hdb
    show wpAny _ _ (compareOp .GtE (.int nx' tx) (.int ny' ty)) _ _ _
    refine ge_int (wpAny_truthy_bool ?_)
    have step := zipG_step hnx hny
    by_cases hle : ny' ≤ nx'
    · rw [if_pos hle] at step
      have hd : decide (ny' ≤ nx') = true := decide_eq_true hle
      first | rw [hd] | rw [decide_eq_true (show nx' ≥ ny' from hle)]
      simp only [if_true]
      refine wpAny_Name (wpAny_loadName_local hkf hka hn₃ (v := .int nx' tx) (by simp [hab]) ?_) hda
      refine append_at (hsz := by rw [List.size_toArray]; exact Nat.le_trans hul (Nat.le_trans hi (Nat.le_trans hsz (by show 60 ≤ sizeLine; decide)))) hacc₃ fun h₄ hs₄ hD₄ => ?_
      have hst₄ := W.frame _ _ h₄ hst₃ fun b hb o e => hs₄.extBut b o (fun q => hD (q ▸ hb)) e
      refine ⟨nx.length + 1 - (i + 1), by omega, h₄, _, _, us ++ [.int nx' tx], i + 1, rfl, hst₄, hD₄.trans (congrArg some (lst_snoc us _)), hn₃.sameBut hs₄ (Ne.symm hDC), ?_, by rw [List.length_append, List.length_singleton]; omega, hlt, rfl, fun b o h1 h2 h3 e => hs₄.extBut b o h3 (up₃ b o h1 h2 (hk b o h1 h2 h3 e))⟩
      rw [step]
      exact hus.append (.cons _ _ .nil)
    · rw [if_neg hle, List.append_nil] at step
      have hd : decide (ny' ≤ nx') = false := decide_eq_false hle
      first | rw [hd] | rw [decide_eq_false (show ¬ nx' ≥ ny' from hle)]
      simp only [Bool.false_eq_true, if_false]
      refine ⟨nx.length + 1 - (i + 1), by omega, h₃, _, _, us, i + 1, rfl, hst₃, hacc₃, hn₃, ?_, by omega, hlt, rfl, fun b o h1 h2 h3 e => up₃ b o h1 h2 (hk b o h1 h2 h3 e)⟩
      rw [step]
      exact hus
  · obtain rfl : i = nx.length := Nat.le_antisymm hi (Nat.not_lt.mp hlt)
    refine W.done _ _ _ hst' fun h₂ tk₂ hk₂ => ?_
    exact hR us h₂ tk₂ m' hus (hn'.at' fun o e => hk₂ _ o hCw e) (hk₂ D _ hDw hacc') fun b o h1 h2 h3 e => hk₂ b o h2 (hk b o h1 h2 h3 e)
theorem zip_compK {elt target iter test : Expr} {scope : Scope} {cl : List (Str × Addr)} {pos pe p1 p2 p3 pa pb pt : Pos} {kk : Nat} {xa xb : Str} {env : Env} {z TI TO i1 i2 l1 l2 : Addr} {vx vy : List Value} {nx ny : List Int} {s : Shared} {Q E : Value → Shared → Prop}
    (hh : A.handled = none) (Z : ZipApart z TI TO i1 i2 l1 l2) (hix : IntsAre vx nx) (hiy : IntsAre vy ny) (hlen : nx.length = ny.length) (hsz : nx.length ≤ 60)
    (he : elt = .Name xa pe) (ht : test = .Compare (.Name xa p1) [.GtE] [.Name xb p2] p3) (htg : target = .Tuple [.Name xa pa, .Name xb pb] kk pt)
    (hcell : ∀ y ∈ scope.names, y.2 ≠ .cell) (hkind : scope.kind = .function) (hxa : scope.names.lookup xa = some .local) (hxb : scope.names.lookup xb = some .local) (hab : xa ≠ xb) (hda : (xa == ("__debug__" : Str)) = false) (hdb : (xb == ("__debug__" : Str)) = false)
    (hst : IsZip s.heap z TI TO .none ∧ IsPair s.heap TI (.ref i1) (.ref i2) ∧ (∃ a b, IsPair s.heap TO a b) ∧ s.heap.IsListIter i1 l1 0 ∧ s.heap.IsListIter i2 l2 0 ∧ s.heap.IsList l1 vx.toArray ∧ s.heap.IsList l2 vy.toArray)
    (hQ : ∀ D us h' tk, IntsAre us (zipG nx ny nx.length) → h'.get? D = some (lst us) → s.heap.get? D = none → s.heap.objs.size ≤ D → (∀ b o, b ∉ [z, TO, i1, i2] → s.heap.get? b = some o → h'.get? b = some o) → Q (.ref D) { s with heap := h', toks := tk }) :
    wpAny (model prog w) A (pyIter (.ref z)) (fun it s₂ => wpAny (model prog w) A (newList []) (fun acc s₃ =>
      wpAny (model prog w) A (newFunctionEnv scope env.globals cl [] env.qual none .none (some env)) (fun cenv s₄ =>
        codeAny (model prog w) A (.compStart (.ListComp elt [⟨target, iter, [test], 0⟩] scope pos) 0 it acc { cenv with scope := relabel scope env }) (compPost (model prog w) A E none Q acc cenv.locals) s₄) E s₃) E s₂) E s := by
  obtain ⟨hz, hTI, ⟨ta, tb, hTO⟩, hi1, hi2, hl1, hl2⟩ := hst
  refine wpAny_pyIter_zip hz ?_
  refine wpAny_newObj_type ?_
  refine wpAny_newFunctionEnv hcell (by intro y hy; simp at hy) (fun h₁ hns hsb => ?_) hkind
  dsimp only at hns hsb ⊢
  have e1 : (s.heap.push (lst [])).objs.size = s.heap.objs.size + 1 := Heap.size_push ..
  have lt : ∀ {b : Addr} {o : Obj}, s.heap.get? b = some o → b < s.heap.objs.size := fun e => Heap.lt_size e
  have up : ∀ b o, s.heap.get? b = some o → h₁.get? b = some o := fun b o e => hsb.extBut b o (Nat.ne_of_lt (Nat.lt_trans (Heap.lt_size e) (by show s.heap.objs.size < (s.heap.push (lst [])).objs.size; rw [e1]; exact Nat.lt_succ_self _))) (Heap.get?_push_of_some _ (Heap.get?_push_of_some _ e))
  have hDC : s.heap.objs.size ≠ (s.heap.push (lst [])).objs.size := by rw [e1]; exact Nat.ne_of_lt (Nat.lt_succ_self _)
  have hacc : h₁.get? s.heap.objs.size = some (lst []) := hsb.extBut _ _ hDC (Heap.get?_push_of_some _ (Heap.get?_push_size _ rfl))
  obtain ⟨o1, q1, r1⟩ := id hi1
  obtain ⟨o2, q2, r2⟩ := id hi2
  obtain ⟨o3, q3, r3⟩ := id hl1
  obtain ⟨o4, q4, r4⟩ := id hl2
  have all : ∀ b ∈ [z, TI, TO, i1, i2, l1, l2], b < s.heap.objs.size := by
    simp only [List.mem_cons, List.not_mem_nil, or_false]
    rintro b (rfl | rfl | rfl | rfl | rfl | rfl | rfl)
    · exact lt hz
    · exact lt hTI
    · exact lt hTO
    · exact lt q1
    · exact lt q2
    · exact lt q3
    · exact lt q4
  have loop : codeAny (model prog w) A (.compLoop (.ListComp elt [⟨target, iter, [test], 0⟩] scope pos) 0 (.ref z) (.ref s.heap.objs.size) (compEnvC scope cl (s.heap.push (lst [])).objs.size env)) (compPost (model prog w) A E none Q (.ref s.heap.objs.size) (s.heap.push (lst [])).objs.size) { s with heap := h₁, toks := s.toks + ([] : List (Str × Value)).length } := by
    refine zip_loop (l1 := l1) (l2 := l2) (TI := TI) (TO := TO) (i1 := i1) (i2 := i2) (vx := vx) (vy := vy) (cenv := compEnvC scope cl (s.heap.push (lst [])).objs.size env) hh Z hix hiy hlen hsz he ht htg (lookup_relabel_local hxa) (lookup_relabel_local hxb) (by simp [compEnvC, relabel, hkind]) (by simp [compEnvC, relabel, hkind]) hab hda hdb
      (fun hm => ?_) (fun hm => ?_) hDC ⟨up _ _ hz, up _ _ hTI, ⟨ta, tb, up _ _ hTO⟩, ⟨o1, up _ _ q1, r1⟩, ⟨o2, up _ _ q2, r2⟩, ⟨o3, up _ _ q3, r3⟩, ⟨o4, up _ _ q4, r4⟩⟩ hacc hns ?_
    · have z1 := all _ hm
      have z2 : (s.heap.push (lst [])).objs.size < s.heap.objs.size := z1
      rw [e1] at z2
      exact Nat.lt_irrefl _ (Nat.lt_of_succ_lt z2)
    · exact Nat.lt_irrefl _ (all _ hm)
    · intro us h' tk m' hus hn' hD hk
      refine ⟨m', hn', fun h'' hs'' => hQ _ us h'' _ hus (hs''.extBut _ _ hDC hD) ?_ (Nat.le_refl _) fun b o hb e => hs''.extBut b o ?_ (hk b o ?_ hb (Nat.ne_of_lt (lt e)) (up b o e))⟩
      · exact Heap.get?_none_of_le (Nat.le_refl _)
      · exact Nat.ne_of_lt (Nat.lt_trans (lt e) (by rw [e1]; exact Nat.lt_succ_self _))
      · exact Nat.ne_of_lt (Nat.lt_trans (lt e) (by show s.heap.objs.size < (s.heap.push (lst [])).objs.size; rw [e1]; exact Nat.lt_succ_self _))
  exact codeAny_compStart_list loop (wpAny_pyIter_zip (up _ _ hz) loop)
end
end Mine
end
namespace Mine
theorem freshAtQ1 : True := by
  (try (walk1; fail))
  w_top off
  trivial
end Mine
section
open PySem PySem.W PySem.Calls PyProof.Rows PyProof.Rows.LCg
set_option autoImplicit false
namespace Mine
set_option maxRecDepth 100000
set_option maxHeartbeats 8000000
theorem fillOfQ1 : PySem.Challenge.rw_rl0102_01 = PySem.Challenge.rw_rl0102_01 ∧ KK = KK := by
  k_fill
  exact ⟨rfl, rfl⟩
variable {w : World} {dp un : Nat} {fr : Option (List Env)} {gd : Option (List Code)} {s : Shared} {h₀ : Heap} {L fa : Addr} {m : Str → Option Value} {news : List (Addr × Obj)} {p : Program} {loose : List Str} {mean : ExcName → Option Value} {mg mb : Str → Option Value}

section
local macro_rules | `(tactic| walk_at "eval ListComp") => `(tactic| (refine hold ?_))
local macro_rules | `(tactic| walk_at "call type:zip") => `(tactic| (refine hold ?_))
local macro_rules | `(tactic| walk_at "newList") => `(tactic| (refine hold ?_))
local macro_rules | `(tactic| walk_at "newList cons") => `(tactic| (refine hold ?_))
local macro_rules | `(tactic| walk_at "eval Name") => `(tactic| (k_here; k_dflt (refine nameX_L (by k_asm) (by assumption) ?_ (by rfl) (by rfl) (by decide))))
/-- one of three -/
def sel {α : Type} (a b c : α) (i : Int) : α := if i = 0 then a else if i = 1 then b else c
theorem s_below (X : (KK w.params).In h₀) (T : Top p loose mean mg mb h₀) (hdep : dp + 40 < recursionLimit) (hun : un + 300 < cLine) (F : Fr h₀ L s.heap m) (N : News h₀ L s.heap news) {Q : Flow → Shared → Prop} {E : Value → Shared → Prop} {at' D0 D1 D2 : Addr} {c n : Nat} {t0 t1 t2 : List Int} {i j : Int} {ti tj : Tok} (hm : m (Str.ofString "tables") = some (.ref at')) (hmi : m (Str.ofString "one") = some (.int i ti)) (hmj : m (Str.ofString "other") = some (.int j tj)) (hat : (at', PySem.W.listOf #[.ref D0, .ref D1, .ref D2] c) ∈ news) (h0 : Nts news D0 t0) (h1 : Nts news D1 t1) (h2 : Nts news D2 t2)
    (len : t0.length = n ∧ t1.length = n ∧ t2.length = n) (hn : n ≤ 60) (hij : (i = 0 ∧ j = 1) ∨ (i = 1 ∧ j = 2) ∨ (i = 2 ∧ j = 0))
    (ret : ∀ ex h' tk', s.toks ≤ tk' → Fr h₀ L h' (setm m (Str.ofString "below") (.bool (decide (zipG (sel t0 t1 t2 i) (sel t0 t1 t2 j) n = [])))) → News h₀ L h' (ex ++ news) → Fresh ex news → Q .next { s with heap := h', toks := tk' }) :
    wpAny (model prg w) (mkA dp un fr gd) (exec (nth pairBody 0) (LE L fa)) Q E s := by
  refine wpAny_with_toks (n := s.toks) (Nat.le_refl _) ?_
  have core : ∀ {Da Db : Addr} {ta tb : List Int} {s₁ : Shared} {Q' E' : Value → Shared → Prop} {elt iter test target : Expr} {scope : Scope} {cl : List (Str × Addr)} {env : Env} {pos pe p1 p2 p3 pa pb pt : Pos} {kk : Nat} {xa xb : Str}, s₁.heap = s.heap → Nts news Da ta → Nts news Db tb → ta.length = n → tb.length = n →
      elt = .Name xa pe → test = .Compare (.Name xa p1) [.GtE] [.Name xb p2] p3 → target = .Tuple [.Name xa pa, .Name xb pb] kk pt → (∀ y ∈ scope.names, y.2 ≠ .cell) → scope.kind = .function → scope.names.lookup xa = some .local → scope.names.lookup xb = some .local → xa ≠ xb → (xa == ("__debug__" : Str)) = false → (xb == ("__debug__" : Str)) = false →
      (∀ D us h' tk, Fr h₀ L h' m → News h₀ L h' ((D, lst us) :: news) → (∀ p ∈ news, p.1 ≠ D) → IntsAre us (zipG ta tb n) → Q' (.ref D) { s₁ with heap := h', toks := tk }) →
      wpAny (model prg w) (mkA dp un fr gd) (call (.type "zip") [.ref Da, .ref Db]) (fun xv s₂ => wpAny (model prg w) (mkA dp un fr gd) (pyIter xv) (fun it s₂ => wpAny (model prg w) (mkA dp un fr gd) (newList []) (fun acc s₃ =>
        wpAny (model prg w) (mkA dp un fr gd) (newFunctionEnv scope env.globals cl [] env.qual none .none (some env)) (fun cenv s₄ =>
        codeAny (model prg w) (mkA dp un fr gd) (.compStart (.ListComp elt [⟨target, iter, [test], 0⟩] scope pos) 0 it acc { cenv with scope := relabel scope env }) (compPost (model prg w) (mkA dp un fr gd) E' none Q' acc cenv.locals) s₄) E' s₃) E' s₂) E' s₂) E' s₁ := by
    intro Da Db ta tb s₁ Q' E' elt iter test target scope cl env pos pe p1 p2 p3 pa pb pt kk xa xb hs1 ⟨va, ca, ma, ia⟩ ⟨vb, cb, mb, ib⟩ la lb he ht htg a1 a2 a3 a4 a5 a6 a7 hQ
    have F1 : Fr h₀ L s₁.heap m := by rw [hs1]; exact F
    have N1 : News h₀ L s₁.heap news := by rw [hs1]; exact N
    refine zip_rows F1 ⟨_, (N1 _ ma).1, rfl, _, rfl⟩ ⟨_, (N1 _ mb).1, rfl, _, rfl⟩ fun h' z TI TO i1 i2 Z hst F' hk l0 l1 l2 l3 hL => ?_
    refine zip_compK rfl Z ia ib (la.trans lb.symm) (by omega) he ht htg a1 a2 a3 a4 a5 a6 a7 hst fun D us h2 tk hus hD hDn hDl hk2 => ?_
    rw [la] at hus
    have lt1 : ∀ p ∈ news, p.1 < s₁.heap.objs.size := fun p hp => Heap.lt_size (N1 p hp).1
    have hLs : @LT.lt Nat _ L s₁.heap.objs.size := F1.ns.lt
    have hw : ∀ b : Addr, b < s₁.heap.objs.size → b ∉ [z, TO, i1, i2] := fun b hb => by
      simp only [List.mem_cons, List.not_mem_nil, or_false]
      rintro (rfl | rfl | rfl | rfl)
      · exact Nat.lt_irrefl _ (Nat.lt_of_lt_of_le hb l0)
      · exact Nat.lt_irrefl _ (Nat.lt_of_lt_of_le hb l1)
      · exact Nat.lt_irrefl _ (Nat.lt_of_lt_of_le hb l2)
      · exact Nat.lt_irrefl _ (Nat.lt_of_lt_of_le hb l3)
    have kp : ∀ b o, s₁.heap.get? b = some o → h2.get? b = some o := fun b o e => hk2 b o (hw b (Heap.lt_size e)) (hk b o e)
    have hDs : ∀ b o, s₁.heap.get? b = some o → b ≠ D := fun b o e q => by
      have := hk b o e
      rw [q] at this
      exact absurd (hDn.symm.trans this) (by simp)
    obtain ⟨oL, _, _, eL, _⟩ := F1.ns
    refine hQ D us h2 tk (F1.keeps kp) (fun p hp => ?_) (fun p hp => hDs _ _ (N1 p hp).1) hus
    rcases List.mem_cons.mp hp with rfl | hp
    · refine ⟨hD, Ne.symm (hDs _ _ eL), ?_⟩
      cases e : h₀.get? D with
      | none => rfl
      | some o => exact absurd rfl (hDs _ _ (F1.keep _ _ e))
    · exact ⟨kp _ _ (N1 p hp).1, (N1 p hp).2⟩
  with_unfolding_all show wpAny _ _ (exec (Stmt.Assign [Expr.Name _ _] (Expr.Compare (Expr.ListComp _ [⟨_, Expr.Call _ _ _ _, [_], 0⟩] _ _) [_] [Expr.List _ _] _) _) _) _ _ _
  k_steps
  unfold Hold
  rw [eval_ListComp]
  refine wpAny_comprehension_free (cl := []) (use := none) rfl (by intro _; rfl) (by with_unfolding_all rfl) rfl (by decide) ?_
  show wpAny _ _ (eval (Expr.Call _ _ _ _) (LE L fa)) _ _ _
  have N₀ : Hold (News h₀ L s.heap news) := N
  have N2 : News h₀ L s.heap [(at', PySem.W.listOf #[.ref D0, .ref D1, .ref D2] c)] := news_sub N (List.forall_mem_cons.mpr ⟨by k_mem, List.forall_mem_nil _⟩)
  clear N
  rcases hij with ⟨rfl, rfl⟩ | ⟨rfl, rfl⟩ | ⟨rfl, rfl⟩
  · k_steps
    unfold Hold
    clear N2
    refine core (env := LE L fa) rfl h0 h1 len.1 len.2.1 rfl rfl rfl (by decide) rfl rfl rfl (by decide) (by decide) (by decide) ?_
    intro D us h' tk F1 N1 fD hus
    have N₁ : Hold (News h₀ L h' _) := N1
    clear N1 N₀ F
    k_steps
    unfold Hold
    refine newList_N F1 N₁ (fun h3 F3 N3 => ?_) (by show 0 ≤ sizeLine; decide)
    refine eq_nts (l := zipG t0 t1 n) (l' := []) N3 ⟨us, _, .tail _ (.head _), hus⟩ ⟨[], 0, .head _, .nil⟩ (by dsimp only [mkA]; omega) ?_
    refine storeX_L F3 N3 (fun h4 F4 N4 => ?_) rfl (by with_unfolding_all rfl)
    intro htk
    refine ret [(D, lst us)] h4 _ htk F4 (fun p hp => N4 p (.tail _ hp)) (fun p hp q hq => ?_)
    rw [List.mem_singleton.mp hp]
    exact fD q hq
  · k_steps
    unfold Hold
    clear N2
    refine core (env := LE L fa) rfl h1 h2 len.2.1 len.2.2 rfl rfl rfl (by decide) rfl rfl rfl (by decide) (by decide) (by decide) ?_
    intro D us h' tk F1 N1 fD hus
    have N₁ : Hold (News h₀ L h' _) := N1
    clear N1 N₀ F
    k_steps
    unfold Hold
    refine newList_N F1 N₁ (fun h3 F3 N3 => ?_) (by show 0 ≤ sizeLine; decide)
    refine eq_nts (l := zipG t1 t2 n) (l' := []) N3 ⟨us, _, .tail _ (.head _), hus⟩ ⟨[], 0, .head _, .nil⟩ (by dsimp only [mkA]; omega) ?_
    refine storeX_L F3 N3 (fun h4 F4 N4 => ?_) rfl (by with_unfolding_all rfl)
    intro htk
    refine ret [(D, lst us)] h4 _ htk F4 (fun p hp => N4 p (.tail _ hp)) (fun p hp q hq => ?_)
    rw [List.mem_singleton.mp hp]
    exact fD q hq
  · k_steps
    unfold Hold
    clear N2
    refine core (env := LE L fa) rfl h2 h0 len.2.2 len.1 rfl rfl rfl (by decide) rfl rfl rfl (by decide) (by decide) (by decide) ?_
    intro D us h' tk F1 N1 fD hus
    have N₁ : Hold (News h₀ L h' _) := N1
    clear N1 N₀ F
    k_steps
    unfold Hold
    refine newList_N F1 N₁ (fun h3 F3 N3 => ?_) (by show 0 ≤ sizeLine; decide)
    refine eq_nts (l := zipG t2 t0 n) (l' := []) N3 ⟨us, _, .tail _ (.head _), hus⟩ ⟨[], 0, .head _, .nil⟩ (by dsimp only [mkA]; omega) ?_
    refine storeX_L F3 N3 (fun h4 F4 N4 => ?_) rfl (by with_unfolding_all rfl)
    intro htk
    refine ret [(D, lst us)] h4 _ htk F4 (fun p hp => N4 p (.tail _ hp)) (fun p hp q hq => ?_)
    rw [List.mem_singleton.mp hp]
    exact fD q hq
end
end Mine
end
namespace Mine
theorem freshAtQ2 : True := by
  (try (walk1; fail))
  w_top off
  trivial
end Mine
section
open PySem PySem.W PySem.Calls PyProof.Rows PyProof.Rows.LCg
set_option autoImplicit false
namespace Mine
set_option maxRecDepth 100000
set_option maxHeartbeats 8000000
theorem fillOfQ2 : PySem.Challenge.rw_rl0102_01 = PySem.Challenge.rw_rl0102_01 ∧ KK = KK := by
  k_fill
  exact ⟨rfl, rfl⟩
variable {w : World} {dp un : Nat} {fr : Option (List Env)} {gd : Option (List Code)} {s : Shared} {h₀ : Heap} {L fa : Addr} {m : Str → Option Value} {news : List (Addr × Obj)} {p : Program} {loose : List Str} {mean : ExcName → Option Value} {mg mb : Str → Option Value}

def lessW (q q' : WS) : Bool := lessF q.1 q.2.1 q.2.2.1 q.2.2.2 (decide ((q.1.length : Int) ≤ 1)) q'.1 q'.2.1 q'.2.2.1 q'.2.2.2 (decide ((q'.1.length : Int) ≤ 1))
def eqW (q q' : WS) : Bool := decide (q.1 = q'.1 ∧ q.2.1 = q'.2.1)
section
local macro_rules | `(tactic| walk_at "call ref") => `(tactic| (refine hold ?_))
local macro_rules | `(tactic| walk_at "eval Name") => `(tactic| (k_here; k_dflt (first | (refine nameX_C (by k_asm) (by rfl) (by k_mem) (by assumption) ?_ (by rfl) (by rfl) (by decide)) | (refine nameX_L (by k_asm) (by assumption) ?_ (by rfl) (by rfl) (by decide)))))
theorem s_less (X : (KK w.params).In h₀) (T : Top p loose mean mg mb h₀) (hdep : dp + 40 < recursionLimit) (hun : un + 300 < cLine) (F : Fr h₀ L s.heap m) (N : News h₀ L s.heap news) {Q : Flow → Shared → Prop} {E : Value → Shared → Prop} {ad : Addr} {ol : Obj} {q0 q1 q2 : WS} (hol : ol.data = .cell (some (.ref ad))) (hlm : (L + 1 + 1 + 1 + 1 + 1, ol) ∈ news) (hQ : Leads news ad q0 q1 q2) (bq : (q0.1.length ≤ 9 ∧ (0 ≤ q0.2.1 ∧ q0.2.1 ≤ 8) ∧ ∀ c ∈ q0.1, 0 ≤ c ∧ c ≤ 60) ∧ (q1.1.length ≤ 9 ∧ (0 ≤ q1.2.1 ∧ q1.2.1 ≤ 8) ∧ ∀ c ∈ q1.1, 0 ≤ c ∧ c ≤ 60) ∧ (q2.1.length ≤ 9 ∧ (0 ≤ q2.2.1 ∧ q2.2.1 ≤ 8) ∧ ∀ c ∈ q2.1, 0 ≤ c ∧ c ≤ 60)) {i j : Int} {ti tj : Tok} (hmi : m (Str.ofString "one") = some (.int i ti)) (hmj : m (Str.ofString "other") = some (.int j tj)) (hij : (i = 0 ∧ j = 1) ∨ (i = 1 ∧ j = 2) ∨ (i = 2 ∧ j = 0)) {bb : Bool} (hmb : m (Str.ofString "below") = some (.bool bb)) (he : lessW (sel q0 q1 q2 i) (sel q0 q1 q2 j) = bb)
    (ret : ∀ h' tk', s.toks ≤ tk' → Fr h₀ L h' m → News h₀ L h' news → Q .next { s with heap := h', toks := tk' }) :
    wpAny (model prg w) (mkA dp un fr gd) (exec (nth pairBody 1) (LE L fa)) Q E s := by
  refine wpAny_with_toks (n := s.toks) (Nat.le_refl _) ?_
  obtain ⟨x0, x1, x2, c, hax, l0, l1, l2⟩ := hQ
  with_unfolding_all show wpAny _ _ (exec (Stmt.If (Expr.Compare _ [_] [Expr.Name _ _] _) _ _ _) _) _ _ _
  rcases hij with ⟨rfl, rfl⟩ | ⟨rfl, rfl⟩ | ⟨rfl, rfl⟩
  · obtain ⟨dx0, nm0, ct0, vs0, e00, e10, e20, e30, e40, k00, k10, k20, k30, k40, raw0, tn0, tnt0, tb0, i10, i20, i30, i40, i50⟩ := l0
    obtain ⟨dx1, nm1, ct1, vs1, e01, e11, e21, e31, e41, k01, k11, k21, k31, k41, raw1, tn1, tnt1, tb1, i11, i21, i31, i41, i51⟩ := l1
    have N₀ : Hold (News h₀ L s.heap news) := N
    have N2 : News h₀ L s.heap [(L + 1 + 1 + 1 + 1 + 1, ol), (ad, PySem.W.listOf #[.ref x0, .ref x1, .ref x2] c), (x0, instObj 83 dx0), (dx0, _), (x1, instObj 83 dx1), (dx1, _)] := news_sub N (List.forall_mem_cons.mpr ⟨hlm, List.forall_mem_cons.mpr ⟨hax, List.forall_mem_cons.mpr ⟨i10, List.forall_mem_cons.mpr ⟨i20, List.forall_mem_cons.mpr ⟨i11, List.forall_mem_cons.mpr ⟨i21, List.forall_mem_nil _⟩⟩⟩⟩⟩⟩)
    clear N
    k_steps
    unfold Hold
    refine wpAny_call (c_less (by exact F) (by exact N₀) X T (by omega) (by omega) i10 i20 i30 i40 i50 (by have := bq.1.1; omega) i11 i21 i31 i41 i51 (by have := bq.2.1.1; omega) bq.1.1 bq.2.1.1 bq.1.2.1 bq.2.1.2.1 bq.1.2.2 bq.2.1.2.2 fun h' tk' F' N' => ?_)
    clear N2 F
    k_steps
    · exfalso
      have hx : (lessW (sel q0 q1 q2 0) (sel q0 q1 q2 1) != bb) = true := by assumption
      rw [he] at hx
      simp at hx
    · exact ret _ _ (by assumption) F' N'
  · obtain ⟨dx1, nm1, ct1, vs1, e01, e11, e21, e31, e41, k01, k11, k21, k31, k41, raw1, tn1, tnt1, tb1, i11, i21, i31, i41, i51⟩ := l1
    obtain ⟨dx2, nm2, ct2, vs2, e02, e12, e22, e32, e42, k02, k12, k22, k32, k42, raw2, tn2, tnt2, tb2, i12, i22, i32, i42, i52⟩ := l2
    have N₀ : Hold (News h₀ L s.heap news) := N
    have N2 : News h₀ L s.heap [(L + 1 + 1 + 1 + 1 + 1, ol), (ad, PySem.W.listOf #[.ref x0, .ref x1, .ref x2] c), (x1, instObj 83 dx1), (dx1, _), (x2, instObj 83 dx2), (dx2, _)] := news_sub N (List.forall_mem_cons.mpr ⟨hlm, List.forall_mem_cons.mpr ⟨hax, List.forall_mem_cons.mpr ⟨i11, List.forall_mem_cons.mpr ⟨i21, List.forall_mem_cons.mpr ⟨i12, List.forall_mem_cons.mpr ⟨i22, List.forall_mem_nil _⟩⟩⟩⟩⟩⟩)
    clear N
    k_steps
    unfold Hold
    refine wpAny_call (c_less (by exact F) (by exact N₀) X T (by omega) (by omega) i11 i21 i31 i41 i51 (by have := bq.2.1.1; omega) i12 i22 i32 i42 i52 (by have := bq.2.2.1; omega) bq.2.1.1 bq.2.2.1 bq.2.1.2.1 bq.2.2.2.1 bq.2.1.2.2 bq.2.2.2.2 fun h' tk' F' N' => ?_)
    clear N2 F
    k_steps
    · exfalso
      have hx : (lessW (sel q0 q1 q2 1) (sel q0 q1 q2 2) != bb) = true := by assumption
      rw [he] at hx
      simp at hx
    · exact ret _ _ (by assumption) F' N'
  · obtain ⟨dx2, nm2, ct2, vs2, e02, e12, e22, e32, e42, k02, k12, k22, k32, k42, raw2, tn2, tnt2, tb2, i12, i22, i32, i42, i52⟩ := l2
    obtain ⟨dx0, nm0, ct0, vs0, e00, e10, e20, e30, e40, k00, k10, k20, k30, k40, raw0, tn0, tnt0, tb0, i10, i20, i30, i40, i50⟩ := l0
    have N₀ : Hold (News h₀ L s.heap news) := N
    have N2 : News h₀ L s.heap [(L + 1 + 1 + 1 + 1 + 1, ol), (ad, PySem.W.listOf #[.ref x0, .ref x1, .ref x2] c), (x2, instObj 83 dx2), (dx2, _), (x0, instObj 83 dx0), (dx0, _)] := news_sub N (List.forall_mem_cons.mpr ⟨hlm, List.forall_mem_cons.mpr ⟨hax, List.forall_mem_cons.mpr ⟨i12, List.forall_mem_cons.mpr ⟨i22, List.forall_mem_cons.mpr ⟨i10, List.forall_mem_cons.mpr ⟨i20, List.forall_mem_nil _⟩⟩⟩⟩⟩⟩)
    clear N
    k_steps
    unfold Hold
    refine wpAny_call (c_less (by exact F) (by exact N₀) X T (by omega) (by omega) i12 i22 i32 i42 i52 (by have := bq.2.2.1; omega) i10 i20 i30 i40 i50 (by have := bq.1.1; omega) bq.2.2.1 bq.1.1 bq.2.2.2.1 bq.1.2.1 bq.2.2.2.2 bq.1.2.2 fun h' tk' F' N' => ?_)
    clear N2 F
    k_steps
    · exfalso
      have hx : (lessW (sel q0 q1 q2 2) (sel q0 q1 q2 0) != bb) = true := by assumption
      rw [he] at hx
      simp at hx
    · exact ret _ _ (by assumption) F' N'
end
end Mine
end
namespace Mine
theorem freshAtQ3 : True := by
  (try (walk1; fail))
  w_top off
  trivial
end Mine
section
open PySem PySem.W PySem.Calls PyProof.Rows PyProof.Rows.LCg
set_option autoImplicit false
namespace Mine
set_option maxRecDepth 100000
set_option maxHeartbeats 8000000
theorem fillOfQ3 : PySem.Challenge.rw_rl0102_01 = PySem.Challenge.rw_rl0102_01 ∧ KK = KK := by
  k_fill
  exact ⟨rfl, rfl⟩
variable {w : World} {dp un : Nat} {fr : Option (List Env)} {gd : Option (List Code)} {s : Shared} {h₀ : Heap} {L fa : Addr} {m : Str → Option Value} {news : List (Addr × Obj)} {p : Program} {loose : List Str} {mean : ExcName → Option Value} {mg mb : Str → Option Value}

section
local macro_rules | `(tactic| walk_at "call ref") => `(tactic| (refine hold ?_))
local macro_rules | `(tactic| walk_at "compareOp Eq ref ref") => `(tactic| (refine hold ?_))
local macro_rules | `(tactic| walk_at "eval Name") => `(tactic| (k_here; k_dflt (first | (refine nameX_C (by k_asm) (by rfl) (by k_mem) (by assumption) ?_ (by rfl) (by rfl) (by decide)) | (refine nameX_L (by k_asm) (by assumption) ?_ (by rfl) (by rfl) (by decide)))))

theorem s_equal (X : (KK w.params).In h₀) (T : Top p loose mean mg mb h₀) (hdep : dp + 40 < recursionLimit) (hun : un + 300 < cLine) (F : Fr h₀ L s.heap m) (N : News h₀ L s.heap news) {Q : Flow → Shared → Prop} {E : Value → Shared → Prop} {ad : Addr} {ol : Obj} {q0 q1 q2 : WS} (hol : ol.data = .cell (some (.ref ad))) (hlm : (L + 1 + 1 + 1 + 1 + 1, ol) ∈ news) (hQ : Leads news ad q0 q1 q2) (bq : (q0.1.length ≤ 9 ∧ (0 ≤ q0.2.1 ∧ q0.2.1 ≤ 8) ∧ ∀ c ∈ q0.1, 0 ≤ c ∧ c ≤ 60) ∧ (q1.1.length ≤ 9 ∧ (0 ≤ q1.2.1 ∧ q1.2.1 ≤ 8) ∧ ∀ c ∈ q1.1, 0 ≤ c ∧ c ≤ 60) ∧ (q2.1.length ≤ 9 ∧ (0 ≤ q2.2.1 ∧ q2.2.1 ≤ 8) ∧ ∀ c ∈ q2.1, 0 ≤ c ∧ c ≤ 60)) {i j : Int} {ti tj : Tok} (hmi : m (Str.ofString "one") = some (.int i ti)) (hmj : m (Str.ofString "other") = some (.int j tj)) (hij : (i = 0 ∧ j = 1) ∨ (i = 1 ∧ j = 2) ∨ (i = 2 ∧ j = 0)) {at' D0 D1 D2 : Addr} {ct : Nat} {t0 t1 t2 : List Int} (hm : m (Str.ofString "tables") = some (.ref at')) (hat : (at', PySem.W.listOf #[.ref D0, .ref D1, .ref D2] ct) ∈ news) (h0 : Nts news D0 t0) (h1 : Nts news D1 t1) (h2 : Nts news D2 t2) (he : eqW (sel q0 q1 q2 i) (sel q0 q1 q2 j) = decide (sel t0 t1 t2 i = sel t0 t1 t2 j))
    (ret : ∀ h' tk', s.toks ≤ tk' → Fr h₀ L h' m → News h₀ L h' news → Q .next { s with heap := h', toks := tk' }) :
    wpAny (model prg w) (mkA dp un fr gd) (exec (nth pairBody 2) (LE L fa)) Q E s := by
  refine wpAny_with_toks (n := s.toks) (Nat.le_refl _) ?_
  obtain ⟨x0, x1, x2, c, hax, l0, l1, l2⟩ := hQ
  with_unfolding_all show wpAny _ _ (exec (Stmt.If (Expr.Compare _ [_] [Expr.Compare _ [_] [_] _] _) _ _ _) _) _ _ _
  rcases hij with ⟨rfl, rfl⟩ | ⟨rfl, rfl⟩ | ⟨rfl, rfl⟩
  · obtain ⟨dx0, nm0, ct0, vs0, e00, e10, e20, e30, e40, k00, k10, k20, k30, k40, raw0, tn0, tnt0, tb0, i10, i20, i30, i40, i50⟩ := l0
    obtain ⟨dx1, nm1, ct1, vs1, e01, e11, e21, e31, e41, k01, k11, k21, k31, k41, raw1, tn1, tnt1, tb1, i11, i21, i31, i41, i51⟩ := l1
    have N₀ : Hold (News h₀ L s.heap news) := N
    have N2 : News h₀ L s.heap [(L + 1 + 1 + 1 + 1 + 1, ol), (ad, PySem.W.listOf #[.ref x0, .ref x1, .ref x2] c), (x0, instObj 83 dx0), (dx0, _), (x1, instObj 83 dx1), (dx1, _)] := news_sub N (List.forall_mem_cons.mpr ⟨hlm, List.forall_mem_cons.mpr ⟨hax, List.forall_mem_cons.mpr ⟨i10, List.forall_mem_cons.mpr ⟨i20, List.forall_mem_cons.mpr ⟨i11, List.forall_mem_cons.mpr ⟨i21, List.forall_mem_nil _⟩⟩⟩⟩⟩⟩)
    clear N
    k_steps
    unfold Hold
    refine wpAny_call (c_equal (by exact F) (by exact N₀) X T (by omega) (by omega) i10 i20 i30 i40 i50 (by have := bq.1.1; omega) i11 i21 i31 i41 i51 (by have := bq.2.1.1; omega) fun h' tk' F' N' => ?_)
    clear N2 F
    have N₁ : Hold (News h₀ L h' news) := N'
    have N2 : News h₀ L h' [(at', PySem.W.listOf #[.ref D0, .ref D1, .ref D2] ct)] := news_sub N' (List.forall_mem_cons.mpr ⟨by k_mem, List.forall_mem_nil _⟩)
    clear N'
    k_steps
    unfold Hold
    refine eq_nts N₁ h0 h1 (by dsimp only [mkA]; omega) ?_
    k_steps
    · exfalso
      have hx : (eqW (sel q0 q1 q2 0) (sel q0 q1 q2 1) != decide (t0 = t1)) = true := by assumption
      have he' : eqW (sel q0 q1 q2 0) (sel q0 q1 q2 1) = decide (t0 = t1) := he
      rw [he'] at hx
      simp at hx
    · exact ret _ _ (by assumption) F' N₁
  · obtain ⟨dx1, nm1, ct1, vs1, e01, e11, e21, e31, e41, k01, k11, k21, k31, k41, raw1, tn1, tnt1, tb1, i11, i21, i31, i41, i51⟩ := l1
    obtain ⟨dx2, nm2, ct2, vs2, e02, e12, e22, e32, e42, k02, k12, k22, k32, k42, raw2, tn2, tnt2, tb2, i12, i22, i32, i42, i52⟩ := l2
    have N₀ : Hold (News h₀ L s.heap news) := N
    have N2 : News h₀ L s.heap [(L + 1 + 1 + 1 + 1 + 1, ol), (ad, PySem.W.listOf #[.ref x0, .ref x1, .ref x2] c), (x1, instObj 83 dx1), (dx1, _), (x2, instObj 83 dx2), (dx2, _)] := news_sub N (List.forall_mem_cons.mpr ⟨hlm, List.forall_mem_cons.mpr ⟨hax, List.forall_mem_cons.mpr ⟨i11, List.forall_mem_cons.mpr ⟨i21, List.forall_mem_cons.mpr ⟨i12, List.forall_mem_cons.mpr ⟨i22, List.forall_mem_nil _⟩⟩⟩⟩⟩⟩)
    clear N
    k_steps
    unfold Hold
    refine wpAny_call (c_equal (by exact F) (by exact N₀) X T (by omega) (by omega) i11 i21 i31 i41 i51 (by have := bq.2.1.1; omega) i12 i22 i32 i42 i52 (by have := bq.2.2.1; omega) fun h' tk' F' N' => ?_)
    clear N2 F
    have N₁ : Hold (News h₀ L h' news) := N'
    have N2 : News h₀ L h' [(at', PySem.W.listOf #[.ref D0, .ref D1, .ref D2] ct)] := news_sub N' (List.forall_mem_cons.mpr ⟨by k_mem, List.forall_mem_nil _⟩)
    clear N'
    k_steps
    unfold Hold
    refine eq_nts N₁ h1 h2 (by dsimp only [mkA]; omega) ?_
    k_steps
    · exfalso
      have hx : (eqW (sel q0 q1 q2 1) (sel q0 q1 q2 2) != decide (t1 = t2)) = true := by assumption
      have he' : eqW (sel q0 q1 q2 1) (sel q0 q1 q2 2) = decide (t1 = t2) := he
      rw [he'] at hx
      simp at hx
    · exact ret _ _ (by assumption) F' N₁
  · obtain ⟨dx2, nm2, ct2, vs2, e02, e12, e22, e32, e42, k02, k12, k22, k32, k42, raw2, tn2, tnt2, tb2, i12, i22, i32, i42, i52⟩ := l2
    obtain ⟨dx0, nm0, ct0, vs0, e00, e10, e20, e30, e40, k00, k10, k20, k30, k40, raw0, tn0, tnt0, tb0, i10, i20, i30, i40, i50⟩ := l0
    have N₀ : Hold (News h₀ L s.heap news) := N
    have N2 : News h₀ L s.heap [(L + 1 + 1 + 1 + 1 + 1, ol), (ad, PySem.W.listOf #[.ref x0, .ref x1, .ref x2] c), (x2, instObj 83 dx2), (dx2, _), (x0, instObj 83 dx0), (dx0, _)] := news_sub N (List.forall_mem_cons.mpr ⟨hlm, List.forall_mem_cons.mpr ⟨hax, List.forall_mem_cons.mpr ⟨i12, List.forall_mem_cons.mpr ⟨i22, List.forall_mem_cons.mpr ⟨i10, List.forall_mem_cons.mpr ⟨i20, List.forall_mem_nil _⟩⟩⟩⟩⟩⟩)
    clear N
    k_steps
    unfold Hold
    refine wpAny_call (c_equal (by exact F) (by exact N₀) X T (by omega) (by omega) i12 i22 i32 i42 i52 (by have := bq.2.2.1; omega) i10 i20 i30 i40 i50 (by have := bq.1.1; omega) fun h' tk' F' N' => ?_)
    clear N2 F
    have N₁ : Hold (News h₀ L h' news) := N'
    have N2 : News h₀ L h' [(at', PySem.W.listOf #[.ref D0, .ref D1, .ref D2] ct)] := news_sub N' (List.forall_mem_cons.mpr ⟨by k_mem, List.forall_mem_nil _⟩)
    clear N'
    k_steps
    unfold Hold
    refine eq_nts N₁ h2 h0 (by dsimp only [mkA]; omega) ?_
    k_steps
    · exfalso
      have hx : (eqW (sel q0 q1 q2 2) (sel q0 q1 q2 0) != decide (t2 = t0)) = true := by assumption
      have he' : eqW (sel q0 q1 q2 2) (sel q0 q1 q2 0) = decide (t2 = t0) := he
      rw [he'] at hx
      simp at hx
    · exact ret _ _ (by assumption) F' N₁
end
end Mine
end
namespace Mine
theorem freshAtQ4 : True := by
  (try (walk1; fail))
  w_top off
  trivial
end Mine
section
open PySem PySem.W PySem.Calls PyProof.Rows PyProof.Rows.LCg
set_option autoImplicit false
namespace Mine
set_option maxRecDepth 100000
set_option maxHeartbeats 8000000
theorem fillOfQ4 : PySem.Challenge.rw_rl0102_01 = PySem.Challenge.rw_rl0102_01 ∧ KK = KK := by
  k_fill
  exact ⟨rfl, rfl⟩
variable {w : World} {dp un : Nat} {fr : Option (List Env)} {gd : Option (List Code)} {s : Shared} {h₀ : Heap} {L fa : Addr} {m : Str → Option Value} {news : List (Addr × Obj)} {p : Program} {loose : List Str} {mean : ExcName → Option Value} {mg mb : Str → Option Value}

theorem pair_eq : pairBody = [nth pairBody 0, nth pairBody 1, nth pairBody 2] := by with_unfolding_all rfl
abbrev pairVars : List Str := [(Str.ofString "one"), (Str.ofString "other"), (Str.ofString "below")]
section
local macro_rules | `(tactic| walk_at "newTuple") => `(tactic| (refine hold ?_))
theorem s_pairs (X : (KK w.params).In h₀) (T : Top p loose mean mg mb h₀) (hdep : dp + 40 < recursionLimit) (hun : un + 300 < cLine) (F : Fr h₀ L s.heap m) (N : News h₀ L s.heap news) {ad : Addr} {ol : Obj} {q0 q1 q2 : WS} (hol : ol.data = .cell (some (.ref ad))) (hlm : (L + 1 + 1 + 1 + 1 + 1, ol) ∈ news) (hQ : Leads news ad q0 q1 q2) (bq : (q0.1.length ≤ 9 ∧ (0 ≤ q0.2.1 ∧ q0.2.1 ≤ 8) ∧ ∀ c ∈ q0.1, 0 ≤ c ∧ c ≤ 60) ∧ (q1.1.length ≤ 9 ∧ (0 ≤ q1.2.1 ∧ q1.2.1 ≤ 8) ∧ ∀ c ∈ q1.1, 0 ≤ c ∧ c ≤ 60) ∧ (q2.1.length ≤ 9 ∧ (0 ≤ q2.2.1 ∧ q2.2.1 ≤ 8) ∧ ∀ c ∈ q2.1, 0 ≤ c ∧ c ≤ 60)) {Q : Flow → Shared → Prop} {at' : Addr} {n : Nat} {t0 t1 t2 : List Int} (hm : m (Str.ofString "tables") = some (.ref at')) (hT : Lefts news at' t0 t1 t2) (len : t0.length = n ∧ t1.length = n ∧ t2.length = n) (hn : n ≤ 60)
    (hless : ∀ i j : Int, ((i = 0 ∧ j = 1) ∨ (i = 1 ∧ j = 2) ∨ (i = 2 ∧ j = 0)) → lessW (sel q0 q1 q2 i) (sel q0 q1 q2 j) = decide (zipG (sel t0 t1 t2 i) (sel t0 t1 t2 j) n = [])) (heq : ∀ i j : Int, ((i = 0 ∧ j = 1) ∨ (i = 1 ∧ j = 2) ∨ (i = 2 ∧ j = 0)) → eqW (sel q0 q1 q2 i) (sel q0 q1 q2 j) = decide (sel t0 t1 t2 i = sel t0 t1 t2 j))
    (ret : ∀ m' h' tk', s.toks ≤ tk' → SameBut pairVars m m' → Fr h₀ L h' m' → News h₀ L h' news → Q .next { s with heap := h', toks := tk' }) :
    wpAny (model prg w) (mkA dp un fr gd) (exec (nth powBody 7) (LE L fa)) Q (fun _ _ => False) s := by
  obtain ⟨D0, D1, D2, ct, hat, h0, h1, h2⟩ := hT
  have fr0 : ∀ p ∈ news, p.1 < s.heap.objs.size := fun p hp => Heap.lt_size (N p hp).1
  with_unfolding_all show wpAny _ _ (exec (Stmt.For (Expr.Tuple [Expr.Name _ _, Expr.Name _ _] _ _) _ _ [] _) _) _ _ _
  refine for_tuple (h₀ := h₀) (L := L) (its := #[.ref s.heap.objs.size, .ref (s.heap.push { cls := .type "tuple", data := .seq [.int 0 s.toks, .int 1 (s.toks + 1)].toArray }).objs.size, .ref ((s.heap.push { cls := .type "tuple", data := .seq [.int 0 s.toks, .int 1 (s.toks + 1)].toArray }).push { cls := .type "tuple", data := .seq [.int 1 (s.toks + 1 + 1), .int 2 (s.toks + 1 + 1 + 1)].toArray }).objs.size]) rfl (fun _ m' news' => news' = (((s.heap.push { cls := .type "tuple", data := .seq [.int 0 s.toks, .int 1 (s.toks + 1)].toArray }).push { cls := .type "tuple", data := .seq [.int 1 (s.toks + 1 + 1), .int 2 (s.toks + 1 + 1 + 1)].toArray }).objs.size, { cls := .type "tuple", data := .seq [.int 2 (s.toks + 1 + 1 + 1 + 1), .int 0 (s.toks + 1 + 1 + 1 + 1 + 1)].toArray }) :: ((s.heap.push { cls := .type "tuple", data := .seq [.int 0 s.toks, .int 1 (s.toks + 1)].toArray }).objs.size, { cls := .type "tuple", data := .seq [.int 1 (s.toks + 1 + 1), .int 2 (s.toks + 1 + 1 + 1)].toArray }) :: (s.heap.objs.size, { cls := .type "tuple", data := .seq [.int 0 s.toks, .int 1 (s.toks + 1)].toArray }) :: news ∧ SameBut pairVars m m') PassesOwn.never ?_ ?_ ?_
  · k_steps
    unfold Hold
    refine wpAny_newTuple ?_ (by show 2 ≤ sizeLine; decide)
    have F1 := F.push { cls := .type "tuple", data := .seq [.int 0 s.toks, .int 1 (s.toks + 1)].toArray }
    have N1 := N.push F { cls := .type "tuple", data := .seq [.int 0 s.toks, .int 1 (s.toks + 1)].toArray }
    dsimp only
    clear F N
    k_steps
    unfold Hold
    refine wpAny_newTuple ?_ (by show 2 ≤ sizeLine; decide)
    have F2 := F1.push { cls := .type "tuple", data := .seq [.int 1 (s.toks + 1 + 1), .int 2 (s.toks + 1 + 1 + 1)].toArray }
    have N2 := N1.push F1 { cls := .type "tuple", data := .seq [.int 1 (s.toks + 1 + 1), .int 2 (s.toks + 1 + 1 + 1)].toArray }
    dsimp only
    clear F1 N1
    k_steps
    unfold Hold
    refine wpAny_newTuple ?_ (by show 2 ≤ sizeLine; decide)
    have F3 := F2.push { cls := .type "tuple", data := .seq [.int 2 (s.toks + 1 + 1 + 1 + 1), .int 0 (s.toks + 1 + 1 + 1 + 1 + 1)].toArray }
    have N3 := N2.push F2 { cls := .type "tuple", data := .seq [.int 2 (s.toks + 1 + 1 + 1 + 1), .int 0 (s.toks + 1 + 1 + 1 + 1 + 1)].toArray }
    dsimp only
    clear F2 N2
    k_steps
    unfold Hold
    refine newTuple_N (by exact F3) (by exact N3) (fun h' F' N' => ?_) (by show 3 ≤ sizeLine; decide)
    refine ⟨_, _, m, _, rfl, ⟨h', _, rfl⟩, F', N', fun p hp => Nat.ne_of_lt (Heap.lt_size (N3 p hp).1), ⟨rfl, SameBut.refl m⟩, ?_⟩
    show s.toks ≤ s.toks + 1 + 1 + 1 + 1 + 1 + 1
    omega
  · rintro i v m' news' own h tk hv ⟨rfl, hm'⟩ F' N' o1 htk
    obtain ⟨Tp, a, b, ta, tb, nt, hab, rfl, hTp⟩ : ∃ (Tp : Addr) (a b : Int) (ta tb : Tok) (nt : Nat), ((a = 0 ∧ b = 1) ∨ (a = 1 ∧ b = 2) ∨ (a = 2 ∧ b = 0)) ∧ v = .ref Tp ∧ h.IsTuple Tp #[.int a ta, .int b tb] := by
      rcases i with _ | _ | _ | i
      · exact ⟨_, 0, 1, _, _, 0, .inl ⟨rfl, rfl⟩, (Option.some.inj hv).symm, ⟨_, (N' _ (List.mem_append_right _ (.tail _ (.tail _ (.head _))))).1, rfl, _, rfl⟩⟩
      · exact ⟨_, 1, 2, _, _, 0, .inr (.inl ⟨rfl, rfl⟩), (Option.some.inj hv).symm, ⟨_, (N' _ (List.mem_append_right _ (.tail _ (.head _)))).1, rfl, _, rfl⟩⟩
      · exact ⟨_, 2, 0, _, _, 0, .inr (.inr ⟨rfl, rfl⟩), (Option.some.inj hv).symm, ⟨_, (N' _ (List.mem_append_right _ (.head _))).1, rfl, _, rfl⟩⟩
      · simp at hv
    refine kcp_assign rfl hTp (by with_unfolding_all rfl) (by with_unfolding_all rfl) (by with_unfolding_all rfl) F'.ns fun h3 tk3 hn3 hk3 => ?_
    have F3 : Fr h₀ L h3 (fun z => if z = (Str.ofString "other") then some (.int b tb) else if z = (Str.ofString "one") then some (.int a ta) else m' z) := ⟨hn3, fun c o e => hk3 c o (Nat.ne_of_lt (Nat.lt_of_lt_of_le (Heap.lt_size e) F'.above)) (F'.keep c o e), F'.above⟩
    have N3 := fun p hp => (⟨hk3 _ _ (N' p hp).2.1 (N' p hp).1, (N' p hp).2⟩ : h3.get? p.1 = some p.2 ∧ p.1 ≠ L ∧ h₀.get? p.1 = none)
    generalize hall : own ++ (((s.heap.push { cls := .type "tuple", data := .seq [.int 0 s.toks, .int 1 (s.toks + 1)].toArray }).push { cls := .type "tuple", data := .seq [.int 1 (s.toks + 1 + 1), .int 2 (s.toks + 1 + 1 + 1)].toArray }).objs.size, { cls := .type "tuple", data := .seq [.int 2 (s.toks + 1 + 1 + 1 + 1), .int 0 (s.toks + 1 + 1 + 1 + 1 + 1)].toArray }) :: ((s.heap.push { cls := .type "tuple", data := .seq [.int 0 s.toks, .int 1 (s.toks + 1)].toArray }).objs.size, { cls := .type "tuple", data := .seq [.int 1 (s.toks + 1 + 1), .int 2 (s.toks + 1 + 1 + 1)].toArray }) :: (s.heap.objs.size, { cls := .type "tuple", data := .seq [.int 0 s.toks, .int 1 (s.toks + 1)].toArray }) :: news = all at *
    have hsub : ∀ p ∈ news, p ∈ all := fun p hp => by rw [← hall]; exact List.mem_append_right _ (.tail _ (.tail _ (.tail _ hp)))
    have N3' : News h₀ L h3 all := N3
    have mt : ∀ (x : Str), x ∉ pairVars → (fun z => if z = (Str.ofString "other") then some (Value.int b tb) else if z = (Str.ofString "one") then some (Value.int a ta) else m' z) x = m x := fun x hx => by
      show (if _ = _ then _ else if _ = _ then _ else _) = _
      rw [if_neg (fun q => hx (by rw [q]; decide)), if_neg (fun q => hx (by rw [q]; decide))]
      exact hm' x hx

    have f1 : (fun z => if z = (Str.ofString "other") then some (Value.int b tb) else if z = (Str.ofString "one") then some (Value.int a ta) else m' z) (Str.ofString "one") = some (.int a ta) := by
      show (if _ = _ then _ else if _ = _ then _ else _) = _
      rw [if_neg (by decide), if_pos rfl]
    have f2 : (fun z => if z = (Str.ofString "other") then some (Value.int b tb) else if z = (Str.ofString "one") then some (Value.int a ta) else m' z) (Str.ofString "other") = some (.int b tb) := by
      show (if _ = _ then _ else if _ = _ then _ else _) = _
      rw [if_pos rfl]
    generalize hm3 : (fun z => if z = (Str.ofString "other") then some (Value.int b tb) else if z = (Str.ofString "one") then some (Value.int a ta) else m' z) = m3 at *
    refine wpAny_execs_cons (s_below (m := m3) X T hdep hun (by exact F3) (by exact N3') ((mt _ (by decide)).trans hm) (i := a) (j := b) (ti := ta) (tj := tb) f1 f2 (hsub _ hat) (Nts.mono hsub h0) (Nts.mono hsub h1) (Nts.mono hsub h2) len hn hab ?_)
    intro ex h4 tk4 htk4 F4 N4 fr4
    dsimp only at htk4 ⊢
    have hsub4 : ∀ p ∈ news, p ∈ ex ++ all := fun p hp => List.mem_append_right _ (hsub p hp)
    refine wpAny_execs_cons (s_less X T hdep hun (by exact F4) (by exact N4) hol (hsub4 _ hlm) (hQ.mono hsub4) bq (i := a) (j := b) (ti := ta) (tj := tb) (by show (if _ = _ then _ else _) = _; rw [if_neg (by decide)]; exact f1) (by show (if _ = _ then _ else _) = _; rw [if_neg (by decide)]; exact f2) hab (by show (if _ = _ then _ else _) = _; rw [if_pos rfl]) (hless a b hab) ?_)
    intro h5 tk5 htk5 F5 N5
    dsimp only at htk5 ⊢
    refine wpAny_execs_cons (s_equal X T hdep hun (by exact F5) (by exact N5) hol (hsub4 _ hlm) (hQ.mono hsub4) bq (i := a) (j := b) (ti := ta) (tj := tb) (by show (if _ = _ then _ else _) = _; rw [if_neg (by decide)]; exact f1) (by show (if _ = _ then _ else _) = _; rw [if_neg (by decide)]; exact f2) hab (by show (if _ = _ then _ else _) = _; rw [if_neg (by decide)]; exact (mt _ (by decide)).trans hm) (hsub4 _ hat) (Nts.mono hsub4 h0) (Nts.mono hsub4 h1) (Nts.mono hsub4 h2) (heq a b hab) ?_)
    intro h6 tk6 htk6 F6 N6
    dsimp only at htk6 ⊢
    refine wpAny_execs_nil ?_
    subst hall
    refine ⟨h6, tk6, _, _, rfl, F6, fun p hp => N6 p (List.mem_append_right _ hp), o1, rfl, ?_⟩
    intro x hx
    show (if _ = _ then _ else _) = _
    rw [if_neg (fun q => hx (by rw [q]; decide))]
    exact mt x hx
  · rintro m' news' h tk ⟨rfl, hm'⟩ F' N' htk
    exact ret m' h tk htk hm' F' fun p hp => N' p (.tail _ (.tail _ (.tail _ hp)))
end
end Mine
end
namespace Mine
theorem freshAtPow1 : True := by
  (try (walk1; fail))
  w_top off
  trivial
end Mine
section
open PySem PySem.W PySem.Calls PyProof.Rows PyProof.Rows.LCg
set_option autoImplicit false
namespace Mine
set_option maxRecDepth 100000
set_option maxHeartbeats 8000000
theorem fillOfPow1 : PySem.Challenge.rw_rl0102_01 = PySem.Challenge.rw_rl0102_01 ∧ KK = KK := by
  k_fill
  exact ⟨rfl, rfl⟩
variable {w : World} {dp un : Nat} {fr : Option (List Env)} {gd : Option (List Code)} {s : Shared} {h₀ : Heap} {L fa : Addr} {m : Str → Option Value} {news : List (Addr × Obj)} {p : Program} {loose : List Str} {mean : ExcName → Option Value} {mg mb : Str → Option Value}

def lf (w : Wd) (pw : Int) : List Int := leftF w.1 w.2.1 w.2.2 pw
def txt (w : Wd) (pw : Int) : List Nat := textL ((lf w pw).map fun r => (Int.fdiv r pw).toNat)
def ws (w : Wd) (pw : Int) : WS := wsF (wsOf (txt w pw))
def nOf (pw : Int) : Nat := (Int.fdiv 8 pw + 1).toNat
structure PW1 (w : Wd) (pw : Int) : Prop where
  len : 1 ≤ (lf w pw).length ∧ (lf w pw).length ≤ 3
  bd : ∀ r ∈ lf w pw, 0 ≤ r ∧ r ≤ 8
  ok : okL (txt w pw) = true
  tl : (txt w pw).length ≤ 60
  ch : ∀ c ∈ txt w pw, c = 34 ∨ c = 120
  bq : (ws w pw).1.length ≤ 9 ∧ (0 ≤ (ws w pw).2.1 ∧ (ws w pw).2.1 ≤ 8) ∧ ∀ c ∈ (ws w pw).1, 0 ≤ c ∧ c ≤ 60
  ic : ∀ sz : Int, 1 ≤ sz → sz ≤ 3 → indF (ws w pw).1 (ws w pw).2.1 (ws w pw).2.2.2 sz = colF (lf w pw) pw sz
structure PW2 (w w' : Wd) (pw : Int) : Prop where
  ls : lessW (ws w pw) (ws w' pw) = decide (zipG (tabF (lf w pw) pw (nOf pw)) (tabF (lf w' pw) pw (nOf pw)) (nOf pw) = [])
  eq : eqW (ws w pw) (ws w' pw) = decide (tabF (lf w pw) pw (nOf pw) = tabF (lf w' pw) pw (nOf pw))
def IsCell (o : Obj) : Prop := ∃ v, o.data = .cell v
theorem tab_len (l : List Int) (pw : Int) (n : Nat) : (tabF l pw n).length = n := by simp [tabF]
section
variable {le co si ss po : Obj} {ps : Array Value} {led ex : Led}
theorem list_in (c1 : IsCell le) (c2 : IsCell co) (c3 : IsCell si) (c4 : IsCell ss) (c5 : IsCell po) {a : Addr} {its : Array Value} {c : Nat} (h : (a, PySem.W.listOf its c) ∈ ex ++ six L le co si ss po ps led) : (a, PySem.W.listOf its c) ∈ ex ++ led := by
  have no : ∀ {o : Obj} {b : Addr}, IsCell o → (a, PySem.W.listOf its c) ≠ (b, o) := fun ⟨v, hv⟩ e => by
    have e2 := congrArg (fun p : Addr × Obj => p.2.data) e
    dsimp only at e2
    rw [hv] at e2
    cases e2
  rcases List.mem_append.mp h with h | h
  · exact List.mem_append_left _ h
  · simp only [six, List.mem_cons] at h
    rcases h with h | h | h | h | h | h | h
    · exact absurd h (no c1)
    · exact absurd h (no c2)
    · exact absurd h (no c3)
    · exact absurd h (no c4)
    · exact absurd h (no c5)
    · have e2 := congrArg (fun p : Addr × Obj => p.2.data) h
      dsimp only at e2
      cases e2
    · exact List.mem_append_right _ h
theorem lefts_in (c1 : IsCell le) (c2 : IsCell co) (c3 : IsCell si) (c4 : IsCell ss) (c5 : IsCell po) {a : Addr} {l0 l1 l2 : List Int} (h : Lefts (ex ++ six L le co si ss po ps led) a l0 l1 l2) : Lefts (ex ++ led) a l0 l1 l2 := by
  obtain ⟨a0, a1, a2, c, h, ⟨v0, k0, h0, i0⟩, ⟨v1, k1, h1, i1⟩, ⟨v2, k2, h2, i2⟩⟩ := h
  exact ⟨a0, a1, a2, c, list_in c1 c2 c3 c4 c5 h, ⟨v0, k0, list_in c1 c2 c3 c4 c5 h0, i0⟩, ⟨v1, k1, list_in c1 c2 c3 c4 c5 h1, i1⟩, ⟨v2, k2, list_in c1 c2 c3 c4 c5 h2, i2⟩⟩
end
abbrev powVars : List Str := [(Str.ofString "texts"), (Str.ofString "lefts"), (Str.ofString "tables"), (Str.ofString "row"), (Str.ofString "place"), (Str.ofString "low"), (Str.ofString "high"), (Str.ofString "one"), (Str.ofString "other"), (Str.ofString "below")]
theorem SameBut.wide {xs ys : List Str} {a b : Str → Option Value} (h : SameBut xs a b) (hs : ∀ x ∈ xs, x ∈ ys) : SameBut ys a b := fun x hx => h x fun q => hx (hs x q)
theorem n_52 (n : Nat) : n + 1 + 1 + 1 + 1 + 1 ≠ n + 1 + 1 := by omega
theorem n_42 (n : Nat) : n + 1 + 1 + 1 + 1 ≠ n + 1 + 1 := by omega
theorem n_12 (n : Nat) : n + 1 ≠ n + 1 + 1 := by omega
theorem n_45 (n : Nat) : n + 1 + 1 + 1 + 1 ≠ n + 1 + 1 + 1 + 1 + 1 := by omega
theorem n_15 (n : Nat) : n + 1 ≠ n + 1 + 1 + 1 + 1 + 1 := by omega
theorem n_25 (n : Nat) : n + 1 + 1 ≠ n + 1 + 1 + 1 + 1 + 1 := by omega
theorem pow_rest (X : (KK w.params).In h₀) (T : Top p loose mean mg mb h₀) (hdep : dp + 40 < recursionLimit) (hun : un + 300 < cLine) (CH : CodeHd h₀ 171 169) (F : Fr h₀ L s.heap m) {le co si ss po : Obj} {ps : Array Value} {led kl : Led} (N : News h₀ L s.heap (six L le co si ss po ps led)) (O : Off L led) (K : TabOk kl ps) (hkl : ∀ p ∈ kl, p ∈ led) (c1 : IsCell le) (c2 : IsCell co) (c3 : IsCell si) (c4 : IsCell ss)
    {pw : Int} {tp : Tok} (hpo : po.data = .cell (some (.int pw tp))) (hp : pw = 1 ∨ pw = 2 ∨ pw = 4) {aw at' : Addr} {u v z : Wd} (hmw : m (Str.ofString "words") = some (.ref aw)) (hW : Words led aw u v z) (hmt : m (Str.ofString "texts") = some (.ref at')) (hT : Txts led at' (txt u pw) (txt v pw) (txt z pw)) (h0 : 0 < s.toks)
    (pu : PW1 u pw) (pv : PW1 v pw) (pz : PW1 z pw) (puv : PW2 u v pw) (pvz : PW2 v z pw) (pzu : PW2 z u pw) {Q : Flow → Shared → Prop}
    (ret : ∀ m' le' co' si' ss' ps' ex h' tk', s.toks ≤ tk' → SameBut powVars m m' → m' (Str.ofString "texts") = m (Str.ofString "texts") → Fr h₀ L h' m' → News h₀ L h' (six L le' co' si' ss' po ps' (ex ++ led)) → Off L ex → Fresh ex led → TabOk (ex ++ kl) ps' → IsCell le' → IsCell co' → IsCell si' → IsCell ss' → Q .next { s with heap := h', toks := tk' }) :
    wpAny (model prg w) (mkA dp un fr gd) (execs [nth powBody 1, nth powBody 2, nth powBody 3, nth powBody 4, nth powBody 5, nth powBody 6, nth powBody 7] (LE L fa)) Q (fun _ _ => False) s := by
  have hp' : 1 ≤ pw ∧ pw ≤ 4 := by omega
  have hlt := low169 CH F
  have c5 : IsCell po := ⟨_, hpo⟩
  have pm : ∀ {le co si ss : Obj} {ps : Array Value} {led : Led}, (L + 1, po) ∈ six L le co si ss po ps led := .tail _ (.tail _ (.tail _ (.tail _ (.head _))))
  -- lefts
  refine wpAny_execs_cons (s_left X T hdep hun F N hpo pm hp hmw (hW.mono fun p hp => in_six hp) ?_)
  intro al ex1 h1 tk1 htk1 F1 N1 fr1 hL
  dsimp only
  have N1' := six_push N1
  have O1 : Off L ex1 := off_fresh fr1
  have hL1 : Lefts (ex1 ++ led) al (lf u pw) (lf v pw) (lf z pw) := lefts_in c1 c2 c3 c4 c5 hL
  have f1 : Fresh ex1 led := fun p hp q hq => fr1 p hp q (in_six hq)
  -- want
  refine wpAny_execs_cons (s_want X T hdep hun (by exact F1) (by exact N1') hpo pm hp' (by show (if _ = _ then _ else _) = _; rw [if_pos rfl]) (by show (if _ = _ then _ else _) = _; rw [if_neg (by decide)]; exact hmt) (hL1.mono fun p hp => in_six hp) ⟨pu.len, pv.len, pz.len⟩ ⟨pu.bd, pv.bd, pz.bd⟩ (hT.mono fun p hp => in_six (List.mem_append_right _ hp)) ⟨pu.ok, pv.ok, pz.ok⟩ ?_)
  intro ex2 h2 tk2 htk2 F2 N2 fr2
  dsimp only at htk2 ⊢
  have N2' := six_push N2
  have O2 : Off L ex2 := off_fresh fr2
  have f2 : Fresh ex2 led := fun p hp q hq => fr2 p hp q (in_six (List.mem_append_right _ hq))
  have OO2 : Off L (ex2 ++ (ex1 ++ led)) := O2.app (O1.app O)
  -- leads
  obtain ⟨vle, hle⟩ := c1
  refine wpAny_execs_cons (s_lead X T hdep hun (pre := []) (by exact F2) (by exact N2') (fun _ h => nomatch h) (fun p hp => ?_) hle (by show (if _ = _ then _ else _) = _; rw [if_neg (by decide)]; exact hmt) (hT.mono fun p hp => in_six (List.mem_append_right _ (List.mem_append_right _ hp))) (by dsimp only; omega) ⟨pu.tl, pv.tl, pz.tl⟩ ⟨pu.ch, pv.ch, pz.ch⟩ ?_)
  · simp only [List.mem_cons] at hp
    rcases hp with rfl | rfl | rfl | rfl | rfl | hp
    · exact n_45 L
    · exact Ne.symm (n_35 L)
    · exact n_25 L
    · exact n_15 L
    · exact Ne.symm (n_169 L 5 hlt)
    · exact (OO2 p hp).1
  intro ad le' ex3 h3 tk3 htk3 F3 N3 fr3 hle' hQ
  dsimp only at htk3 ⊢
  have N3' : News h₀ L h3 (six L le' co si ss po ps (ex3 ++ (ex2 ++ (ex1 ++ led)))) := six_push (by exact N3)
  have O3 : Off L ex3 := off_fresh (by exact fr3)
  have f3' : Fresh ex3 led := fun p hp q hq => fr3 p hp q (.tail _ (.tail _ (.tail _ (.tail _ (.tail _ (.tail _ (List.mem_append_right _ (List.mem_append_right _ hq))))))))
  -- sizes 1, 2, 3
  obtain ⟨vco, hco⟩ := c2
  obtain ⟨vsi, hsi⟩ := c3
  have D : PowD (ex3 ++ (ex2 ++ (ex1 ++ led))) (setm m (Str.ofString "lefts") (.ref al)) le' po ad al pw (lf u pw) (lf v pw) (lf z pw) (ws u pw) (ws v pw) (ws z pw) := ⟨hle', ⟨_, hpo⟩, hp', by show (if _ = _ then _ else _) = _; rw [if_pos rfl], hL1.mono fun p hp => List.mem_append_right _ (List.mem_append_right _ hp), ⟨pu.len, pv.len, pz.len⟩, ⟨pu.bd, pv.bd, pz.bd⟩, hQ.mono fun p hp => List.mem_append_left _ hp, ⟨pu.bq.1, pu.bq.2.2⟩, ⟨pv.bq.1, pv.bq.2.2⟩, ⟨pz.bq.1, pz.bq.2.2⟩⟩
  have OO3 : Off L (ex3 ++ (ex2 ++ (ex1 ++ led))) := O3.app OO2
  have u3 : ∀ p ∈ led, p ∈ ex3 ++ (ex2 ++ (ex1 ++ led)) := fun p hp => List.mem_append_right _ (List.mem_append_right _ (List.mem_append_right _ hp))
  refine wpAny_execs_cons (s_size X T hdep hun CH (by exact F3) (by exact N3') OO3 K (fun p hp => u3 p (hkl p hp)) D hco hsi (fun sz a b => ⟨pu.ic sz a b, pv.ic sz a b, pz.ic sz a b⟩) ?_)
  intro m4 co' si' vco' vsi' ps4 ex4 h4 tk4 htk4 hm4 F4 N4 O4 fr4 K4 hco' hsi'
  dsimp only at htk4 ⊢
  have f4 : Fresh ex4 led := fun p hp q hq => fr4 p hp q (u3 q hq)
  generalize hld : ex3 ++ (ex2 ++ (ex1 ++ led)) = led3 at *
  -- the range
  have OO4 : Off L (ex4 ++ led3) := O4.app OO3
  obtain ⟨vss, hss⟩ := c4
  refine wpAny_execs_cons (s_rng X T hdep hun (by exact F4) (by exact N4) hpo pm hp (pre := [(L + 1 + 1 + 1 + 1 + 1, le'), (L + 1 + 1 + 1 + 1, co'), (L + 1 + 1 + 1, si')]) (post := (L + 1, po) :: (169, tabObj ps4) :: (ex4 ++ led3)) rfl hss (fun p hp => ?_) (fun p hp => ?_) ?_)
  · simp only [List.mem_cons, List.not_mem_nil, or_false] at hp
    rcases hp with rfl | rfl | rfl
    · exact n_52 L
    · exact n_42 L
    · exact Ne.symm (n_32 L)
  · simp only [List.mem_cons] at hp
    rcases hp with rfl | rfl | hp
    · exact n_12 L
    · exact Ne.symm (n_169 L 2 hlt)
    · exact (OO4 p hp).2.2.2.1
  intro r tr ur vr ss' h5 tk5 htk5 F5 N5 fr5 hss'
  dsimp only at htk5 ⊢
  have N5' : News h₀ L h5 (six L le' co' si' ss' po ps4 ((r, rngObj 1 (Int.fdiv 8 pw + 2) tr ur vr) :: (ex4 ++ led3))) := news_sub N5 fun p => by
    simp only [six, List.mem_append, List.mem_cons, List.not_mem_nil, or_false]
    rintro (h | h | h | h | h | h | h | h | h) <;> simp [h]
  have Or : Off L [(r, rngObj 1 (Int.fdiv 8 pw + 2) tr ur vr)] := fun p hp => by
    rw [List.mem_singleton.mp hp]
    exact ⟨Ne.symm (fr5 (L + 1 + 1 + 1 + 1 + 1, le') (.head _)), Ne.symm (fr5 (L + 1 + 1 + 1 + 1, co') (.tail _ (.head _))), Ne.symm (fr5 (L + 1 + 1 + 1, si') (.tail _ (.tail _ (.head _)))), Ne.symm (fr5 (L + 1 + 1, ss) (.tail _ (.tail _ (.tail _ (.head _))))), Ne.symm (fr5 (L + 1, po) (.tail _ (.tail _ (.tail _ (.tail _ (.head _)))))), Ne.symm (fr5 (169, tabObj ps4) (.tail _ (.tail _ (.tail _ (.tail _ (.tail _ (.head _)))))))⟩
  have fr_r : Fresh [(r, rngObj 1 (Int.fdiv 8 pw + 2) tr ur vr)] led := fun p hp q hq => by
    rw [List.mem_singleton.mp hp]
    exact fr5 q (.tail _ (.tail _ (.tail _ (.tail _ (.tail _ (.tail _ (List.mem_append_right _ (u3 q hq))))))))
  have hsm : Builtin.Range.small 1 (Int.fdiv 8 pw + 2) 1 = true := by rcases hp with rfl | rfl | rfl <;> decide +kernel
  have hrs : Builtin.Range.rangeSize 1 (Int.fdiv 8 pw + 2) 1 = ((nOf pw : Nat) : Int) := by rcases hp with rfl | rfl | rfl <;> decide +kernel
  have hn9 : nOf pw ≤ 9 := by rcases hp with rfl | rfl | rfl <;> decide +kernel
  have hnW : ∀ k : Int, 1 ≤ k → k ≤ nOf pw → 1 ≤ k * pw ∧ k * pw ≤ 36 := by
    intro k hk1 hk2
    rcases hp with rfl | rfl | rfl
    · omega
    · omega
    · have : ((nOf 4 : Nat) : Int) = 3 := by decide +kernel
      omega
  have h4l : ∀ p ∈ led3, p ∈ (r, rngObj 1 (Int.fdiv 8 pw + 2) tr ur vr) :: (ex4 ++ led3) := fun p hp => .tail _ (List.mem_append_right _ hp)
  have m4l : m4 (Str.ofString "lefts") = some (.ref al) := (hm4 _ (by decide)).trans D.hm
  -- the tables
  refine wpAny_execs_cons (s_tab X T hdep hun (by exact F5) (by exact N5') hpo pm hss' (.tail _ (.tail _ (.tail _ (.head _)))) (in_six (.head _)) hp' hsm hrs hn9 hnW m4l (D.hL.mono fun p hp => in_six (h4l p hp)) ⟨pu.len, pv.len, pz.len⟩ ⟨pu.bd, pv.bd, pz.bd⟩ ?_)
  intro tD ex6 h6 tk6 htk6 F6 N6 fr6 hTab
  dsimp only at htk6 ⊢
  have N6' := six_push N6
  have O6 : Off L ex6 := off_fresh fr6
  have f6 : Fresh ex6 led := fun p hp q hq => fr6 p hp q (in_six (h4l q (u3 q hq)))
  -- the pairs
  refine wpAny_execs_cons (s_pairs X T hdep hun (by exact F6) (by exact N6') hle' (.head _) (D.hQ.mono fun p hp => in_six (List.mem_append_right _ (h4l p hp))) ⟨pu.bq, pv.bq, pz.bq⟩ (n := nOf pw) (by show (if _ = _ then _ else _) = _; rw [if_pos rfl]) (hTab.mono fun p hp => in_six (List.mem_append_left _ hp)) ⟨tab_len _ _ _, tab_len _ _ _, tab_len _ _ _⟩ (by omega) ?_ ?_ ?_)
  · rintro i j (⟨rfl, rfl⟩ | ⟨rfl, rfl⟩ | ⟨rfl, rfl⟩)
    · exact puv.ls
    · exact pvz.ls
    · exact pzu.ls
  · rintro i j (⟨rfl, rfl⟩ | ⟨rfl, rfl⟩ | ⟨rfl, rfl⟩)
    · exact puv.eq
    · exact pvz.eq
    · exact pzu.eq
  intro m7 h7 tk7 htk7 hm7 F7 N7
  dsimp only at htk7 ⊢
  refine wpAny_execs_nil ?_
  have hm7' : SameBut powVars m m7 := (((SameBut.refl (xs := powVars) m).set (by decide)).trans (hm4.wide (by decide))).trans (((SameBut.refl (xs := powVars) m4).set (by decide)).trans (hm7.wide (by decide)))
  have hmt7 : m7 (Str.ofString "texts") = m (Str.ofString "texts") := by
    refine (hm7 _ (by decide)).trans ?_
    show (if _ = _ then _ else _) = _
    rw [if_neg (by decide)]
    refine (hm4 _ (by decide)).trans ?_
    show (if _ = _ then _ else _) = _
    rw [if_neg (by decide)]
  subst hld
  have ass : ex6 ++ ((r, rngObj 1 (Int.fdiv 8 pw + 2) tr ur vr) :: (ex4 ++ (ex3 ++ (ex2 ++ (ex1 ++ led))))) = (ex6 ++ ([(r, rngObj 1 (Int.fdiv 8 pw + 2) tr ur vr)] ++ (ex4 ++ (ex3 ++ (ex2 ++ ex1))))) ++ led := by simp
  have N7' : News h₀ L h7 (six L le' co' si' ss' po ps4 ((ex6 ++ ([(r, rngObj 1 (Int.fdiv 8 pw + 2) tr ur vr)] ++ (ex4 ++ (ex3 ++ (ex2 ++ ex1))))) ++ led)) := by rw [← ass]; exact N7
  refine ret m7 le' co' si' ss' ps4 (ex6 ++ ([(r, rngObj 1 (Int.fdiv 8 pw + 2) tr ur vr)] ++ (ex4 ++ (ex3 ++ (ex2 ++ ex1))))) h7 tk7 (by omega) hm7' hmt7 F7 N7' (O6.app (Or.app (O4.app (O3.app (O2.app O1))))) (f6.app2 (fr_r.app2 (f4.app2 (f3'.app2 (f2.app2 f1))))) (K4.mono fun p hp => ?_) ⟨_, hle'⟩ ⟨_, hco'⟩ ⟨_, hsi'⟩ ⟨_, hss'⟩
  rcases List.mem_append.mp hp with hp | hp
  · exact List.mem_append_left _ (List.mem_append_right _ (List.mem_append_right _ (List.mem_append_left _ hp)))
  · exact List.mem_append_right _ hp
end Mine
end
namespace Mine
theorem freshAtPow2 : True := by
  (try (walk1; fail))
  w_top off
  trivial
end Mine
section
open PySem PySem.W PySem.Calls PyProof.Rows PyProof.Rows.LCg
set_option autoImplicit false
namespace Mine
set_option maxRecDepth 100000
set_option maxHeartbeats 8000000
theorem fillOfPow2 : PySem.Challenge.rw_rl0102_01 = PySem.Challenge.rw_rl0102_01 ∧ KK = KK := by
  k_fill
  exact ⟨rfl, rfl⟩
variable {w : World} {dp un : Nat} {fr : Option (List Env)} {gd : Option (List Code)} {s : Shared} {h₀ : Heap} {L fa : Addr} {m : Str → Option Value} {news : List (Addr × Obj)} {p : Program} {loose : List Str} {mean : ExcName → Option Value} {mg mb : Str → Option Value}

theorem pow_eq : powBody = [nth powBody 0, nth powBody 1, nth powBody 2, nth powBody 3, nth powBody 4, nth powBody 5, nth powBody 6, nth powBody 7] := by with_unfolding_all rfl
theorem pow_body (X : (KK w.params).In h₀) (T : Top p loose mean mg mb h₀) (hdep : dp + 40 < recursionLimit) (hun : un + 300 < cLine) (CH : CodeHd h₀ 171 169) (F : Fr h₀ L s.heap m) {le co si ss po : Obj} {ps : Array Value} {led kl lt : Led} (N : News h₀ L s.heap (six L le co si ss po ps led)) (O : Off L led) (K : TabOk kl ps) (hkl : ∀ p ∈ kl, p ∈ led) (hlt : ∀ p ∈ lt, p ∈ led) (c1 : IsCell le) (c2 : IsCell co) (c3 : IsCell si) (c4 : IsCell ss)
    {pw : Int} {tp : Tok} (hpo : po.data = .cell (some (.int pw tp))) {aw at' : Addr} {u v z : Wd} (hmw : m (Str.ofString "words") = some (.ref aw)) (hW : Words led aw u v z) (hmt : m (Str.ofString "texts") = some (.ref at')) {x0 x1 x2 : List Nat} (hT : Txts lt at' x0 x1 x2)
    (hx : (pw = 1 ∧ x0 = txt u pw ∧ x1 = txt v pw ∧ x2 = txt z pw) ∨ ((pw = 2 ∨ pw = 4) ∧ parseL x0 = txt u pw ∧ parseL x1 = txt v pw ∧ parseL x2 = txt z pw ∧ x0.length ≤ 60 ∧ x1.length ≤ 60 ∧ x2.length ≤ 60)) (h0 : 0 < s.toks)
    (pu : PW1 u pw) (pv : PW1 v pw) (pz : PW1 z pw) (puv : PW2 u v pw) (pvz : PW2 v z pw) (pzu : PW2 z u pw) {Q : Flow → Shared → Prop}
    (ret : ∀ m' le' co' si' ss' ps' ex at'' h' tk', s.toks ≤ tk' → SameBut powVars m m' → m' (Str.ofString "texts") = some (.ref at'') → Txts (ex ++ lt) at'' (txt u pw) (txt v pw) (txt z pw) → Fr h₀ L h' m' → News h₀ L h' (six L le' co' si' ss' po ps' (ex ++ led)) → Off L ex → Fresh ex led → TabOk (ex ++ kl) ps' → IsCell le' → IsCell co' → IsCell si' → IsCell ss' → Q .next { s with heap := h', toks := tk' }) :
    wpAny (model prg w) (mkA dp un fr gd) (execs powBody (LE L fa)) Q (fun _ _ => False) s := by
  have pm : ∀ {le co si ss : Obj} {ps : Array Value} {led : Led}, (L + 1, po) ∈ six L le co si ss po ps led := .tail _ (.tail _ (.tail _ (.tail _ (.head _))))
  rw [pow_eq]
  rcases hx with ⟨hp, rfl, rfl, rfl⟩ | ⟨hp, e0, e1, e2, b0, b1, b2⟩
  · refine wpAny_execs_cons (s_if1 X T hdep hun F N hpo pm hp fun tk1 htk1 => ?_)
    dsimp only
    refine pow_rest X T hdep hun CH (by exact F) (by exact N) O K hkl c1 c2 c3 c4 hpo (.inl hp) hmw hW hmt (hT.mono hlt) (Nat.lt_of_lt_of_le h0 htk1) pu pv pz puv pvz pzu ?_
    intro m' le' co' si' ss' ps' ex h' tk' htk hm' hmt' F' N' O' f' K' d1 d2 d3 d4
    exact ret m' le' co' si' ss' ps' ex at' h' tk' (Nat.le_trans htk1 htk) hm' (hmt'.trans hmt) (hT.mono fun p hp => List.mem_append_right _ hp) F' N' O' f' K' d1 d2 d3 d4
  · refine wpAny_execs_cons (s_if2 X T hdep hun F N hpo pm hp fun tk1 htk1 => ?_)
    refine s_parse X T hdep hun (by exact F) (by exact N) hmt (hT.mono fun p hp => in_six (hlt p hp)) ⟨b0, b1, b2⟩ ?_
    intro D ex1 h1 tk2 htk2 F1 N1 fr1 hT1
    dsimp only at htk2 ⊢
    have N1' := six_push N1
    have O1 : Off L ex1 := off_fresh fr1
    have f1 : Fresh ex1 led := fun p hp q hq => fr1 p hp q (in_six hq)
    rw [e0, e1, e2] at hT1
    refine pow_rest X T hdep hun CH (by exact F1) (by exact N1') (O1.app O) K (fun p hp => List.mem_append_right _ (hkl p hp)) c1 c2 c3 c4 hpo (.inr hp) (by show (if _ = _ then _ else _) = _; rw [if_neg (by decide)]; exact hmw) (hW.mono fun p hp => List.mem_append_right _ hp) (at' := D) (by show (if _ = _ then _ else _) = _; rw [if_pos rfl]) (hT1.mono fun p hp => List.mem_append_left _ hp) (by dsimp only; omega) pu pv pz puv pvz pzu ?_
    intro m' le' co' si' ss' ps' ex h' tk' htk hm' hmt' F' N' O' f' K' d1 d2 d3 d4
    dsimp only at htk
    have ass : ex ++ (ex1 ++ led) = (ex ++ ex1) ++ led := (List.append_assoc _ _ _).symm
    refine ret m' le' co' si' ss' ps' (ex ++ ex1) D h' tk' (by omega) (((SameBut.refl m).set (by decide)).trans hm') (hmt'.trans (by show (if _ = _ then _ else _) = _; rw [if_pos rfl])) (hT1.mono fun p hp => List.mem_append_left _ (List.mem_append_right _ hp)) F' (by rw [← ass]; exact N') (O'.app O1) (Fresh.app2 (fun p hp q hq => f' p hp q (List.mem_append_right _ hq)) f1) (K'.mono fun p hp => ?_) d1 d2 d3 d4
    rcases List.mem_append.mp hp with hp | hp
    · exact List.mem_append_left _ (List.mem_append_left _ hp)
    · exact List.mem_append_right _ hp
end Mine
end
namespace Mine
theorem freshAtPow3 : True := by
  (try (walk1; fail))
  w_top off
  trivial
end Mine
section
open PySem PySem.W PySem.Calls PyProof.Rows PyProof.Rows.LCg
set_option autoImplicit false
namespace Mine
set_option maxRecDepth 100000
set_option maxHeartbeats 8000000
theorem fillOfPow3 : PySem.Challenge.rw_rl0102_01 = PySem.Challenge.rw_rl0102_01 ∧ KK = KK := by
  k_fill
  exact ⟨rfl, rfl⟩
variable {w : World} {dp un : Nat} {fr : Option (List Env)} {gd : Option (List Code)} {s : Shared} {h₀ : Heap} {L fa : Addr} {m : Str → Option Value} {news : List (Addr × Obj)} {p : Program} {loose : List Str} {mean : ExcName → Option Value} {mg mb : Str → Option Value}

structure PF (u v z : Wd) (pw : Int) : Prop where
  pu : PW1 u pw
  pv : PW1 v pw
  pz : PW1 z pw
  puv : PW2 u v pw
  pvz : PW2 v z pw
  pzu : PW2 z u pw
structure WF (u v z : Wd) : Prop where
  f : ∀ pw : Int, pw = 1 ∨ pw = 2 ∨ pw = 4 → PF u v z pw
  a2 : parseL (txt u 1) = txt u 2 ∧ parseL (txt v 1) = txt v 2 ∧ parseL (txt z 1) = txt z 2
  a4 : parseL (txt u 2) = txt u 4 ∧ parseL (txt v 2) = txt v 4 ∧ parseL (txt z 2) = txt z 4
def bef (i : Nat) : Int := if i ≤ 1 then 1 else if i = 2 then 2 else 4
def JPow (L : Addr) (m : Str → Option Value) (led kl lt : Led) (u v z : Wd) (i : Nat) (m' : Str → Option Value) (news' : Led) : Prop :=
  ∃ le' co' si' ss' po' ps' ex at'', news' = six L le' co' si' ss' po' ps' (ex ++ led) ∧ SameBut powVars m m' ∧ m' (Str.ofString "texts") = some (.ref at'') ∧ Txts (ex ++ lt) at'' (txt u (bef i)) (txt v (bef i)) (txt z (bef i)) ∧ Off L ex ∧ Fresh ex led ∧ TabOk (ex ++ kl) ps' ∧ IsCell le' ∧ IsCell co' ∧ IsCell si' ∧ IsCell ss' ∧ IsCell po'
theorem n_51 (n : Nat) : n + 1 + 1 + 1 + 1 + 1 ≠ n + 1 := by omega
theorem n_41 (n : Nat) : n + 1 + 1 + 1 + 1 ≠ n + 1 := by omega
theorem n_21 (n : Nat) : n + 1 + 1 ≠ n + 1 := by omega
section
local macro_rules | `(tactic| walk_at "newTuple") => `(tactic| (refine hold ?_))
theorem s_power (X : (KK w.params).In h₀) (T : Top p loose mean mg mb h₀) (hdep : dp + 40 < recursionLimit) (hun : un + 300 < cLine) (CH : CodeHd h₀ 171 169) (F : Fr h₀ L s.heap m) {le co si ss po : Obj} {ps : Array Value} {led kl lt : Led} (N : News h₀ L s.heap (six L le co si ss po ps led)) (O : Off L led) (K : TabOk kl ps) (hkl : ∀ p ∈ kl, p ∈ led) (hlt : ∀ p ∈ lt, p ∈ led) (c1 : IsCell le) (c2 : IsCell co) (c3 : IsCell si) (c4 : IsCell ss) (c5 : IsCell po)
    {aw at' : Addr} {u v z : Wd} (hmw : m (Str.ofString "words") = some (.ref aw)) (hW : Words led aw u v z) (hmt : m (Str.ofString "texts") = some (.ref at')) (hT : Txts lt at' (txt u 1) (txt v 1) (txt z 1)) (h0 : 0 < s.toks) (W : WF u v z) {Q : Flow → Shared → Prop}
    (ret : ∀ m' h' tk' ex le' co' si' ss' po' ps', Fr h₀ L h' m' → News h₀ L h' (six L le' co' si' ss' po' ps' (ex ++ led)) → TabOk (ex ++ kl) ps' → Q .next { s with heap := h', toks := tk' }) :
    wpAny (model prg w) (mkA dp un fr gd) (exec (nth lawBody 2) (LE L fa)) Q (fun _ _ => False) s := by
  with_unfolding_all show wpAny _ _ (exec (Stmt.For (Expr.Name _ _) _ _ [] _) _) _ _ _
  refine for_tuple (h₀ := h₀) (L := L) (its := #[.int 1 (s.toks), .int 2 (s.toks + 1), .int 4 (s.toks + 1 + 1)]) rfl (JPow L m led kl lt u v z) PassesOwn.never ?_ ?_ ?_
  · k_steps
    unfold Hold
    refine newTuple_N F N (fun h' F' N' => ?_) (by show 3 ≤ sizeLine; decide)
    refine ⟨_, _, m, _, rfl, ⟨h', _, rfl⟩, F', N', fun p hp => Nat.ne_of_lt (Heap.lt_size (N p hp).1), ⟨le, co, si, ss, po, ps, [], at', rfl, SameBut.refl m, hmt, hT, Off.nil, Fresh.nil _, K, c1, c2, c3, c4, c5⟩, ?_⟩
    show s.toks ≤ s.toks + 1 + 1 + 1
    omega
  · rintro i val m' news' own h tk hv ⟨le', co', si', ss', po', ps', ex, at2, rfl, hm', hmt', hT', O', f', K', d1, d2, d3, d4, d5⟩ F' N' o1 htk
    obtain ⟨pw, tp, rfl, hpw, hbef, hx⟩ : ∃ (pw : Int) (tp : Tok), val = .int pw tp ∧ (pw = 1 ∨ pw = 2 ∨ pw = 4) ∧ bef (i + 1) = pw ∧ ((pw = 1 ∧ txt u (bef i) = txt u pw ∧ txt v (bef i) = txt v pw ∧ txt z (bef i) = txt z pw) ∨ ((pw = 2 ∨ pw = 4) ∧ parseL (txt u (bef i)) = txt u pw ∧ parseL (txt v (bef i)) = txt v pw ∧ parseL (txt z (bef i)) = txt z pw ∧ (txt u (bef i)).length ≤ 60 ∧ (txt v (bef i)).length ≤ 60 ∧ (txt z (bef i)).length ≤ 60)) := by
      rcases i with _ | _ | _ | i
      · exact ⟨1, s.toks, (Option.some.inj hv).symm, .inl rfl, rfl, .inl ⟨rfl, rfl, rfl, rfl⟩⟩
      · exact ⟨2, s.toks + 1, (Option.some.inj hv).symm, .inr (.inl rfl), rfl, .inr ⟨.inl rfl, W.a2.1, W.a2.2.1, W.a2.2.2, (W.f 1 (.inl rfl)).pu.tl, (W.f 1 (.inl rfl)).pv.tl, (W.f 1 (.inl rfl)).pz.tl⟩⟩
      · exact ⟨4, s.toks + 1 + 1, (Option.some.inj hv).symm, .inr (.inr rfl), rfl, .inr ⟨.inr rfl, W.a4.1, W.a4.2.1, W.a4.2.2, (W.f 2 (.inr (.inl rfl))).pu.tl, (W.f 2 (.inr (.inl rfl))).pv.tl, (W.f 2 (.inr (.inl rfl))).pz.tl⟩⟩
      · simp at hv
    have hlt' := low169 CH F
    have Oo : Off L own := off_fresh (fun p hp q hq => o1 q hq p hp)
    have Ol : Off L (own ++ (ex ++ led)) := Oo.app (O'.app O)
    have N2 : News h₀ L h (six L le' co' si' ss' po' ps' (own ++ (ex ++ led))) := six_push N'
    obtain ⟨vpo, hpo⟩ := d5
    refine wpAny_assign_Name (st_cell (pre := [(L + 1 + 1 + 1 + 1 + 1, le'), (L + 1 + 1 + 1 + 1, co'), (L + 1 + 1 + 1, si'), (L + 1 + 1, ss')]) (post := (169, tabObj ps') :: (own ++ (ex ++ led))) F' N2 hpo (fun p hp => ?_) (fun p hp => ?_) (fun po2 h2 hpo2 F2 N3 => ?_) (by with_unfolding_all rfl))
    · simp only [List.mem_cons, List.not_mem_nil, or_false] at hp
      rcases hp with rfl | rfl | rfl | rfl
      · exact n_51 L
      · exact n_41 L
      · exact Ne.symm (n_31 L)
      · exact n_21 L
    · rcases List.mem_cons.mp hp with rfl | hp
      · exact Ne.symm (n_169 L 1 hlt')
      · exact (Ol p hp).2.2.2.2.1
    have P := W.f pw hpw
    refine pow_body X T hdep hun CH (by exact F2) (by exact N3) Ol K' (fun p hp => List.mem_append_right _ ((List.mem_append.mp hp).elim (fun hp => List.mem_append_left _ hp) fun hp => List.mem_append_right _ (hkl p hp))) (lt := ex ++ lt) (fun p hp => List.mem_append_right _ ((List.mem_append.mp hp).elim (fun hp => List.mem_append_left _ hp) fun hp => List.mem_append_right _ (hlt p hp))) d1 d2 d3 d4 hpo2 ((hm' _ (by decide)).trans hmw) (hW.mono fun p hp => List.mem_append_right _ (List.mem_append_right _ hp)) hmt' hT' hx (Nat.lt_of_lt_of_le h0 htk) P.pu P.pv P.pz P.puv P.pvz P.pzu ?_
    intro m2 le2 co2 si2 ss2 ps2 ex2 at3 h3 tk3 htk3 hm2 hmt2 hT2 F3 N4 O2 f2 K2 e1 e2 e3 e4
    dsimp only at htk3 ⊢
    have N5 : News h₀ L h3 (own ++ six L le2 co2 si2 ss2 po2 ps2 ((ex2 ++ ex) ++ led)) := news_sub N4 fun p => by
      simp only [six, List.mem_append, List.mem_cons]
      rintro (h | h | h | h | h | h | h | (h | h) | h) <;> simp [h]
    refine ⟨h3, tk3, m2, _, rfl, F3, N5, fun p hp q hq => ?_, le2, co2, si2, ss2, po2, ps2, ex2 ++ ex, at3, rfl, hm'.trans hm2, hmt2, ?_, O2.app O', Fresh.app2 (fun p hp q hq => f2 p hp q (List.mem_append_right _ (List.mem_append_right _ hq))) f', ?_, e1, e2, e3, e4, ⟨_, hpo2⟩⟩
    · rcases six_cases hp with hp | rfl | hp
      · exact five_off (Oo q hq) hp
      · exact Ne.symm (Oo q hq).2.2.2.2.2
      · rcases List.mem_append.mp hp with hp | hp
        · rcases List.mem_append.mp hp with hp | hp
          · exact Ne.symm (f2 p hp q (List.mem_append_left _ hq))
          · exact o1 p (in_six (List.mem_append_left _ hp)) q hq
        · exact o1 p (in_six (List.mem_append_right _ hp)) q hq
    · rw [hbef, List.append_assoc]; exact hT2
    · rw [List.append_assoc]; exact K2
  · rintro m' news' h tk ⟨le', co', si', ss', po', ps', ex, at2, rfl, hm', hmt', hT', O', f', K', d1, d2, d3, d4, d5⟩ F' N' htk
    exact ret m' h tk ex le' co' si' ss' po' ps' F' N' K'
end
end Mine
end
namespace Mine
theorem freshAtWd0 : True := by
  (try (walk1; fail))
  w_top off
  trivial
end Mine
section
open PySem PySem.W PySem.Calls PyProof.Rows PyProof.Rows.LCg
set_option autoImplicit false
namespace Mine
set_option maxRecDepth 100000
set_option maxHeartbeats 8000000
theorem fillOfWd0 : PySem.Challenge.rw_rl0102_01 = PySem.Challenge.rw_rl0102_01 ∧ KK = KK := by
  k_fill
  exact ⟨rfl, rfl⟩
variable {w : World} {dp un : Nat} {fr : Option (List Env)} {gd : Option (List Code)} {s : Shared} {h₀ : Heap} {L fa : Addr} {m : Str → Option Value} {news : List (Addr × Obj)} {p : Program} {loose : List Str} {mean : ExcName → Option Value} {mg mb : Str → Option Value}

def wd (x : Int) : Wd := (run0 x, run1 x, run2 x)
/-- what is left of the words' comprehension, once its list is there -/
theorem words_end (X : (KK w.params).In h₀) (T : Top p loose mean mg mb h₀) (hdep : dp + 40 < recursionLimit) (hun : un + 300 < cLine) (F : Fr h₀ L s.heap m) {Q : Flow → Shared → Prop} {E : Value → Shared → Prop} {ax : Addr} {c : Nat} {x y z : Int} {tx ty tz : Tok} {q : Addr × Obj} {rest : Led} (N' : News h₀ L s.heap (q :: rest)) (hq : q = (ax, PySem.W.listOf #[.int x tx, .int y ty, .int z tz] c)) (hsub : ∀ p ∈ news, p ∈ rest) (h0 : 0 < s.toks) {iter : Expr} {px py pos : Pos} {scope : Scope} (hsc : scope = lcWords.2.1)
    (ret : ∀ D ex h' tk', 0 < tk' → Fr h₀ L h' (setm m (Str.ofString "words") (.ref D)) → News h₀ L h' (ex ++ news) → Fresh ex news → Words ex D (wd x) (wd y) (wd z) → Q .next { s with heap := h', toks := tk' }) :
    wpAny (model prg w) (mkA dp un fr gd) (pyIter (.ref ax)) (fun it s₂ => wpAny (model prg w) (mkA dp un fr gd) (newList []) (fun acc s₃ =>
      wpAny (model prg w) (mkA dp un fr gd) (newFunctionEnv scope (LE L fa).globals [] [] (LE L fa).qual none .none (some (LE L fa))) (fun cenv s₄ =>
        codeAny (model prg w) (mkA dp un fr gd) (.compStart (.ListComp lcWords.1 [⟨.Name (Str.ofString "x") px, iter, [], 0⟩] scope pos) 0 it acc { cenv with scope := relabel scope (LE L fa) }) (compPost (model prg w) (mkA dp un fr gd) E (some (assign (.Name (Str.ofString "words") py) (LE L fa))) (fun _ s' => Q .next s') acc cenv.locals) s₄) E s₃) E s₂) E s := by
  subst hsc
  subst hq
  have N3 : News h₀ L s.heap ((ax, PySem.W.listOf #[.int x tx, .int y ty, .int z tz] c) :: news) := news_sub N' fun p hp => (List.mem_cons.mp hp).elim (fun e => e ▸ .head _) fun hp => .tail _ (hsub p hp)
  refine comp_localK (x := (Str.ofString "x")) (scope := lcWords.2.1) (cl := []) (env := LE L fa) (use := some (assign (.Name (Str.ofString "words") py) (LE L fa))) (Q := fun _ s' => Q .next s') (its := #[.int x tx, .int y ty, .int z tz]) (c := c) (need := []) (Ps := [_, _, _]) rfl (by show 3 ≤ sizeLine; decide) (by decide) rfl rfl rfl
    (fun C => idx3 (e_runs X T hdep hun) (e_runs X T hdep hun) (e_runs X T hdep hun)) rem3 (List.forall_mem_nil _) (.head _) F N3
    (fun D₀ C₀ => fin_swap (env := LE L fa) (y := (Str.ofString "words")) rfl (by with_unfolding_all rfl) (by with_unfolding_all rfl) ?_)
  rintro D ys news' h tk htk ⟨y0, y1, y2, z0, z1, z2, ex, rfl, rfl, fr, ⟨a0, b00, b01, b02, rfl, rfl⟩, ⟨a1, b10, b11, b12, rfl, rfl⟩, ⟨a2, b20, b21, b22, rfl, rfl⟩, k0, k1, k2⟩ F' N'' off
  refine ret D ((D, lst [.ref a0, .ref a1, .ref a2]) :: ex) h tk (Nat.lt_of_lt_of_le h0 htk) F' (news_sub N'' fun p hp => ?_) (fun p hp q hq => ?_) ⟨a0, a1, a2, 3, .head _, ⟨b00, b01, b02, 0, .tail _ (k0 _ (.head _))⟩, ⟨b10, b11, b12, 0, .tail _ (k1 _ (.head _))⟩, ⟨b20, b21, b22, 0, .tail _ (k2 _ (.head _))⟩⟩
  · rcases List.mem_cons.mp hp with rfl | hp
    · exact .head _
    · exact .tail _ ((List.mem_append.mp hp).elim (fun hp => List.mem_append_left _ hp) fun hp => List.mem_append_right _ (.tail _ hp))
  · rcases List.mem_cons.mp hp with rfl | hp
    · exact off q (List.mem_append_right _ (.tail _ hq))
    · exact fr p hp q (.tail _ hq)
end Mine
end
namespace Mine
theorem freshAtWd1 : True := by
  (try (walk1; fail))
  w_top off
  trivial
end Mine
section
open PySem PySem.W PySem.Calls PyProof.Rows PyProof.Rows.LCg
set_option autoImplicit false
namespace Mine
set_option maxRecDepth 100000
set_option maxHeartbeats 8000000
theorem fillOfWd1 : PySem.Challenge.rw_rl0102_01 = PySem.Challenge.rw_rl0102_01 ∧ KK = KK := by
  k_fill
  exact ⟨rfl, rfl⟩
variable {w : World} {dp un : Nat} {fr : Option (List Env)} {gd : Option (List Code)} {s : Shared} {h₀ : Heap} {L fa : Addr} {m : Str → Option Value} {news : List (Addr × Obj)} {p : Program} {loose : List Str} {mean : ExcName → Option Value} {mg mb : Str → Option Value}

section
local macro_rules | `(tactic| walk_at "eval Name") => `(tactic| (k_here; k_dflt (refine nameX_L (by k_asm) (by assumption) ?_ (by rfl) (by rfl) (by decide))))
theorem s_words (X : (KK w.params).In h₀) (T : Top p loose mean mg mb h₀) (hdep : dp + 40 < recursionLimit) (hun : un + 300 < cLine) (F : Fr h₀ L s.heap m) (N : News h₀ L s.heap news) {Q : Flow → Shared → Prop} {E : Value → Shared → Prop} {sa : Addr} {vs : List Value} {xs : List Int} (hms : m (Str.ofString "script") = some (.ref sa)) (hl : h₀.IsList sa vs.toArray) (hi : IntsAre vs xs) (hlen : xs.length ≤ 63)
    (ret : ∀ (x y z : Int) D ex h' tk', 0 < tk' → Fr h₀ L h' (setm m (Str.ofString "words") (.ref D)) → News h₀ L h' (ex ++ news) → Fresh ex news → Words ex D (wd x) (wd y) (wd z) → Q .next { s with heap := h', toks := tk' }) :
    wpAny (model prg w) (mkA dp un fr gd) (exec (nth lawBody 0) (LE L fa)) Q E s := by
  with_unfolding_all show wpAny _ _ (exec (Stmt.Assign [Expr.Name _ _] (Expr.ListComp _ [⟨Expr.Name _ _, _, [], 0⟩] _ _) _) _) _ _ _
  refine assign_comp (cl := []) (by with_unfolding_all rfl) rfl (by decide) (by with_unfolding_all rfl) ?_ (by intro _; rfl)
  by_cases h3 : 3 ≤ xs.length
  · obtain ⟨x0, x1, x2, r, rfl⟩ : ∃ x0 x1 x2 r, xs = x0 :: x1 :: x2 :: r := by
      rcases xs with _ | ⟨x0, _ | ⟨x1, _ | ⟨x2, r⟩⟩⟩
      · simp at h3
      · simp at h3
      · simp at h3
      · exact ⟨_, _, _, _, rfl⟩
    k_steps
    rename IntsAre _ _ => hA
    have hA' : IntsAre _ [x0, x1, x2] := hA
    clear hA
    rcases hA' with _ | ⟨_, t0, hA⟩
    rcases hA with _ | ⟨_, t1, hA⟩
    rcases hA with _ | ⟨_, t2, hA⟩
    cases hA
    rename News _ _ _ _ => N1
    rename Fr _ _ _ _ => F1
    refine words_end X T hdep hun (by exact F1) (by exact N1) rfl (fun p hp => ?_) (by first | exact Nat.succ_pos _ | (dsimp only; omega)) rfl (ret _ _ _)
    simp only [List.mem_cons]
    simp [show p ∈ news from hp]
  rcases hi with _ | ⟨x0, t0, hi⟩
  · k_steps
    rename News _ _ _ _ => N1
    rename Fr _ _ _ _ => F1
    refine words_end X T hdep hun (by exact F1) (by exact N1) rfl (fun p hp => ?_) (by first | exact Nat.succ_pos _ | (dsimp only; omega)) rfl (ret _ _ _)
    simp only [List.mem_cons]
    simp [show p ∈ news from hp]
  rcases hi with _ | ⟨x1, t1, hi⟩
  · k_steps
    rename News _ _ _ _ => N1
    rename Fr _ _ _ _ => F1
    refine words_end X T hdep hun (by exact F1) (by exact N1) rfl (fun p hp => ?_) (by first | exact Nat.succ_pos _ | (dsimp only; omega)) rfl (ret _ _ _)
    simp only [List.mem_cons]
    simp [show p ∈ news from hp]
  rcases hi with _ | ⟨x2, t2, hi⟩
  · k_steps
    rename News _ _ _ _ => N1
    rename Fr _ _ _ _ => F1
    refine words_end X T hdep hun (by exact F1) (by exact N1) rfl (fun p hp => ?_) (by first | exact Nat.succ_pos _ | (dsimp only; omega)) rfl (ret _ _ _)
    simp only [List.mem_cons]
    simp [show p ∈ news from hp]
  · simp at h3
end
end Mine
end
namespace Mine
theorem freshAtRun1 : True := by
  (try (walk1; fail))
  w_top off
  trivial
end Mine
section
open PySem PySem.W PySem.Calls PyProof.Rows PyProof.Rows.LCg
set_option autoImplicit false
namespace Mine
set_option maxRecDepth 100000
set_option maxHeartbeats 8000000
theorem fillOfRun1 : PySem.Challenge.rw_rl0102_01 = PySem.Challenge.rw_rl0102_01 ∧ KK = KK := by
  k_fill
  exact ⟨rfl, rfl⟩
variable {w : World} {dp un : Nat} {fr : Option (List Env)} {gd : Option (List Code)} {s : Shared} {h₀ : Heap} {L fa : Addr} {m : Str → Option Value} {news : List (Addr × Obj)} {p : Program} {loose : List Str} {mean : ExcName → Option Value} {mg mb : Str → Option Value}

theorem law_eq : lawBody = [nth lawBody 0, nth lawBody 1, nth lawBody 2, nth lawBody 3] := by with_unfolding_all rfl
theorem txt_one (w : Wd) : textL [w.1.toNat, w.2.1.toNat, w.2.2.toNat] = txt w 1 := by
  obtain ⟨a, b, c⟩ := w
  simp [txt, lf, leftF]
theorem law_run (X : (KK w.params).In h₀) (T : Top p loose mean mg mb h₀) (hdep : dp + 40 < recursionLimit) (hun : un + 300 < cLine) (CH : CodeHd h₀ 171 169) (F : Fr h₀ L s.heap m) {le co si ss po : Obj} {ps : Array Value} (N : News h₀ L s.heap (six L le co si ss po ps [])) (K : TabOk [] ps) (c1 : IsCell le) (c2 : IsCell co) (c3 : IsCell si) (c4 : IsCell ss) (c5 : IsCell po)
    {sa : Addr} {vs : List Value} {xs : List Int} (hms : m (Str.ofString "script") = some (.ref sa)) (hl : h₀.IsList sa vs.toArray) (hi : IntsAre vs xs) (hlen : xs.length ≤ 63) (hWF : ∀ x y z : Int, WF (wd x) (wd y) (wd z)) (hBd : ∀ x : Int, Bd (wd x)) {Q : Flow → Shared → Prop}
    (ret : ∀ m' h' tk' ex le' co' si' ss' po' ps', Fr h₀ L h' m' → News h₀ L h' (six L le' co' si' ss' po' ps' ex) → TabOk ex ps' → Q (.ret (.bool true)) { s with heap := h', toks := tk' }) :
    wpAny (model prg w) (mkA dp un fr gd) (execs lawBody (LE L fa)) Q (fun _ _ => False) s := by
  rw [law_eq]
  refine wpAny_execs_cons (s_words X T hdep hun F N hms hl hi hlen ?_)
  intro x y z wD ex1 h1 tk1 pos1 F1 N1 fr1 hW
  dsimp only
  have N1' := six_push N1
  have O1 : Off L ex1 := off_fresh fr1
  refine wpAny_execs_cons (s_texts X T hdep hun (by exact F1) (by exact N1') (by show (if _ = _ then _ else _) = _; rw [if_pos rfl]) (hW.mono fun p hp => in_six (List.mem_append_left _ hp)) (hBd x) (hBd y) (hBd z) ?_)
  intro tD ex2 h2 tk2 htk2 F2 N2 fr2 hT
  dsimp only at htk2 ⊢
  have N2' := six_push N2
  have O2 : Off L ex2 := off_fresh fr2
  rw [txt_one, txt_one, txt_one] at hT
  refine wpAny_execs_cons (s_power X T hdep hun CH (by exact F2) (by exact N2') (O2.app (O1.app Off.nil)) K (fun p hp => nomatch hp) (lt := ex2) (fun p hp => List.mem_append_left _ hp) c1 c2 c3 c4 c5 (aw := wD) (at' := tD) (by show (if _ = _ then _ else if _ = _ then _ else _) = _; rw [if_neg (by decide), if_pos rfl]) (hW.mono fun p hp => List.mem_append_right _ (List.mem_append_left _ hp)) (by show (if _ = _ then _ else _) = _; rw [if_pos rfl]) hT (Nat.lt_of_lt_of_le pos1 htk2) (hWF x y z) ?_)
  intro m3 h3 tk3 ex3 le' co' si' ss' po' ps' F3 N3 K3
  dsimp only
  have N4 : News h₀ L h3 (six L le' co' si' ss' po' ps' (ex3 ++ (ex2 ++ (ex1 ++ [])))) := N3
  have K4 : TabOk (ex3 ++ (ex2 ++ (ex1 ++ []))) ps' := K3.mono fun p hp => (List.mem_append.mp hp).elim (fun hp => List.mem_append_left _ hp) fun hp => nomatch hp
  have fin := ret m3 h3
  clear N N1 N2 F F1 F2 ret
  with_unfolding_all show wpAny _ _ (execs [Stmt.Return (some (Expr.Constant _ _ _)) _] _) _ _ _
  k_steps
  exact fin _ _ _ _ _ _ _ _ F3 N4 K4
end Mine
end
namespace Mine
theorem freshAtPl1 : True := by
  (try (walk1; fail))
  w_top off
  trivial
end Mine
section
open PySem PySem.W PySem.Calls PyProof.Rows PyProof.Rows.LCg
set_option autoImplicit false
namespace Mine
set_option maxRecDepth 100000
set_option maxHeartbeats 8000000
theorem fillOfPl1 : PySem.Challenge.rw_rl0102_01 = PySem.Challenge.rw_rl0102_01 ∧ KK = KK := by
  k_fill
  exact ⟨rfl, rfl⟩
variable {w : World} {dp un : Nat} {fr : Option (List Env)} {gd : Option (List Code)} {s : Shared} {h₀ : Heap} {L fa : Addr} {m : Str → Option Value} {news : List (Addr × Obj)} {p : Program} {loose : List Str} {mean : ExcName → Option Value} {mg mb : Str → Option Value}

def Dl : List Int := [0, 4, 8, 2, 6, 5, 3]
def rows3 (a : Int) : List Wd := Dl.flatMap fun b => Dl.map fun c => (a, b, c)
def chk1 (w : Wd) (pw : Int) : Bool :=
  decide (1 ≤ (lf w pw).length ∧ (lf w pw).length ≤ 3) && (lf w pw).all (fun r => decide (0 ≤ r ∧ r ≤ 8)) && okL (txt w pw) && decide ((txt w pw).length ≤ 60) && (txt w pw).all (fun c => decide (c = 34 ∨ c = 120)) &&
  decide ((ws w pw).1.length ≤ 9) && decide (0 ≤ (ws w pw).2.1 ∧ (ws w pw).2.1 ≤ 8) && (ws w pw).1.all (fun c => decide (0 ≤ c ∧ c ≤ 60)) &&
  [1, 2, 3].all fun sz : Int => decide (indF (ws w pw).1 (ws w pw).2.1 (ws w pw).2.2.2 sz = colF (lf w pw) pw sz)
def chkP (w : Wd) (pw : Int) : Bool := if pw = 4 then true else decide (parseL (txt w pw) = txt w (2 * pw))
theorem chkA0p1 : ((rows3 0).all fun w => chk1 w 1) = true := by decide +kernel
theorem chkA0p2 : ((rows3 0).all fun w => chk1 w 2) = true := by decide +kernel
theorem chkA0p4 : ((rows3 0).all fun w => chk1 w 4) = true := by decide +kernel
theorem chkA4p1 : ((rows3 4).all fun w => chk1 w 1) = true := by decide +kernel
theorem chkA4p2 : ((rows3 4).all fun w => chk1 w 2) = true := by decide +kernel
theorem chkA4p4 : ((rows3 4).all fun w => chk1 w 4) = true := by decide +kernel
theorem chkA8p1 : ((rows3 8).all fun w => chk1 w 1) = true := by decide +kernel
theorem chkA8p2 : ((rows3 8).all fun w => chk1 w 2) = true := by decide +kernel
theorem chkA8p4 : ((rows3 8).all fun w => chk1 w 4) = true := by decide +kernel
theorem chkA2p1 : ((rows3 2).all fun w => chk1 w 1) = true := by decide +kernel
theorem chkA2p2 : ((rows3 2).all fun w => chk1 w 2) = true := by decide +kernel
theorem chkA2p4 : ((rows3 2).all fun w => chk1 w 4) = true := by decide +kernel
theorem chkA6p1 : ((rows3 6).all fun w => chk1 w 1) = true := by decide +kernel
theorem chkA6p2 : ((rows3 6).all fun w => chk1 w 2) = true := by decide +kernel
theorem chkA6p4 : ((rows3 6).all fun w => chk1 w 4) = true := by decide +kernel
theorem chkA5p1 : ((rows3 5).all fun w => chk1 w 1) = true := by decide +kernel
theorem chkA5p2 : ((rows3 5).all fun w => chk1 w 2) = true := by decide +kernel
theorem chkA5p4 : ((rows3 5).all fun w => chk1 w 4) = true := by decide +kernel
theorem chkA3p1 : ((rows3 3).all fun w => chk1 w 1) = true := by decide +kernel
theorem chkA3p2 : ((rows3 3).all fun w => chk1 w 2) = true := by decide +kernel
theorem chkA3p4 : ((rows3 3).all fun w => chk1 w 4) = true := by decide +kernel
theorem chkAAll : ∀ a ∈ Dl, ∀ pw : Int, pw = 1 ∨ pw = 2 ∨ pw = 4 → ((rows3 a).all fun w => chk1 w pw) = true := by
  intro a ha pw hp
  simp only [Dl, List.mem_cons, List.not_mem_nil, or_false] at ha
  rcases ha with rfl | rfl | rfl | rfl | rfl | rfl | rfl <;> rcases hp with rfl | rfl | rfl
  · exact chkA0p1
  · exact chkA0p2
  · exact chkA0p4
  · exact chkA4p1
  · exact chkA4p2
  · exact chkA4p4
  · exact chkA8p1
  · exact chkA8p2
  · exact chkA8p4
  · exact chkA2p1
  · exact chkA2p2
  · exact chkA2p4
  · exact chkA6p1
  · exact chkA6p2
  · exact chkA6p4
  · exact chkA5p1
  · exact chkA5p2
  · exact chkA5p4
  · exact chkA3p1
  · exact chkA3p2
  · exact chkA3p4
theorem chkB0p1 : ((rows3 0).all fun w => chkP w 1) = true := by decide +kernel
theorem chkB0p2 : ((rows3 0).all fun w => chkP w 2) = true := by decide +kernel
theorem chkB0p4 : ((rows3 0).all fun w => chkP w 4) = true := by decide +kernel
theorem chkB4p1 : ((rows3 4).all fun w => chkP w 1) = true := by decide +kernel
theorem chkB4p2 : ((rows3 4).all fun w => chkP w 2) = true := by decide +kernel
theorem chkB4p4 : ((rows3 4).all fun w => chkP w 4) = true := by decide +kernel
theorem chkB8p1 : ((rows3 8).all fun w => chkP w 1) = true := by decide +kernel
theorem chkB8p2 : ((rows3 8).all fun w => chkP w 2) = true := by decide +kernel
theorem chkB8p4 : ((rows3 8).all fun w => chkP w 4) = true := by decide +kernel
theorem chkB2p1 : ((rows3 2).all fun w => chkP w 1) = true := by decide +kernel
theorem chkB2p2 : ((rows3 2).all fun w => chkP w 2) = true := by decide +kernel
theorem chkB2p4 : ((rows3 2).all fun w => chkP w 4) = true := by decide +kernel
theorem chkB6p1 : ((rows3 6).all fun w => chkP w 1) = true := by decide +kernel
theorem chkB6p2 : ((rows3 6).all fun w => chkP w 2) = true := by decide +kernel
theorem chkB6p4 : ((rows3 6).all fun w => chkP w 4) = true := by decide +kernel
theorem chkB5p1 : ((rows3 5).all fun w => chkP w 1) = true := by decide +kernel
theorem chkB5p2 : ((rows3 5).all fun w => chkP w 2) = true := by decide +kernel
theorem chkB5p4 : ((rows3 5).all fun w => chkP w 4) = true := by decide +kernel
theorem chkB3p1 : ((rows3 3).all fun w => chkP w 1) = true := by decide +kernel
theorem chkB3p2 : ((rows3 3).all fun w => chkP w 2) = true := by decide +kernel
theorem chkB3p4 : ((rows3 3).all fun w => chkP w 4) = true := by decide +kernel
theorem chkBAll : ∀ a ∈ Dl, ∀ pw : Int, pw = 1 ∨ pw = 2 ∨ pw = 4 → ((rows3 a).all fun w => chkP w pw) = true := by
  intro a ha pw hp
  simp only [Dl, List.mem_cons, List.not_mem_nil, or_false] at ha
  rcases ha with rfl | rfl | rfl | rfl | rfl | rfl | rfl <;> rcases hp with rfl | rfl | rfl
  · exact chkB0p1
  · exact chkB0p2
  · exact chkB0p4
  · exact chkB4p1
  · exact chkB4p2
  · exact chkB4p4
  · exact chkB8p1
  · exact chkB8p2
  · exact chkB8p4
  · exact chkB2p1
  · exact chkB2p2
  · exact chkB2p4
  · exact chkB6p1
  · exact chkB6p2
  · exact chkB6p4
  · exact chkB5p1
  · exact chkB5p2
  · exact chkB5p4
  · exact chkB3p1
  · exact chkB3p2
  · exact chkB3p4
end Mine
end
namespace Mine
theorem freshAtPl2 : True := by
  (try (walk1; fail))
  w_top off
  trivial
end Mine
section
open PySem PySem.W PySem.Calls PyProof.Rows PyProof.Rows.LCg
set_option autoImplicit false
namespace Mine
set_option maxRecDepth 100000
set_option maxHeartbeats 8000000
theorem fillOfPl2 : PySem.Challenge.rw_rl0102_01 = PySem.Challenge.rw_rl0102_01 ∧ KK = KK := by
  k_fill
  exact ⟨rfl, rfl⟩
variable {w : World} {dp un : Nat} {fr : Option (List Env)} {gd : Option (List Code)} {s : Shared} {h₀ : Heap} {L fa : Addr} {m : Str → Option Value} {news : List (Addr × Obj)} {p : Program} {loose : List Str} {mean : ExcName → Option Value} {mg mb : Str → Option Value}

def qAt (t : List Int) (b nt : Int) (k : Nat) : Int := (t.getD (k - 1) 0 - b) / k - nt
def decT (S : Nat) (t : List Int) : List Int × Int :=
  let b := (t.getLastD 0) % S
  let nt := (t.getLastD 0) / S
  let s1 := qAt t b nt 1
  if nt = 0 then ([], b) else if nt = 1 then ((List.range (s1.toNat + 1)).map fun i => if i = s1.toNat then 1 else 0, b)
  else
    let mx := ((List.range (S + 1)).filter fun k => decide (1 ≤ k) && decide (1 ≤ qAt t b nt k)).getLastD 0
    let i2 := s1.toNat - mx
    ((List.range (mx + 1)).map fun i => (if i = mx then 1 else 0) + (if i = i2 then 1 else 0), b)
def chk2 (w : Wd) (pw : Int) : Bool :=
  let q := ws w pw
  let t := tabF (lf w pw) pw (nOf pw)
  decide (q.2.2.1 = indF q.1 q.2.1 q.2.2.2 1) && decide (t = (List.range' 0 (nOf pw)).map fun j : Nat => indF q.1 q.2.1 q.2.2.2 (1 + (j : Int))) && decide (q.1.length ≤ nOf pw) && decide (0 ≤ q.2.1) && decide (q.2.1 < nOf pw) && decide (0 ≤ q.2.2.2) && decide (decT (nOf pw) t = (q.1, q.2.1)) && decide (q.2.2.2 = q.1.foldl (· + ·) 0)
theorem chkC0p1 : ((rows3 0).all fun w => chk2 w 1) = true := by decide +kernel
theorem chkC0p2 : ((rows3 0).all fun w => chk2 w 2) = true := by decide +kernel
theorem chkC0p4 : ((rows3 0).all fun w => chk2 w 4) = true := by decide +kernel
theorem chkC4p1 : ((rows3 4).all fun w => chk2 w 1) = true := by decide +kernel
theorem chkC4p2 : ((rows3 4).all fun w => chk2 w 2) = true := by decide +kernel
theorem chkC4p4 : ((rows3 4).all fun w => chk2 w 4) = true := by decide +kernel
theorem chkC8p1 : ((rows3 8).all fun w => chk2 w 1) = true := by decide +kernel
theorem chkC8p2 : ((rows3 8).all fun w => chk2 w 2) = true := by decide +kernel
theorem chkC8p4 : ((rows3 8).all fun w => chk2 w 4) = true := by decide +kernel
theorem chkC2p1 : ((rows3 2).all fun w => chk2 w 1) = true := by decide +kernel
theorem chkC2p2 : ((rows3 2).all fun w => chk2 w 2) = true := by decide +kernel
theorem chkC2p4 : ((rows3 2).all fun w => chk2 w 4) = true := by decide +kernel
theorem chkC6p1 : ((rows3 6).all fun w => chk2 w 1) = true := by decide +kernel
theorem chkC6p2 : ((rows3 6).all fun w => chk2 w 2) = true := by decide +kernel
theorem chkC6p4 : ((rows3 6).all fun w => chk2 w 4) = true := by decide +kernel
theorem chkC5p1 : ((rows3 5).all fun w => chk2 w 1) = true := by decide +kernel
theorem chkC5p2 : ((rows3 5).all fun w => chk2 w 2) = true := by decide +kernel
theorem chkC5p4 : ((rows3 5).all fun w => chk2 w 4) = true := by decide +kernel
theorem chkC3p1 : ((rows3 3).all fun w => chk2 w 1) = true := by decide +kernel
theorem chkC3p2 : ((rows3 3).all fun w => chk2 w 2) = true := by decide +kernel
theorem chkC3p4 : ((rows3 3).all fun w => chk2 w 4) = true := by decide +kernel
theorem chkCAll : ∀ a ∈ Dl, ∀ pw : Int, pw = 1 ∨ pw = 2 ∨ pw = 4 → ((rows3 a).all fun w => chk2 w pw) = true := by
  intro a ha pw hp
  simp only [Dl, List.mem_cons, List.not_mem_nil, or_false] at ha
  rcases ha with rfl | rfl | rfl | rfl | rfl | rfl | rfl <;> rcases hp with rfl | rfl | rfl
  · exact chkC0p1
  · exact chkC0p2
  · exact chkC0p4
  · exact chkC4p1
  · exact chkC4p2
  · exact chkC4p4
  · exact chkC8p1
  · exact chkC8p2
  · exact chkC8p4
  · exact chkC2p1
  · exact chkC2p2
  · exact chkC2p4
  · exact chkC6p1
  · exact chkC6p2
  · exact chkC6p4
  · exact chkC5p1
  · exact chkC5p2
  · exact chkC5p4
  · exact chkC3p1
  · exact chkC3p2
  · exact chkC3p4
end Mine
end
namespace Mine
theorem freshAtPl3 : True := by
  (try (walk1; fail))
  w_top off
  trivial
end Mine
section
open PySem PySem.W PySem.Calls PyProof.Rows PyProof.Rows.LCg
set_option autoImplicit false
namespace Mine
set_option maxRecDepth 100000
set_option maxHeartbeats 8000000
theorem fillOfPl3 : PySem.Challenge.rw_rl0102_01 = PySem.Challenge.rw_rl0102_01 ∧ KK = KK := by
  k_fill
  exact ⟨rfl, rfl⟩
variable {w : World} {dp un : Nat} {fr : Option (List Env)} {gd : Option (List Code)} {s : Shared} {h₀ : Heap} {L fa : Addr} {m : Str → Option Value} {news : List (Addr × Obj)} {p : Program} {loose : List Str} {mean : ExcName → Option Value} {mg mb : Str → Option Value}

/-- beyond all the counts the indent is a straight line -/
theorem ind_line {cnt : List Int} {b nt ts : Int} (h : (cnt.length : Int) ≤ ts) : indF cnt b nt ts = b + ts * nt := by
  unfold indF
  have e : ((cnt.length : Int) - ts).toNat = 0 := by omega
  rw [e]
  simp [rangeKs]
theorem line_up {b b' nt nt' k ts : Int} (h : b + k * nt < b' + k * nt') (hk : k ≤ ts) (hn : nt ≤ nt') : b + ts * nt < b' + ts * nt' := by
  have h1 : 0 ≤ (ts - k) * (nt' - nt) := Int.mul_nonneg (by omega) (by omega)
  have h2 : (ts - k) * (nt' - nt) = ts * nt' - ts * nt - k * nt' + k * nt := by
    rw [Int.sub_mul, Int.mul_sub, Int.mul_sub]; omega
  omega
theorem line_down {b b' nt nt' k : Int} (hn : nt' < nt) (hk : 0 ≤ k) (hb : 0 ≤ b) (hb' : b' ≤ k) : b' + k * nt' ≤ b + k * nt := by
  have h1 : k * (nt' + 1) ≤ k * nt := Int.mul_le_mul_of_nonneg_left (by omega) hk
  rw [Int.mul_add, Int.mul_one] at h1
  omega
structure Col (q : WS) (S : Nat) (t : List Int) : Prop where
  n : q.2.2.1 = indF q.1 q.2.1 q.2.2.2 1
  t : t = (List.range' 0 S).map fun j : Nat => indF q.1 q.2.1 q.2.2.2 (1 + (j : Int))
  len : q.1.length ≤ S
  b0 : 0 ≤ q.2.1
  bS : q.2.1 < S
  nt : 0 ≤ q.2.2.2
/-- no pair with the first at or above the second -/
theorem zip_nil {f g : Nat → Int} {S : Nat} : zipG ((List.range' 0 S).map f) ((List.range' 0 S).map g) S = [] ↔ ∀ j, j < S → f j < g j := by
  unfold zipG
  have e : (((List.range' 0 S).map f).zip ((List.range' 0 S).map g)).take S = (List.range' 0 S).map fun j => (f j, g j) := by
    rw [List.zip_map', List.take_of_length_le (by simp)]
  rw [e]
  simp only [List.map_eq_nil_iff, List.filter_eq_nil_iff, List.mem_map, decide_eq_true_eq]
  constructor
  · intro h j hj
    have := h (f j, g j) ⟨j, by simp [List.mem_range']; exact hj, rfl⟩
    dsimp only at this
    omega
  · rintro h p ⟨j, hj, rfl⟩
    have : j < S := by simpa [List.mem_range'] using hj
    have := h j this
    dsimp only
    omega
theorem less_col {q q' : WS} {S : Nat} {t t' : List Int} (hS : 1 ≤ S) (c : Col q S t) (c' : Col q' S t') : lessW q q' = decide (zipG t t' S = []) := by
  obtain ⟨cnt, b, n, nt⟩ := q
  obtain ⟨cnt', b', n', nt'⟩ := q'
  obtain ⟨hn, ht, hl, hb0, hbS, hnt⟩ := c
  obtain ⟨hn', ht', hl', hb0', hbS', hnt'⟩ := c'
  dsimp only at *
  have hz : (zipG t t' S = []) ↔ ∀ j : Nat, j < S → indF cnt b nt (1 + (j : Int)) < indF cnt' b' nt' (1 + (j : Int)) := by
    rw [ht, ht']; exact zip_nil
  have hz' : (zipG t t' S = []) ↔ ∀ k : Int, 1 ≤ k → k ≤ S → indF cnt b nt k < indF cnt' b' nt' k := by
    rw [hz]
    constructor
    · intro h k h1 h2
      have := h (k - 1).toNat (by omega)
      rwa [show (1 : Int) + (((k - 1).toNat : Nat) : Int) = k by omega] at this
    · intro h j hj
      exact h _ (by omega) (by omega)
  unfold lessW
  dsimp only
  by_cases h1 : n' ≤ n
  · rw [less_1 h1]
    symm
    rw [decide_eq_false_iff_not, hz']
    intro h
    have := h 1 (by omega) (by omega)
    omega
  have hlt : indF cnt b nt 1 < indF cnt' b' nt' 1 := by omega
  -- from any k0 on, all is a line
  have up : ∀ k0 : Int, (cnt.length : Int) ≤ k0 → (cnt'.length : Int) ≤ k0 → b' ≤ k0 - 1 → 1 ≤ k0 → k0 ≤ S → indF cnt b nt k0 < indF cnt' b' nt' k0 → ∀ k, k0 ≤ k → indF cnt b nt k < indF cnt' b' nt' k := by
    intro k0 a1 a2 a3 a4 a5 h k hk
    rw [ind_line (by omega), ind_line (by omega)] at h ⊢
    refine line_up h hk ?_
    by_cases hc : nt ≤ nt'
    · exact hc
    · have := line_down (b := b) (b' := b') (nt := nt) (nt' := nt') (k := k0) (by omega) (by omega) hb0 (by omega)
      omega
  by_cases h2 : cnt.length ≤ 1 ∧ cnt'.length ≤ 1
  · rw [less_2 h1 (decide_eq_true (by omega)) (decide_eq_true (by omega))]
    congr 1
    rw [hz']
    apply propext
    constructor
    · intro hc k k1 k2
      have hl1 := hlt
      rw [ind_line (by omega), ind_line (by omega)] at hl1 ⊢
      exact line_up hl1 k1 hc
    · intro h
      have hh := h S (by omega) (by omega)
      rw [ind_line (by omega), ind_line (by omega)] at hh
      by_cases hc : nt ≤ nt'
      · exact hc
      · have := line_down (b := b) (b' := b') (nt := nt) (nt' := nt') (k := S) (by omega) (by omega) hb0 (by omega)
        omega
  · have hs : (decide ((cnt.length : Int) ≤ 1) && decide ((cnt'.length : Int) ≤ 1)) = false := by
      rw [Bool.and_eq_false_iff, decide_eq_false_iff_not, decide_eq_false_iff_not]
      omega
    have hM : ∃ M : Int, (if lrF cnt' b' > lrF cnt b then lrF cnt' b' else lrF cnt b) = M ∧ (cnt.length : Int) ≤ M + 1 ∧ (cnt'.length : Int) ≤ M + 1 ∧ b ≤ M ∧ b' ≤ M ∧ 0 ≤ M ∧ M + 1 ≤ S := by
      refine ⟨_, rfl, ?_, ?_, ?_, ?_, ?_, ?_⟩ <;> (unfold lrF; (repeat' split) <;> omega)
    obtain ⟨M, eM, m1, m2, m3, m4, m5, m6⟩ := hM
    by_cases hall : ∀ k : Nat, k < M.toNat → indF cnt b nt (2 + (k : Int)) < indF cnt' b' nt' (2 + (k : Int))
    · rw [less_4 h1 hs (by rw [eM]; exact hall)]
      symm
      rw [decide_eq_true_eq, hz']
      have low : ∀ k : Int, 1 ≤ k → k ≤ M + 1 → indF cnt b nt k < indF cnt' b' nt' k := by
        intro k k1 k2
        by_cases e : k = 1
        · rw [e]; exact hlt
        · have := hall (k - 2).toNat (by omega)
          rwa [show (2 : Int) + (((k - 2).toNat : Nat) : Int) = k by omega] at this
      intro k k1 k2
      by_cases hk : k ≤ M + 1
      · exact low k k1 hk
      · exact up (M + 1) m1 m2 (by omega) (by omega) m6 (low (M + 1) (by omega) (by omega)) k (by omega)
    · obtain ⟨k, hk⟩ := Classical.not_forall.mp hall
      obtain ⟨hk1, hk2⟩ := Classical.not_imp.mp hk
      rw [less_3 (k := k) h1 hs (by rw [eM]; exact hk1) (by omega)]
      symm
      rw [decide_eq_false_iff_not, hz']
      intro h
      exact hk2 (h _ (by omega) (by omega))
end Mine
end
namespace Mine
theorem freshAtPl4 : True := by
  (try (walk1; fail))
  w_top off
  trivial
end Mine
section
open PySem PySem.W PySem.Calls PyProof.Rows PyProof.Rows.LCg
set_option autoImplicit false
namespace Mine
set_option maxRecDepth 100000
set_option maxHeartbeats 8000000
theorem fillOfPl4 : PySem.Challenge.rw_rl0102_01 = PySem.Challenge.rw_rl0102_01 ∧ KK = KK := by
  k_fill
  exact ⟨rfl, rfl⟩
variable {w : World} {dp un : Nat} {fr : Option (List Env)} {gd : Option (List Code)} {s : Shared} {h₀ : Heap} {L fa : Addr} {m : Str → Option Value} {news : List (Addr × Obj)} {p : Program} {loose : List Str} {mean : ExcName → Option Value} {mg mb : Str → Option Value}

theorem eq_col {q q' : WS} {S : Nat} {t t' : List Int} (c : Col q S t) (c' : Col q' S t') (d : decT S t = (q.1, q.2.1)) (d' : decT S t' = (q'.1, q'.2.1)) (s : q.2.2.2 = q.1.foldl (· + ·) 0) (s' : q'.2.2.2 = q'.1.foldl (· + ·) 0) : eqW q q' = decide (t = t') := by
  unfold eqW
  congr 1
  apply propext
  constructor
  · rintro ⟨e1, e2⟩
    rw [c.t, c'.t, s, s', e1, e2]
  · rintro rfl
    rw [d] at d'
    exact Prod.mk.inj d'
theorem getD_mem {l : List Int} {i : Nat} (h : (0 : Int) ∈ l) : l.getD i 0 ∈ l := by
  rw [List.getD_eq_getElem?_getD]
  cases q : l[i]? with
  | none => simpa using h
  | some v => simpa using List.mem_of_getElem? q
theorem wd_mem (x : Int) : ∃ a ∈ Dl, wd x ∈ rows3 a := by
  have h : ∀ i : Nat, Dl.getD i 0 ∈ Dl := fun i => getD_mem (by decide)
  refine ⟨run0 x, h _, ?_⟩
  unfold rows3
  exact List.mem_flatMap.mpr ⟨_, h _, List.mem_map.mpr ⟨_, h _, rfl⟩⟩
theorem Dl_bd : ∀ a ∈ Dl, 0 ≤ a ∧ a ≤ 8 := by decide
theorem bd_all (x : Int) : Bd (wd x) := by
  have h : ∀ i : Nat, Dl.getD i 0 ∈ Dl := fun i => getD_mem (by decide)
  exact ⟨Dl_bd _ (h _), Dl_bd _ (h _), Dl_bd _ (h _)⟩
theorem pick {P : Wd → Int → Bool} (h : ∀ a ∈ Dl, ∀ pw : Int, pw = 1 ∨ pw = 2 ∨ pw = 4 → ((rows3 a).all fun w => P w pw) = true) (x : Int) {pw : Int} (hp : pw = 1 ∨ pw = 2 ∨ pw = 4) : P (wd x) pw = true := by
  obtain ⟨a, ha, hm⟩ := wd_mem x
  exact List.all_eq_true.mp (h a ha pw hp) _ hm
theorem pw1_all (x : Int) {pw : Int} (hp : pw = 1 ∨ pw = 2 ∨ pw = 4) : PW1 (wd x) pw := by
  have h := pick chkAAll x hp
  simp only [chk1, Bool.and_eq_true, decide_eq_true_eq, List.all_eq_true, List.mem_cons, List.not_mem_nil, or_false] at h
  obtain ⟨⟨⟨⟨⟨⟨⟨⟨h1, h2⟩, h3⟩, h4⟩, h5⟩, h6⟩, h7⟩, h8⟩, h9⟩ := h
  exact ⟨h1, h2, h3, h4, h5, ⟨h6, h7, h8⟩, fun sz a b => h9 sz (by omega)⟩
theorem col_all (x : Int) {pw : Int} (hp : pw = 1 ∨ pw = 2 ∨ pw = 4) : Col (ws (wd x) pw) (nOf pw) (tabF (lf (wd x) pw) pw (nOf pw)) ∧ decT (nOf pw) (tabF (lf (wd x) pw) pw (nOf pw)) = ((ws (wd x) pw).1, (ws (wd x) pw).2.1) ∧ (ws (wd x) pw).2.2.2 = (ws (wd x) pw).1.foldl (· + ·) 0 := by
  have h := pick chkCAll x hp
  simp only [chk2, Bool.and_eq_true, decide_eq_true_eq] at h
  obtain ⟨⟨⟨⟨⟨⟨⟨h1, h2⟩, h3⟩, h4⟩, h5⟩, h6⟩, h7⟩, h8⟩ := h
  exact ⟨⟨h1, h2, h3, h4, h5, h6⟩, h7, h8⟩
theorem pw2_all (x y : Int) {pw : Int} (hp : pw = 1 ∨ pw = 2 ∨ pw = 4) : PW2 (wd x) (wd y) pw := by
  obtain ⟨c, d, s⟩ := col_all x hp
  obtain ⟨c', d', s'⟩ := col_all y hp
  have hS : 1 ≤ nOf pw := by rcases hp with rfl | rfl | rfl <;> decide +kernel
  exact ⟨less_col hS c c', eq_col c c' d d' s s'⟩
theorem wf_all (x y z : Int) : WF (wd x) (wd y) (wd z) := by
  have hP : ∀ x, parseL (txt (wd x) 1) = txt (wd x) 2 ∧ parseL (txt (wd x) 2) = txt (wd x) 4 := fun x => by
    have h1 := pick (P := chkP) chkBAll x (pw := 1) (.inl rfl)
    have h2 := pick (P := chkP) chkBAll x (pw := 2) (.inr (.inl rfl))
    exact ⟨of_decide_eq_true h1, of_decide_eq_true h2⟩
  exact ⟨fun pw hp => ⟨pw1_all x hp, pw1_all y hp, pw1_all z hp, pw2_all x y hp, pw2_all y z hp, pw2_all z x hp⟩, ⟨(hP x).1, (hP y).1, (hP z).1⟩, ⟨(hP x).2, (hP y).2, (hP z).2⟩⟩
end Mine
end
namespace Mine
theorem freshAtW1 : True := by
  (try (walk1; fail))
  w_top off
  trivial
end Mine
section
open PySem PySem.W PySem.Calls PyProof.Rows PyProof.Rows.LCg
set_option autoImplicit false
namespace Mine
set_option maxRecDepth 100000
set_option maxHeartbeats 8000000
theorem fin (hWF : ∀ x y z : Int, WF (wd x) (wd y) (wd z)) (hBd : ∀ x : Int, Bd (wd x)) : PySem.Challenge.rw_rl0102_01.Holds := by
  w_on; o_law
  refine holds_open (q := view) (loose := [Str.ofString "Whitespace", Str.ofString "insort_right", Str.ofString "bisect_right", Str.ofString "bisect_left"]) (Xt := fun s => xlAt view [] s && recOk (RowW.records PySem.Challenge.rw_rl0102_01.row.toRowW) s) (XP := XL view []) (Yf := Hook.obs (kmHook KK KKas KK_as [169])) (Ya := Hook.val (kmHook KK KKas KK_as [169])) (YP := Hook.says (kmHook KK KKas KK_as [169])) (N := 2610) left1 (Hook.of _) (Hook.keeps _) (fun s e => xl_of s (Bool.and_eq_true_iff.mp e).1) XL.keeps (by rfl) (by rfl) (by rfl) (fun s e => recFacts_of (Bool.and_eq_true_iff.mp e).2) (by rfl) (by first | assumption | decide +kernel) (by decide +kernel) ⟨rfl, rfl, rfl, rfl, rfl, by decide +kernel⟩ ?hw ?hc
  case hw => w_witness2
  k_go0
  rename IntsAre _ _ => hI
  rename Top topProg _ _ _ _ _ => T'
  rename Frag.In _ _ => X'
  rename Fr _ _ _ _ => F'
  rename News _ _ _ _ => N'
  rename CodeHd _ _ _ => CH
  rename Heap.IsList _ _ _ => hl
  rename _ = #[] => hg
  refine wpAny_mono (law_run X' T' ?hd ?hu CH F' N' TabOk.empty ⟨_, by assumption⟩ ⟨_, by assumption⟩ ⟨_, by assumption⟩ ⟨_, by assumption⟩ ⟨_, by assumption⟩ ?hm hl hI ?hl hWF hBd ?ret) (fun _ _ h => h) (fun _ _ h => h.elim)
  case hd => decide
  case hu => decide
  case hm => rfl
  case hl => omega
  case ret =>
    intro m' h' tk' ex le' co' si' ss' po' ps' F N K
    refine ⟨⟨.inl ⟨_, .bool true, [], rfl, fun cls => ?_, .bool true, ?_, fun _ => ⟨List.nodup_nil, fun _ h => nomatch h⟩⟩, F.keep, rfl, hg⟩, ⟨_, (N _ (.tail _ (.tail _ (.tail _ (.tail _ (.tail _ (.head _))))))).1⟩, trivial⟩
    · rfl
    · wrow_post
end Mine
end
theorem PySem.Challenge.cw_rl0102_01_holds : PySem.Challenge.rw_rl0102_01.Holds := by
  exact Mine.fin Mine.wf_all Mine.bd_all
